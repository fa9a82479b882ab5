import PyProof.Rows.All
import Wide.All
import OpenK.AllK
import Wide.FinOn
import PySem.Challenge.RW_pe0075_01
set_option Elab.async false
set_option maxRecDepth 100000

/- part Top1 -/
section
open PySem PySem.W PyProof.Rows
set_option maxRecDepth 100000
set_option maxHeartbeats 8000000
namespace Mine
open_top hd for PySem.Challenge.rw_pe0075_01
end Mine

end

/- part Base -/
section
open PySem PySem.W PySem.Calls PyProof.Rows
set_option maxRecDepth 100000
set_option maxHeartbeats 8000000
namespace Mine
noncomputable abbrev Kf (w : World) : Frag := hd.heap_39 w.params
noncomputable abbrev TopH (mean : ExcName → Option Value) (mg mb : Str → Option Value) (h : Heap) : Prop := Top hd.view_39 (looseW hd.view_39 [Str.ofString "_twin_re_1", Str.ofString "_twin_re_2"]) mean mg mb h
abbrev MM (w : World) : Model := model PySem.Challenge.pw_pe0075_01 w
end Mine

end

/- part Plain -/
section
namespace Mine

/- what the law's _law_shown shows: signs are code points; p is the sign ahead -/
def pieceL (n f : Nat) (p : Option Nat) (c : Nat) : List Nat :=
  if c = 46 ∧ p = none then List.replicate (1 + f) 46
  else if c = 46 ∧ (p = some 13 ∨ p = some 10) then List.replicate (1 + n) 46
  else if n = 0 ∨ ¬ (c = 13 ∨ c = 10) then [c]
  else if c = 13 ∨ p = none ∨ p ≠ some 13 then [13, 10]
  else []

def shownL (n f : Nat) : Option Nat → List Nat → List Nat
  | _, [] => []
  | p, c :: r => pieceL n f p c ++ shownL n f (some c) r

/- what quotedata does: the line ends, then the dots -/
def crlfT : Bool → List Nat → List Nat
  | _, [] => []
  | b, c :: r => if c = 13 then 13 :: 10 :: crlfT true r
    else if c = 10 then (if b then crlfT false r else 13 :: 10 :: crlfT false r)
    else c :: crlfT false r

def dotsT : Bool → List Nat → List Nat
  | _, [] => []
  | b, c :: r => if b = true ∧ c = 46 then 46 :: 46 :: dotsT false r else c :: dotsT (c == 10) r

def bolOf : Option Nat → Bool
  | none => true
  | some c => c == 13 || c == 10

theorem crlfT_rep (k : Nat) (b : Bool) (y : List Nat) : crlfT b (List.replicate (k + 1) 46 ++ y) = List.replicate (k + 1) 46 ++ crlfT false y := by
  induction k generalizing b with
  | zero => simp [crlfT, List.replicate_succ]
  | succ k ih =>
    rw [List.replicate_succ, List.cons_append, crlfT, if_neg (by decide), if_neg (by decide), ih, List.cons_append]

theorem dotsT_rep (k : Nat) (y : List Nat) : dotsT false (List.replicate k 46 ++ y) = List.replicate k 46 ++ dotsT false y := by
  induction k with
  | zero => simp
  | succ k ih =>
    rw [List.replicate_succ, List.cons_append, dotsT, if_neg (by simp)]
    show 46 :: dotsT false _ = _
    rw [ih, List.cons_append]

theorem dotsT_rep1 (k : Nat) (y : List Nat) : dotsT true (List.replicate (k + 1) 46 ++ y) = List.replicate (k + 2) 46 ++ dotsT false y := by
  rw [List.replicate_succ, List.cons_append, dotsT, if_pos (by simp), dotsT_rep, List.replicate_succ, List.replicate_succ]
  rfl

theorem quote_from (n f : Nat) (p : Option Nat) (x : List Nat) :
    dotsT (bolOf p) (crlfT (decide (n = 0) && (p == some 13)) (shownL n f p x)) = shownL (n + 1) (f + 1) p x := by
  induction x generalizing p with
  | nil => rfl
  | cons c r ih =>
    have ih := ih (some c)
    simp only [shownL]
    by_cases h46 : c = 46
    · subst h46
      have hb : bolOf (some 46) = false := rfl
      have hc : (decide (n = 0) && (some 46 == some 13)) = false := by simp
      rw [hb, hc] at ih
      cases p with
      | none =>
        have e1 : pieceL n f none 46 = List.replicate (f + 1) 46 := by simp [pieceL, Nat.add_comm]
        have e2 : pieceL (n + 1) (f + 1) none 46 = List.replicate (f + 2) 46 := by simp [pieceL]; omega
        rw [e1, e2, crlfT_rep]
        show dotsT true _ = _
        rw [dotsT_rep1, ih]
      | some q =>
        by_cases hq : q = 13 ∨ q = 10
        · have e1 : pieceL n f (some q) 46 = List.replicate (n + 1) 46 := by simp [pieceL, hq, Nat.add_comm]
          have e2 : pieceL (n + 1) (f + 1) (some q) 46 = List.replicate (n + 2) 46 := by simp [pieceL, hq]; omega
          have e3 : bolOf (some q) = true := by simp [bolOf, hq]
          rw [e1, e2, e3, crlfT_rep, dotsT_rep1, ih]
        · have e1 : pieceL n f (some q) 46 = List.replicate 1 46 := by simp [pieceL, hq]
          have e2 : pieceL (n + 1) (f + 1) (some q) 46 = [46] := by simp [pieceL, hq]
          have e3 : bolOf (some q) = false := by simp only [not_or] at hq; simp [bolOf, hq]
          rw [e1, e2, e3, crlfT_rep, dotsT_rep, ih]
          rfl
    · by_cases h13 : c = 13
      · subst h13
        have hb : bolOf (some 13) = true := rfl
        rw [hb] at ih
        have e2 : pieceL (n + 1) (f + 1) p 13 = [13, 10] := by simp [pieceL]
        rw [e2]
        by_cases hn : n = 0
        · have e1 : pieceL n f p 13 = [13] := by simp [pieceL, hn]
          have e3 : (decide (n = 0) && (some 13 == some 13)) = true := by simp [hn]
          rw [e3] at ih
          rw [e1]
          show dotsT _ (crlfT _ (13 :: _)) = _
          rw [crlfT, if_pos rfl, dotsT, if_neg (by simp)]
          show 13 :: dotsT false (10 :: _) = _
          rw [dotsT, if_neg (by simp)]
          show 13 :: 10 :: dotsT true _ = _
          exact congrArg (fun z => 13 :: 10 :: z) ih
        · have e1 : pieceL n f p 13 = [13, 10] := by simp [pieceL, hn]
          have e3 : (decide (n = 0) && (some 13 == some 13)) = false := by simp [hn]
          rw [e3] at ih
          rw [e1]
          show dotsT _ (crlfT _ (13 :: 10 :: _)) = _
          rw [crlfT, if_pos rfl, crlfT, if_neg (by decide), if_pos rfl, if_pos rfl, dotsT, if_neg (by simp)]
          show 13 :: dotsT false (10 :: _) = _
          rw [dotsT, if_neg (by simp)]
          show 13 :: 10 :: dotsT true _ = _
          exact congrArg (fun z => 13 :: 10 :: z) ih
      · by_cases h10 : c = 10
        · subst h10
          have hb : bolOf (some 10) = true := rfl
          have e3 : (decide (n = 0) && (some 10 == some 13)) = false := by simp
          rw [hb, e3] at ih
          by_cases hn : n = 0
          · have e1 : pieceL n f p 10 = [10] := by simp [pieceL, hn]
            rw [e1]
            show dotsT _ (crlfT _ (10 :: _)) = _
            by_cases hp : p = some 13
            · have e2 : pieceL (n + 1) (f + 1) p 10 = [] := by simp [pieceL, hp]
              rw [e2, crlfT, if_neg (by decide), if_pos rfl, if_pos (by simp [hn, hp])]
              have : bolOf p = true := by rw [hp]; rfl
              rw [this]; first | exact ih | exact congrArg (fun z => c :: z) ih
            · have e2 : pieceL (n + 1) (f + 1) p 10 = [13, 10] := by simp [pieceL, hp]
              have hf : (decide (n = 0) && (p == some 13)) = false := by simp [hp]
              rw [e2, hf, crlfT, if_neg (by decide), if_pos rfl, if_neg (by decide), dotsT, if_neg (by simp)]
              show 13 :: dotsT false (10 :: _) = _
              rw [dotsT, if_neg (by simp)]
              show 13 :: 10 :: dotsT true _ = _
              exact congrArg (fun z => 13 :: 10 :: z) ih
          · have hf : (decide (n = 0) && (p == some 13)) = false := by simp [hn]
            rw [hf]
            by_cases hp : p = some 13
            · have e1 : pieceL n f p 10 = [] := by simp [pieceL, hp, hn]
              have e2 : pieceL (n + 1) (f + 1) p 10 = [] := by simp [pieceL, hp]
              have : bolOf p = true := by rw [hp]; rfl
              rw [e1, e2, this]
              exact ih
            · have e1 : pieceL n f p 10 = [13, 10] := by simp [pieceL, hp, hn]
              have e2 : pieceL (n + 1) (f + 1) p 10 = [13, 10] := by simp [pieceL, hp]
              rw [e1, e2]
              show dotsT _ (crlfT _ (13 :: 10 :: _)) = _
              rw [crlfT, if_pos rfl, crlfT, if_neg (by decide), if_pos rfl, if_pos rfl, dotsT, if_neg (by simp)]
              show 13 :: dotsT false (10 :: _) = _
              rw [dotsT, if_neg (by simp)]
              show 13 :: 10 :: dotsT true _ = _
              exact congrArg (fun z => 13 :: 10 :: z) ih
        · have e1 : pieceL n f p c = [c] := by simp [pieceL, h46, h13, h10]
          have e2 : pieceL (n + 1) (f + 1) p c = [c] := by simp [pieceL, h46, h13, h10]
          have hb : bolOf (some c) = false := by simp [bolOf, h13, h10]
          have hcc : (decide (n = 0) && (some c == some 13)) = false := by simp [h13]
          rw [hb, hcc] at ih
          rw [e1, e2]
          show dotsT _ (crlfT _ (c :: _)) = _
          rw [crlfT, if_neg h13, if_neg h10, dotsT, if_neg (by simp [h46])]
          have : (c == 10) = false := by simp [h10]
          rw [this]; first | exact ih | exact congrArg (fun z => c :: z) ih

theorem quote_shown (n f : Nat) (x : List Nat) : dotsT true (crlfT false (shownL n f none x)) = shownL (n + 1) (f + 1) none x := by
  have := quote_from n f none x
  simpa [bolOf] using this

/- parting at ticks -/
def tick1 : List Nat → Option (List Nat × List Nat)
  | [] => none
  | c :: r => if c = 39 then some ([], r) else (tick1 r).map fun ab => (c :: ab.1, ab.2)

theorem tick1_free {x : List Nat} : tick1 x = none ↔ 39 ∉ x := by
  induction x with
  | nil => simp [tick1]
  | cons c r ih =>
    rw [tick1]
    by_cases h : c = 39
    · simp [h]
    · simp [h, ih, Ne.symm h]

theorem tick1_some {x a b : List Nat} (h : tick1 x = some (a, b)) : x = a ++ 39 :: b ∧ 39 ∉ a := by
  induction x generalizing a b with
  | nil => cases h
  | cons c r ih =>
    rw [tick1] at h
    by_cases hc : c = 39
    · rw [if_pos hc] at h
      cases h
      simp [hc]
    · rw [if_neg hc] at h
      cases ht : tick1 r with
      | none => rw [ht] at h; cases h
      | some ab =>
        rw [ht] at h
        cases h
        obtain ⟨e, hn⟩ := ih ht
        refine ⟨?_, ?_⟩
        · rw [e]; rfl
        · simp [hn, Ne.symm hc]

theorem tick1_mk {a b : List Nat} (h : 39 ∉ a) : tick1 (a ++ 39 :: b) = some (a, b) := by
  induction a with
  | nil => simp [tick1]
  | cons c r ih =>
    simp only [List.mem_cons, not_or] at h
    rw [List.cons_append, tick1, if_neg (fun e => h.1 e.symm), ih h.2]
    rfl

theorem pieceL_free {n f : Nat} {p : Option Nat} {c : Nat} (h : c ≠ 39) : 39 ∉ pieceL n f p c := by
  unfold pieceL
  split
  · simp [List.mem_replicate]
  · split
    · simp [List.mem_replicate]
    · split
      · simp [Ne.symm h]
      · split <;> simp

theorem shownL_free {n f : Nat} {p : Option Nat} {x : List Nat} (h : 39 ∉ x) : 39 ∉ shownL n f p x := by
  induction x generalizing p with
  | nil => simp [shownL]
  | cons c r ih =>
    simp only [List.mem_cons, not_or] at h
    simp only [shownL, List.mem_append, not_or]
    exact ⟨pieceL_free (Ne.symm h.1), ih h.2⟩

theorem shownL_append (n f : Nat) (p : Option Nat) (a b : List Nat) (c : Nat) : shownL n f p (a ++ c :: b) = shownL n f p (a ++ [c]) ++ shownL n f (some c) b := by
  induction a generalizing p with
  | nil => simp [shownL]
  | cons d r ih => simp only [List.cons_append, shownL]; rw [ih, List.append_assoc]

theorem shownL_tick (n f : Nat) (p : Option Nat) (a b : List Nat) : shownL n f p (a ++ 39 :: b) = shownL n f p a ++ 39 :: shownL n f (some 39) b := by
  rw [shownL_append]
  have : shownL n f p (a ++ [39]) = shownL n f p a ++ [39] := by
    induction a generalizing p with
    | nil => simp [shownL, pieceL]
    | cons d r ih => simp only [List.cons_append, shownL]; rw [ih, List.append_assoc]
  rw [this, List.append_assoc]; rfl

theorem pieceL_39 (n f c : Nat) : pieceL n f (some 39) c = pieceL n 0 none c := by
  by_cases h : c = 46
  · subst h; simp [pieceL]
  · simp [pieceL, h]

theorem pieceL_some (n f f' : Nat) (q c : Nat) : pieceL n f (some q) c = pieceL n f' (some q) c := by
  simp [pieceL]

theorem shownL_some (n f f' : Nat) (q : Nat) (x : List Nat) : shownL n f (some q) x = shownL n f' (some q) x := by
  induction x generalizing q with
  | nil => rfl
  | cons c r ih => simp only [shownL]; rw [pieceL_some n f f', ih]

theorem shownL_39 (n f : Nat) (x : List Nat) : shownL n f (some 39) x = shownL n 0 none x := by
  cases x with
  | nil => rfl
  | cons c r => simp only [shownL]; rw [pieceL_39, shownL_some n f 0]

def parts3 (x : List Nat) : Option (List Nat × List Nat × List Nat) :=
  match tick1 x with
  | none => none
  | some (a, b) => match tick1 b with
    | none => none
    | some (c, d) => some (a, c, d)

theorem tick1_shown (n f : Nat) (p : Option Nat) (x : List Nat) : tick1 (shownL n f p x) = (tick1 x).map fun ab => (shownL n f p ab.1, shownL n 0 none ab.2) := by
  cases h : tick1 x with
  | none =>
    have := shownL_free (n := n) (f := f) (p := p) (tick1_free.mp h)
    rw [tick1_free.mpr this]; rfl
  | some ab =>
    obtain ⟨a, b⟩ := ab
    obtain ⟨e, hn⟩ := tick1_some h
    rw [e, shownL_tick, tick1_mk (shownL_free hn), shownL_39]; rfl

theorem parts3_shown (n f : Nat) (p : Option Nat) (x : List Nat) :
    parts3 (shownL n f p x) = (parts3 x).map fun t => (shownL n f p t.1, shownL n 0 none t.2.1, shownL n 0 none t.2.2) := by
  unfold parts3
  rw [tick1_shown]
  cases tick1 x with
  | none => rfl
  | some ab =>
    obtain ⟨a, b⟩ := ab
    simp only [Option.map_some]
    rw [tick1_shown]
    cases tick1 b with
    | none => rfl
    | some cd => rfl
end Mine

end

/- part Plain2 -/
section
namespace Mine

/- _law_closes -/
def lcStep (st : List Nat × Int × Bool) (c : Nat) : List Nat × Int × Bool :=
  if st.2.2 = true then (st.1, st.2.1, false)
  else if c = 92 then (st.1, st.2.1, true)
  else if c = 34 ∧ st.2.1 < 0 then (st.1, (st.1.length : Int), false)
  else if c = 34 then (st.1.take st.2.1.toNat, -1, false)
  else if c = 40 ∨ c = 41 then (st.1 ++ [c], st.2.1, false)
  else (st.1, st.2.1, false)
def heights : Int → List Nat → Bool
  | h, [] => h == 0
  | h, c :: r => if h + (if c = 40 then 1 else -1) < 0 then false else heights (h + (if c = 40 then 1 else -1)) r
def closesL (x : List Nat) : Bool := heights 0 (x.foldl lcStep ([], -1, false)).1

/- _iter_escaped_chars -/
def itemsF : Nat → List Nat → List (Nat × List Nat)
  | _, [] => []
  | i, [c] => [(i, [c])]
  | i, c :: d :: r => if c = 92 then (i + 1, [92, d]) :: itemsF (i + 2) r else (i, [c]) :: itemsF (i + 1) (d :: r)
theorem itemsF_cons (i c : Nat) (r : List Nat) : itemsF i (c :: r) = if c = 92 then (match r with
      | [] => [(i, [92])]
      | d :: r' => (i + 1, [92, d]) :: itemsF (i + 2) r')
    else (i, [c]) :: itemsF (i + 1) r := by
  cases r with
  | nil => by_cases h : c = 92 <;> simp [itemsF, h]
  | cons d r' => rw [itemsF]

/- _strip_quoted_realnames -/
structure SQ where
  start : Nat
  op : Option Nat
  res : List (List Nat)
def sqStep (addr : List Nat) (st : SQ) (it : Nat × List Nat) : SQ :=
  if it.2 = [34] then (match st.op with
    | none => ⟨st.start, some it.1, st.res⟩
    | some o => ⟨it.1 + 1, none, if st.start ≠ o then st.res ++ [(addr.take o).drop st.start] else st.res⟩)
  else st
def sqEnd (addr : List Nat) (st : SQ) : List Nat := (if st.start < addr.length then st.res ++ [addr.drop st.start] else st.res).flatten
def stripT (addr : List Nat) : List Nat := sqEnd addr ((itemsF 0 addr).foldl (sqStep addr) ⟨0, none, []⟩)

/- _check_parenthesis -/
def ckF : Int → List (Nat × List Nat) → Bool
  | o, [] => o == 0
  | o, it :: r => if it.2 = [40] then ckF (o + 1) r else if it.2 = [41] then (if o - 1 < 0 then false else ckF (o - 1) r) else ckF o r
def checkT (y : List Nat) : Bool := ckF 0 (itemsF 0 y)

/- the signs that count -/
def core : Bool → List Nat → List Nat
  | _, [] => []
  | true, _ :: r => core false r
  | false, c :: r => if c = 92 then core true r else if c = 34 ∨ c = 40 ∨ c = 41 then c :: core false r else core false r
def after : Bool → List Nat → Bool
  | t, [] => t
  | true, _ :: r => after false r
  | false, c :: r => after (c == 92) r

theorem after_append (t : Bool) (a b : List Nat) : after t (a ++ b) = after (after t a) b := by
  induction a generalizing t with
  | nil => rfl
  | cons c r ih => cases t <;> simp [after, ih]
theorem core_append (t : Bool) (a b : List Nat) : core t (a ++ b) = core t a ++ core (after t a) b := by
  induction a generalizing t with
  | nil => rfl
  | cons c r ih =>
    cases t with
    | true => simp [core, after, ih]
    | false =>
      by_cases h : c = 92
      · simp [core, after, h, ih]
      · by_cases h2 : c = 34 ∨ c = 40 ∨ c = 41
        · have hb : (c == 92) = false := by simp [h]
          simp [core, after, h, h2, ih, hb]
        · have hb : (c == 92) = false := by simp [h]
          simp [core, after, h, h2, ih, hb]

def tokStep (st : List Nat × Int) (c : Nat) : List Nat × Int :=
  if c = 34 then (if st.2 < 0 then (st.1, (st.1.length : Int)) else (st.1.take st.2.toNat, -1)) else (st.1 ++ [c], st.2)

theorem lc_tok (x : List Nat) (br : List Nat) (op : Int) (t : Bool) :
    x.foldl lcStep (br, op, t) = (((core t x).foldl tokStep (br, op)).1, ((core t x).foldl tokStep (br, op)).2, after t x) := by
  induction x generalizing br op t with
  | nil => rfl
  | cons c r ih =>
    rw [List.foldl_cons]
    cases t with
    | true => rw [show lcStep (br, op, true) c = (br, op, false) from by simp [lcStep], ih]; rfl
    | false =>
      by_cases h : c = 92
      · rw [show lcStep (br, op, false) c = (br, op, true) from by simp [lcStep, h], ih]
        simp [core, after, h]
      · by_cases h34 : c = 34
        · by_cases ho : op < 0
          · rw [show lcStep (br, op, false) c = (br, (br.length : Int), false) from by simp [lcStep, h34, ho], ih]
            simp [core, after, h34, tokStep, ho]
          · rw [show lcStep (br, op, false) c = (br.take op.toNat, -1, false) from by simp [lcStep, h34, ho], ih]
            simp [core, after, h34, tokStep, ho]
        · by_cases hp : c = 40 ∨ c = 41
          · rw [show lcStep (br, op, false) c = (br ++ [c], op, false) from by simp [lcStep, h, h34, hp], ih]
            have hb : (c == 92) = false := by simp [h]
            simp [core, after, h, h34, hp, tokStep, hb]
          · rw [show lcStep (br, op, false) c = (br, op, false) from by simp [lcStep, h, h34, hp], ih]
            have hb : (c == 92) = false := by simp [h]
            simp [core, after, h, h34, hp, hb]

theorem closesL_core (x : List Nat) : closesL x = heights 0 ((core false x).foldl tokStep ([], -1)).1 := by
  unfold closesL; rw [lc_tok]

theorem core_neutral {c : Nat} (h : c ≠ 92 ∧ c ≠ 34 ∧ c ≠ 40 ∧ c ≠ 41) (r : List Nat) : core false (c :: r) = core false r := by
  simp [core, h]
theorem core_rep (k : Nat) (r : List Nat) : core false (List.replicate k 46 ++ r) = core false r := by
  induction k with
  | zero => rfl
  | succ k ih => rw [List.replicate_succ, List.cons_append, core_neutral (by decide), ih]

theorem core_shown (n f : Nat) (p : Option Nat) (t : Bool) (x : List Nat) (ht : t = true → p = some 92) : core t (shownL n f p x) = core t x := by
  induction x generalizing p t with
  | nil => rfl
  | cons c r ih =>
    simp only [shownL]
    have ihf : core false (shownL n f (some c) r) = core false r := ih (some c) false (by simp)
    by_cases h46 : c = 46
    · subst h46
      by_cases hp : p = none
      · have e1 : pieceL n f p 46 = List.replicate (1 + f) 46 := by simp [pieceL, hp]
        have : t = false := by cases t with | false => rfl | true => have := ht rfl; rw [hp] at this; cases this
        subst this
        rw [e1, core_rep, ihf, core_neutral (by decide)]
      · by_cases hq : p = some 13 ∨ p = some 10
        · have e1 : pieceL n f p 46 = List.replicate (1 + n) 46 := by simp [pieceL, hp, hq]
          have : t = false := by
            cases t with
            | false => rfl
            | true => have := ht rfl; rw [this] at hq; simp at hq
          subst this
          rw [e1, core_rep, ihf, core_neutral (by decide)]
        · have e1 : pieceL n f p 46 = [46] := by simp [pieceL, hp, hq]
          rw [e1]
          cases t with
          | true => simpa [core] using ihf
          | false => simpa [core] using ihf
    · by_cases hc : c = 13 ∨ c = 10
      · have hcn : c ≠ 92 ∧ c ≠ 34 ∧ c ≠ 40 ∧ c ≠ 41 := by rcases hc with rfl | rfl <;> decide
        by_cases hn : n = 0
        · have e1 : pieceL n f p c = [c] := by simp [pieceL, h46, hn]
          rw [e1]
          cases t with
          | true => simpa [core] using ihf
          | false => rw [List.singleton_append, core_neutral hcn, core_neutral hcn, ihf]
        · by_cases hd : c = 13 ∨ p = none ∨ p ≠ some 13
          · have e1 : pieceL n f p c = [13, 10] := by
              unfold pieceL
              rw [if_neg (by simp [h46]), if_neg (by simp [h46]), if_neg (by simp [hn, hc]), if_pos hd]
            rw [e1]
            cases t with
            | true => simpa [core] using ihf
            | false =>
              rw [core_neutral hcn]
              show core false (13 :: 10 :: shownL n f (some c) r) = _
              rw [core_neutral (by decide), core_neutral (by decide), ihf]
          · have e1 : pieceL n f p c = [] := by
              unfold pieceL
              rw [if_neg (by simp [h46]), if_neg (by simp [h46]), if_neg (by simp [hn, hc]), if_neg hd]
            have : t = false := by
              cases t with
              | false => rfl
              | true =>
                have := ht rfl
                exfalso; apply hd; right; right; rw [this]; simp
            subst this
            rw [e1, core_neutral hcn]
            exact ihf
      · have e1 : pieceL n f p c = [c] := by
          unfold pieceL
          rw [if_neg (by simp [h46]), if_neg (by simp [h46]), if_pos (by simp [hc])]
        rw [e1]
        cases t with
        | true => simpa [core] using ihf
        | false =>
          by_cases h92 : c = 92
          · subst h92
            have iht : core true (shownL n f (some 92) r) = core true r := ih (some 92) true (by simp)
            simpa [core] using iht
          · by_cases h3 : c = 34 ∨ c = 40 ∨ c = 41
            · simp [core, h92, h3, ihf]
            · simp [core, h92, h3, ihf]

theorem closes_shown (n f : Nat) (x : List Nat) : closesL (shownL n f none x) = closesL x := by
  rw [closesL_core, closesL_core, core_shown n f none false x (by simp)]

/- the code's reading -/
def par (l : List Nat) : List Nat := l.filter (fun c => c != 34)
theorem par_append (a b : List Nat) : par (a ++ b) = par a ++ par b := by simp [par]

theorem core_34 (r : List Nat) : core false (34 :: r) = 34 :: core false r := by simp [core]
theorem core_92 (d : Nat) (r : List Nat) : core false (92 :: d :: r) = core false r := by simp [core]
theorem core_921 : core false [92] = [] := by simp [core]

theorem check_par : ∀ (y : List Nat) (i : Nat) (o : Int), 0 ≤ o → ckF o (itemsF i y) = heights o (par (core false y))
  | [], _, _, _ => rfl
  | c :: r, i, o, ho => by
    rw [itemsF_cons]
    by_cases h : c = 92
    · rw [if_pos h]
      subst h
      match r with
      | [] => rfl
      | d :: r' =>
        rw [core_92]
        show ckF o ((i + 1, [92, d]) :: itemsF (i + 2) r') = _
        rw [ckF, if_neg (by simp), if_neg (by simp), check_par r' (i + 2) o ho]
    · rw [if_neg h, ckF]
      by_cases h40 : c = 40
      · subst h40
        rw [if_pos rfl, check_par r (i + 1) (o + 1) (by omega)]
        have : par (core false (40 :: r)) = 40 :: par (core false r) := by simp [core, par]
        rw [this, heights, if_pos rfl, if_neg (by omega)]
      · by_cases h41 : c = 41
        · subst h41
          have : par (core false (41 :: r)) = 41 :: par (core false r) := by simp [core, par]
          have e41 : (if (41 : Nat) = 40 then (1 : Int) else -1) = -1 := by decide
          rw [if_neg (by simp), if_pos rfl, this, heights, e41]
          by_cases hlt : o - 1 < 0
          · rw [if_pos hlt, if_pos (by omega)]
          · rw [if_neg hlt, if_neg (by omega), check_par r (i + 1) (o - 1) (by omega)]; rfl
        · rw [if_neg (by simp [h40]), if_neg (by simp [h41]), check_par r (i + 1) o ho]
          have : par (core false (c :: r)) = par (core false r) := by
            by_cases h34 : c = 34
            · subst h34; simp [core, par]
            · simp [core, h, h34, h40, h41]
          rw [this]

theorem heights_any (h : Int) (l : List Nat) : heights h l = heights h l := rfl

def brOf (x : List Nat) : List Nat × Int := (core false x).foldl tokStep ([], -1)
theorem brOf_append {a b : List Nat} (h : after false a = false) : brOf (a ++ b) = (core false b).foldl tokStep (brOf a) := by
  unfold brOf; rw [core_append, h, List.foldl_append]

def SqInv (pre : List Nat) (st : SQ) : Prop :=
  after false pre = false ∧
  match st.op with
  | none => (brOf pre).2 = -1 ∧ st.start ≤ pre.length ∧ par (core false (st.res.flatten ++ pre.drop st.start)) = (brOf pre).1 ∧ after false (st.res.flatten ++ pre.drop st.start) = false
  | some o => ∃ k : Nat, (brOf pre).2 = (k : Int) ∧ k ≤ (brOf pre).1.length ∧ st.start ≤ o ∧ o < pre.length ∧
      after false (st.res.flatten ++ (pre.take o).drop st.start) = false ∧ par (core false (st.res.flatten ++ (pre.take o).drop st.start)) = (brOf pre).1.take k ∧
      par (core false (pre.drop o)) = (brOf pre).1.drop k ∧ after false (pre.drop o) = false

theorem sqEnd_eq (addr : List Nat) (st : SQ) : sqEnd addr st = st.res.flatten ++ addr.drop st.start := by
  unfold sqEnd
  split
  · simp
  · rename_i h
    rw [List.drop_eq_nil_of_le (by omega)]; simp

theorem slice_split (pre : List Nat) (s o : Nat) (h : s ≤ o) (h2 : o ≤ pre.length) : pre.drop s = (pre.take o).drop s ++ pre.drop o := by
  conv => lhs; rw [← List.take_append_drop o pre]
  rw [List.drop_append_of_le_length (by rw [List.length_take]; omega)]

theorem SqInv.fin {pre : List Nat} {st : SQ} (h : SqInv pre st) : par (core false (st.res.flatten ++ pre.drop st.start)) = (brOf pre).1 := by
  obtain ⟨start, op, res⟩ := st
  cases op with
  | none => exact h.2.2.2.1
  | some o =>
    obtain ⟨_, k, _, _, hs, ho, ha, h1, h2, _⟩ := h
    simp only at *
    rw [slice_split pre start o hs (by omega), ← List.append_assoc, core_append, ha, par_append, h1, h2, List.take_append_drop]

/- one item behind: a sign that is no quotation mark, or an escaped pair -/
theorem SqInv.more {pre : List Nat} {st : SQ} (h : SqInv pre st) (e : List Nat) (he : after false e = false) (hq : ∀ b : List Nat × Int, (core false e).foldl tokStep b = (b.1 ++ par (core false e), b.2)) : SqInv (pre ++ e) st := by
  obtain ⟨ha, h⟩ := h
  have hb : brOf (pre ++ e) = ((brOf pre).1 ++ par (core false e), (brOf pre).2) := by rw [brOf_append ha, hq]
  refine ⟨by rw [after_append, ha, he], ?_⟩
  obtain ⟨start, op, res⟩ := st
  cases op with
  | none =>
    obtain ⟨h1, h2, h3, h4⟩ := h
    simp only at *
    have hd : (pre ++ e).drop start = pre.drop start ++ e := List.drop_append_of_le_length h2
    refine ⟨by rw [hb, h1], by rw [List.length_append]; omega, ?_, ?_⟩
    · rw [hd, ← List.append_assoc, core_append, h4, par_append, h3, hb]
    · rw [hd, ← List.append_assoc, after_append, h4, he]
  | some o =>
    obtain ⟨k, h1, h2, h3, h4, h5, h6, h7, h8⟩ := h
    simp only at *
    have ht : (pre ++ e).take o = pre.take o := by rw [List.take_append_of_le_length (by omega)]
    have hd : (pre ++ e).drop o = pre.drop o ++ e := List.drop_append_of_le_length (by omega)
    refine ⟨k, by rw [hb, h1], by rw [hb]; simp; omega, h3, by rw [List.length_append]; omega, by rw [ht]; exact h5, ?_, ?_, ?_⟩
    · rw [ht, h6, hb, List.take_append_of_le_length h2]
    · rw [hd, core_append, h8, par_append, h7, hb, List.drop_append_of_le_length h2]
    · rw [hd, after_append, h8, he]

theorem SqInv.quote {pre rest : List Nat} {st : SQ} (h : SqInv pre st) : SqInv (pre ++ [34]) (sqStep (pre ++ 34 :: rest) st (pre.length, [34])) := by
  obtain ⟨ha, h⟩ := h
  have hb : brOf (pre ++ [34]) = tokStep (brOf pre) 34 := by rw [brOf_append ha]; rfl
  refine ⟨by rw [after_append, ha]; rfl, ?_⟩
  obtain ⟨start, op, res⟩ := st
  cases op with
  | none =>
    obtain ⟨h1, h2, h3, h4⟩ := h
    simp only at *
    have hb' : brOf (pre ++ [34]) = ((brOf pre).1, ((brOf pre).1.length : Int)) := by rw [hb]; simp [tokStep, h1]
    have e0 : sqStep (pre ++ 34 :: rest) ⟨start, none, res⟩ (pre.length, [34]) = ⟨start, some pre.length, res⟩ := by simp [sqStep]
    rw [e0]
    have ht : (pre ++ [34]).take pre.length = pre := by simp
    refine ⟨(brOf pre).1.length, by rw [hb'], by rw [hb']; exact Nat.le_refl _, h2, by simp, ?_, ?_, ?_, ?_⟩
    · rw [ht]; exact h4
    · rw [ht, h3, hb']; simp
    · have : (pre ++ [34]).drop pre.length = [34] := by simp
      rw [this, hb']; simp [core, par]
    · have : (pre ++ [34]).drop pre.length = [34] := by simp
      rw [this]; rfl
  | some o =>
    obtain ⟨k, h1, h2, h3, h4, h5, h6, h7, h8⟩ := h
    simp only at *
    have hb' : brOf (pre ++ [34]) = ((brOf pre).1.take k, -1) := by
      rw [hb]; unfold tokStep; rw [if_pos rfl, h1, if_neg (by omega)]; simp
    have hto : (pre ++ 34 :: rest).take o = pre.take o := by rw [List.take_append_of_le_length (by omega)]
    have e0 : sqStep (pre ++ 34 :: rest) ⟨start, some o, res⟩ (pre.length, [34]) = ⟨pre.length + 1, none, if start ≠ o then res ++ [(pre.take o).drop start] else res⟩ := by
      simp [sqStep, hto]
    have ef : (if start ≠ o then res ++ [(pre.take o).drop start] else res).flatten = res.flatten ++ (pre.take o).drop start := by
      by_cases he : start = o
      · subst he
        have : (pre.take start).drop start = [] := List.drop_eq_nil_of_le (by rw [List.length_take]; omega)
        simp [this]
      · simp [he]
    rw [e0]
    have hd : (pre ++ [34]).drop (pre.length + 1) = [] := List.drop_eq_nil_of_le (by simp)
    refine ⟨by rw [hb'], by simp, ?_, ?_⟩
    · rw [hd, ef, List.append_nil, h6, hb']
    · rw [hd, ef, List.append_nil, h5]

theorem strip_run : ∀ (rest pre : List Nat) (st : SQ), SqInv pre st →
    par (core false (sqEnd (pre ++ rest) ((itemsF pre.length rest).foldl (sqStep (pre ++ rest)) st))) = (brOf (pre ++ rest)).1
  | [], pre, st, h => by
    rw [List.append_nil, sqEnd_eq]; exact h.fin
  | c :: r, pre, st, h => by
    rw [itemsF_cons]
    by_cases hc : c = 92
    · subst hc
      rw [if_pos rfl]
      match r with
      | [] =>
        have e0 : sqStep (pre ++ [92]) st (pre.length, [92]) = st := by simp [sqStep]
        show par (core false (sqEnd _ (sqStep (pre ++ [92]) st (pre.length, [92])))) = _
        rw [e0, sqEnd_eq]
        have hs : st.start ≤ pre.length := by
          obtain ⟨start, op, res⟩ := st
          cases op with
          | none => exact h.2.2.1
          | some o => obtain ⟨_, k, _, _, h3, h4, _⟩ := h; simp only at *; omega
        have hz : ∀ t, core t [92] = [] := fun t => by cases t <;> simp [core]
        rw [List.drop_append_of_le_length hs, ← List.append_assoc, core_append, hz, List.append_nil, h.fin, brOf_append h.1, hz]
        rfl
      | d :: r' =>
        have e0 : sqStep (pre ++ 92 :: d :: r') st (pre.length + 1, [92, d]) = st := by simp [sqStep]
        show par (core false (sqEnd _ ((itemsF (pre.length + 2) r').foldl (sqStep (pre ++ 92 :: d :: r')) (sqStep (pre ++ 92 :: d :: r') st (pre.length + 1, [92, d]))))) = _
        rw [e0]
        have h' : SqInv (pre ++ [92, d]) st := h.more [92, d] (by simp [after]) (fun b => by simp [core, par])
        have := strip_run r' (pre ++ [92, d]) st h'
        simpa using this
    · rw [if_neg hc, List.foldl_cons]
      by_cases h34 : c = 34
      · subst h34
        have h' := h.quote (rest := r)
        have := strip_run r (pre ++ [34]) _ h'
        simpa using this
      · have e0 : sqStep (pre ++ c :: r) st (pre.length, [c]) = st := by simp [sqStep, h34]
        rw [e0]
        have h' : SqInv (pre ++ [c]) st := h.more [c] (by simp [after, hc]) (fun b => by
          by_cases hp : c = 40 ∨ c = 41
          · simp [core, par, hc, h34, hp, tokStep]
          · simp [core, par, hc, h34, hp])
        have := strip_run r (pre ++ [c]) st h'
        simpa using this

theorem check_strip (t : List Nat) : checkT (stripT t) = closesL t := by
  unfold checkT
  rw [check_par _ _ _ (by decide), closesL_core]
  have h0 : SqInv [] ⟨0, none, []⟩ := ⟨rfl, rfl, Nat.le_refl _, rfl, rfl⟩
  have := strip_run t [] ⟨0, none, []⟩ h0
  simp only [List.nil_append, List.length_nil] at this
  unfold stripT
  rw [this]; rfl

theorem check_shown (n f : Nat) (x : List Nat) : checkT (stripT (shownL n f none x)) = closesL x := by
  rw [check_strip, closes_shown]

/- no quotation mark: the text itself -/
theorem items_no34 : ∀ (y : List Nat) (i : Nat), 34 ∉ y → ∀ it ∈ itemsF i y, it.2 ≠ [34]
  | [], _, _, it, hm => by cases hm
  | c :: r, i, h, it, hm => by
    rw [itemsF_cons] at hm
    simp only [List.mem_cons, not_or] at h
    by_cases hc : c = 92
    · rw [if_pos hc] at hm
      match r, h, hm with
      | [], _, hm => simp at hm; rw [hm]; simp
      | d :: r', h, hm =>
        simp only [List.mem_cons, not_or] at h hm
        rcases hm with rfl | hm
        · simp
        · exact items_no34 r' (i + 2) h.2.2 it hm
    · rw [if_neg hc] at hm
      rcases List.mem_cons.mp hm with rfl | hm
      · simp; exact fun e => h.1 e.symm
      · exact items_no34 r (i + 1) h.2 it hm
theorem foldl_sq_id (addr : List Nat) : ∀ (l : List (Nat × List Nat)) (st : SQ), (∀ it ∈ l, it.2 ≠ [34]) → l.foldl (sqStep addr) st = st
  | [], _, _ => rfl
  | it :: r, st, h => by
    rw [List.foldl_cons, show sqStep addr st it = st from by simp [sqStep, h it (.head _)]]
    exact foldl_sq_id addr r st fun x hx => h x (.tail _ hx)
theorem strip_fast (addr : List Nat) (h : 34 ∉ addr) : stripT addr = addr := by
  unfold stripT
  rw [foldl_sq_id addr _ _ (items_no34 addr 0 h), sqEnd_eq]; rfl
end Mine

end

/- part Sre1 -/
section
open PySem PySem.Sre
set_option maxRecDepth 100000
namespace Mine

theorem run_succ {n : Nat} {m m' : M} (h0 : m.outcome = none) (h : M.runFor n m.step = m') : M.runFor (n + 1) m = m' := by
  rw [M.runFor, h0]; exact h
theorem run_done {n : Nat} {m : M} (h0 : m.outcome.isSome = true) : M.runFor n m = m := by
  cases n with
  | zero => rfl
  | succ n => rw [M.runFor, if_pos h0]
theorem run_add {a b : Nat} {m : M} : M.runFor (a + b) m = M.runFor b (M.runFor a m) := by
  induction a generalizing m with
  | zero => rw [Nat.zero_add]; rfl
  | succ a ih =>
    rw [Nat.add_right_comm, M.runFor]
    by_cases h : m.outcome.isSome = true
    · rw [if_pos h, M.runFor, if_pos h, run_done h]
    · rw [if_neg h, M.runFor, if_neg h, ih]

/- a sign asked for -/
theorem lit_yes {m : M} (ho : m.outcome = none) (ha : m.answer = none) (hpc : m.pc < m.code.size) (hw : m.word 0 = 16) (hlim : m.pos < m.lim) (hc : m.text.getD m.pos 0 = m.word 1) :
    m.step = { m with seen := m.seen.add 16, pc := m.pc + 2, pos := m.pos + 1 } := by
  have h1 : m.step = m.exec := by
    unfold M.step
    rw [ho]
    simp only [Option.isSome_none, Bool.false_eq_true, if_false, ha]
    rw [if_pos hpc]
  rw [h1]
  unfold M.exec
  have hop : ops[m.word 0]? = some .LITERAL := by rw [hw]; rfl
  rw [hop]
  simp only
  rw [if_neg (by exact Nat.not_le.mpr hlim)]
  have hacc : accepts m.code m.pc (m.text.getD m.pos 0) (m.seen.add (m.word 0)) = .ok (true, m.seen.add (m.word 0)) := by
    unfold accepts
    have hop2 : ops[m.code.getD m.pc 0]? = some .LITERAL := hop
    rw [hop2]
    simp only
    rw [hc]
    show Except.ok ((m.code.getD (m.pc + 1) 0 == m.code.getD (m.pc + 1) 0), _) = _
    rw [beq_self_eq_true]
  rw [hacc]
  simp only
  have hwd : itemWidth m.code m.pc = 2 := by
    unfold itemWidth
    have hop2 : ops[m.code.getD m.pc 0]? = some .LITERAL := hop
    rw [hop2]
  rw [hwd, hw]
theorem lit_no {m : M} (ho : m.outcome = none) (ha : m.answer = none) (hpc : m.pc < m.code.size) (hw : m.word 0 = 16) (hc : m.pos < m.lim → m.text.getD m.pos 0 ≠ m.word 1) :
    m.step = { m with seen := m.seen.add 16, answer := some false } := by
  have h1 : m.step = m.exec := by
    unfold M.step
    rw [ho]
    simp only [Option.isSome_none, Bool.false_eq_true, if_false, ha]
    rw [if_pos hpc]
  rw [h1]
  unfold M.exec
  have hop : ops[m.word 0]? = some .LITERAL := by rw [hw]; rfl
  rw [hop]
  simp only
  by_cases hlim : m.pos < m.lim
  · rw [if_neg (by exact Nat.not_le.mpr hlim)]
    have hacc : accepts m.code m.pc (m.text.getD m.pos 0) (m.seen.add (m.word 0)) = .ok (false, m.seen.add (m.word 0)) := by
      unfold accepts
      have hop2 : ops[m.code.getD m.pc 0]? = some .LITERAL := hop
      rw [hop2]
      simp only
      have : (m.text.getD m.pos 0 == m.code.getD (m.pc + 1) 0) = false := by
        exact beq_eq_false_iff_ne.mpr (hc hlim)
      rw [this]
    rw [hacc]
    simp only [M.say]
    rw [hw]
  · rw [if_pos (by exact Nat.le_of_not_lt hlim)]
    simp only [M.say]
    rw [hw]

def code2 : Array Nat := #[14, 9, 4, 1, 2, 16, 10, 16, 13, 0, 7, 7, 16, 13, 16, 10, 15, 18, 5, 16, 10, 15, 13, 11, 16, 13, 5, 5, 0, 16, 10, 1, 15, 2, 0, 1]
def code1 : Array Nat := #[14, 4, 0, 1, 1, 6, 1, 16, 46, 1]

/- the machine of pattern 2 at work; no groups -/
@[reducible] def m2 (text : Array Nat) (lim start lastStart pc pos handed : Nat) (out : Bool) (frames : List Sre.Frame) (weight : Nat) (answer : Option Bool) (seen : Seen) : M :=
  { code := code2, text, lim, start, lastStart, pc, pos, handed, outermost := out, marks := #[], frames, weight, answer, seen }
@[reducible] def fS (pos : Nat) : Sre.Frame := { wait := .nextStart, pc := 10, pos, outermost := true }
@[reducible] def fB (pc pos : Nat) : Sre.Frame := { wait := .nextBranch, pc, pos, outermost := true }
@[reducible] def fN (pos : Nat) : Sre.Frame := { wait := .lookNot, pc := 26, pos, outermost := true }

section
variable {text : Array Nat} {lim ls s : Nat} {seen : Seen}

theorem e_branch : (m2 text lim s ls 10 s s true [fS s] 1 none seen).step = m2 text lim s ls 12 s s true [fB 11 s, fS s] 2 none (seen.add 7) := rfl
theorem e_alt2 : (m2 text lim s ls p q r true [fB 11 s, fS s] 2 (some false) seen).step = m2 text lim s ls 19 s s true [fB 18 s, fS s] 2 none seen := rfl
theorem e_alt3 : (m2 text lim s ls p q r true [fB 18 s, fS s] 2 (some false) seen).step = m2 text lim s ls 24 s s true [fB 23 s, fS s] 2 none seen := rfl
theorem e_jump1 : (m2 text lim s ls 16 q r true fr 2 none seen).step = m2 text lim s ls 35 q r true fr 2 none (seen.add 15) := rfl
theorem e_jump2 : (m2 text lim s ls 21 q r true fr 2 none seen).step = m2 text lim s ls 35 q r true fr 2 none (seen.add 15) := rfl
theorem e_jump3 : (m2 text lim s ls 32 q r true fr 2 none seen).step = m2 text lim s ls 35 q r true fr 2 none (seen.add 15) := rfl
theorem e_succ : (m2 text lim s ls 35 q r true fr 2 none seen).step = m2 text lim s ls 35 q q true fr 2 (some true) (seen.add 1) := rfl
theorem e_popB : (m2 text lim s ls p q r true [fB a s, fS s] 2 (some true) seen).step = m2 text lim s ls a s r true [fS s] 1 (some true) seen := rfl
theorem e_popS : (m2 text lim s ls p q r true [fS s] 1 (some true) seen).step = m2 text lim s ls 10 s r true [] 0 (some true) seen := rfl
theorem e_fin : (m2 text lim s ls p q r true [] 0 (some true) seen).step = { m2 text lim s ls p q r true [] 0 (some true) seen with outcome := some .matched } := rfl
theorem e_not : (m2 text lim s ls 26 q r true [fB 23 s, fS s] 2 none seen).step = m2 text lim s ls 29 q q false [fN q, fB 23 s, fS s] 3 none (seen.add 5) := rfl
theorem e_notBack : (m2 text lim s ls p q' r false [fN q, fB 23 s, fS s] 3 (some false) seen).step = m2 text lim s ls 32 q r true [fB 23 s, fS s] 2 none seen := rfl

def Hit (k : Nat) (m : M) (s q : Nat) : Prop := (M.runFor k m).outcome = some .matched ∧ (M.runFor k m).start = s ∧ (M.runFor k m).handed = q
theorem Hit.to {k : Nat} {m m1 : M} {s q : Nat} (e : m.step = m1) (h : Hit k m1 s q) (h0 : m.outcome = none := by rfl) : Hit (k + 1) m s q := by
  unfold Hit at *
  rw [run_succ h0 rfl, e]; exact h

theorem e_tail {q r a : Nat} : Hit 4 (m2 text lim s ls 35 q r true [fB a s, fS s] 2 none seen) s q :=
  Hit.to e_succ (Hit.to e_popB (Hit.to e_popS (Hit.to e_fin ⟨rfl, rfl, rfl⟩)))

theorem hit_crlf (h1 : text.getD s 0 = 13) (h2 : text.getD (s + 1) 0 = 10) (hl : s + 1 < lim) : Hit 8 (m2 text lim s ls 10 s s true [fS s] 1 none seen) s (s + 2) :=
  Hit.to e_branch (Hit.to (lit_yes rfl rfl (by show 12 < 36; decide) rfl (by show s < lim; omega) h1) (Hit.to (lit_yes rfl rfl (by show 14 < 36; decide) rfl hl h2) (Hit.to e_jump1 e_tail)))

theorem hit_lf (h1 : text.getD s 0 = 10) (hl : s < lim) : Hit 9 (m2 text lim s ls 10 s s true [fS s] 1 none seen) s (s + 1) :=
  Hit.to e_branch (Hit.to (lit_no rfl rfl (by show 12 < 36; decide) rfl (fun _ => by show text.getD s 0 ≠ 13; rw [h1]; decide)) (Hit.to e_alt2 (Hit.to (lit_yes rfl rfl (by show 19 < 36; decide) rfl hl h1) (Hit.to e_jump2 e_tail))))

theorem hit_cr (h1 : text.getD s 0 = 13) (hl : s < lim) (h2 : s + 1 < lim → text.getD (s + 1) 0 ≠ 10) : Hit 15 (m2 text lim s ls 10 s s true [fS s] 1 none seen) s (s + 1) :=
  Hit.to e_branch (Hit.to (lit_yes rfl rfl (by show 12 < 36; decide) rfl hl h1) (Hit.to (lit_no rfl rfl (by show 14 < 36; decide) rfl h2)
    (Hit.to e_alt2 (Hit.to (lit_no rfl rfl (by show 19 < 36; decide) rfl (fun _ => by show text.getD s 0 ≠ 10; rw [h1]; decide))
    (Hit.to e_alt3 (Hit.to (lit_yes rfl rfl (by show 24 < 36; decide) rfl hl h1) (Hit.to e_not (Hit.to (lit_no rfl rfl (by show 29 < 36; decide) rfl h2) (Hit.to e_notBack (Hit.to e_jump3 e_tail))))))))))
end
end Mine

end

/- part Sre2 -/
section
open PySem PySem.Sre
set_option maxRecDepth 100000
namespace Mine

abbrev isLE (c : Nat) : Prop := c = 10 ∨ c = 13

theorem inSet2 (c : Nat) (seen : Seen) : ∃ seen', inSet code2 c code2.size 5 true seen = .ok (decide (isLE c), seen') := by
  by_cases h10 : c = 10
  · subst h10; exact ⟨_, rfl⟩
  · by_cases h13 : c = 13
    · subst h13; exact ⟨_, rfl⟩
    · have e : inSet code2 c code2.size 5 true seen = (if (c == 10) = true then .ok (true, seen.add 16) else if (c == 13) = true then .ok (true, (seen.add 16).add 16) else .ok (false, ((seen.add 16).add 16).add 0)) := rfl
      rw [e, if_neg (by simp [h10]), if_neg (by simp [h13])]
      have : decide (isLE c) = false := by simp [isLE, h10, h13]
      rw [this]
      exact ⟨_, rfl⟩

theorem adm_none {m : M} (hc : m.code = code2) (n s : Nat) (seen : Seen) (h : ∀ j, s ≤ j → j < m.lim → ¬ isLE (m.text.getD j 0)) : ∃ seen', M.admitted m n s seen = .ok (none, seen') := by
  induction n generalizing s seen with
  | zero => exact ⟨_, rfl⟩
  | succ n ih =>
    rw [M.admitted]
    by_cases hs : s ≥ m.lim
    · rw [if_pos hs]; exact ⟨_, rfl⟩
    · rw [if_neg hs, hc]
      obtain ⟨seen', e⟩ := inSet2 (m.text.getD s 0) seen
      rw [e, decide_eq_false (h s (Nat.le_refl _) (by omega))]
      exact ih (s + 1) seen' fun j h1 h2 => h j (by omega) h2

theorem adm_some {m : M} (hc : m.code = code2) (n s s' : Nat) (seen : Seen) (h1 : s ≤ s') (h2 : s' < m.lim) (h3 : s' < s + n) (hle : isLE (m.text.getD s' 0)) (h : ∀ j, s ≤ j → j < s' → ¬ isLE (m.text.getD j 0)) :
    ∃ seen', M.admitted m n s seen = .ok (some s', seen') := by
  induction n generalizing s seen with
  | zero => omega
  | succ n ih =>
    rw [M.admitted, if_neg (by omega), hc]
    obtain ⟨seen', e⟩ := inSet2 (m.text.getD s 0) seen
    rw [e]
    by_cases he : s = s'
    · subst he
      rw [decide_eq_true hle]
      exact ⟨_, rfl⟩
    · rw [decide_eq_false (h s (Nat.le_refl _) (by omega))]
      exact ih (s + 1) seen' (by omega) (by omega) fun j h1 h2 => h j (by omega) h2

theorem search2_eq (text : Array Nat) (start lim : Nat) : forSearch code2 text 0 start lim false =
    if (decide (start > lim) || decide (lim - start < 1)) = true then m2 text lim start 0 10 start start true [] 0 (some false) (({} : Seen).add 14)
    else (m2 text lim start lim 10 start start true [] 0 none (({} : Seen).add 14)).attemptFrom start true := rfl

theorem att2_eq (text : Array Nat) (start lim : Nat) (seen : Seen) : (m2 text lim start lim 10 start start true [] 0 none seen).attemptFrom start true =
    match M.admitted (m2 text lim start lim 10 start start true [] 0 none seen) (lim + 1 - start) start seen with
    | .ok (some s, seen) => m2 text lim s lim 10 s s true [fS s] 1 none seen
    | .ok (none, seen) => m2 text lim start lim 10 start start true [] 0 (some false) seen
    | .error why => (m2 text lim start lim 10 start start true [] 0 none seen).stick why := rfl

def Miss (k : Nat) (m : M) : Prop := (M.runFor k m).outcome = some .failed
theorem Miss.to {k : Nat} {m m1 : M} (e : m.step = m1) (h : Miss k m1) (h0 : m.outcome = none := by rfl) : Miss (k + 1) m := by
  unfold Miss at *
  rw [run_succ h0 rfl, e]; exact h

theorem search2_none (text : Array Nat) (start lim : Nat) (h : ∀ j, start ≤ j → j < lim → ¬ isLE (text.getD j 0)) : ∃ k, k ≤ 4 ∧ Miss k (forSearch code2 text 0 start lim false) := by
  rw [search2_eq]
  split
  · exact ⟨1, by decide, Miss.to rfl rfl⟩
  · rw [att2_eq]
    obtain ⟨seen', e⟩ := adm_none (m := m2 text lim start lim 10 start start true [] 0 none (({} : Seen).add 14)) rfl (lim + 1 - start) start (({} : Seen).add 14) h
    rw [e]
    exact ⟨1, by decide, Miss.to rfl rfl⟩

theorem search2_some (text : Array Nat) (start lim s : Nat) (h1 : start ≤ s) (h2 : s < lim) (hle : isLE (text.getD s 0)) (h : ∀ j, start ≤ j → j < s → ¬ isLE (text.getD j 0)) :
    ∃ k, k ≤ 20 ∧ Hit k (forSearch code2 text 0 start lim false) s (if text.getD s 0 = 13 ∧ s + 1 < lim ∧ text.getD (s + 1) 0 = 10 then s + 2 else s + 1) := by
  rw [search2_eq, if_neg (by simp; omega), att2_eq]
  obtain ⟨seen', e⟩ := adm_some (m := m2 text lim start lim 10 start start true [] 0 none (({} : Seen).add 14)) rfl (lim + 1 - start) start s (({} : Seen).add 14) h1 h2 (by omega) hle h
  rw [e]
  by_cases hc : text.getD s 0 = 13 ∧ s + 1 < lim ∧ text.getD (s + 1) 0 = 10
  · rw [if_pos hc]
    exact ⟨8, by decide, hit_crlf hc.1 hc.2.2 hc.2.1⟩
  · rw [if_neg hc]
    rcases hle with h10 | h13
    · exact ⟨9, by decide, hit_lf h10 h2⟩
    · exact ⟨15, by decide, hit_cr h13 h2 fun hl he => hc ⟨h13, hl, he⟩⟩

/- pattern 1 -/
@[reducible] def m1 (text : Array Nat) (lim start lastStart pc pos handed : Nat) (out : Bool) (frames : List Sre.Frame) (weight : Nat) (answer : Option Bool) (seen : Seen) : M :=
  { code := code1, text, lim, start, lastStart, pc, pos, handed, outermost := out, marks := #[], frames, weight, answer, seen }
@[reducible] def fS1 (pos : Nat) (out : Bool) : Sre.Frame := { wait := .nextStart, pc := 5, pos, outermost := out }

theorem search1_eq (text : Array Nat) (start lim : Nat) : forSearch code1 text 0 start lim false =
    if (decide (start > lim) || decide (lim - start < 1)) = true then m1 text lim start 0 5 start start true [] 0 (some false) (({} : Seen).add 14)
    else m1 text lim start lim 5 start start true [fS1 start true] 1 none (({} : Seen).add 14) := rfl

section
variable {text : Array Nat} {lim s : Nat} {seen : Seen} {out : Bool}
theorem d_at : (m1 text lim s lim 5 s s out [fS1 s out] 1 none seen).step =
    if (s == 0 || text.getD (s - 1) 0 == 10) = true then m1 text lim s lim 7 s s out [fS1 s out] 1 none ((seen.add 6).add 44) else m1 text lim s lim 5 s s out [fS1 s out] 1 (some false) ((seen.add 6).add 44) := rfl
theorem d_succ {q r : Nat} : (m1 text lim s lim 9 q r out fr 1 none seen).step = m1 text lim s lim 9 q q out fr 1 (some true) (seen.add 1) := by cases out <;> rfl
theorem d_popS {p q r : Nat} : (m1 text lim s lim p q r out [fS1 s out] 1 (some true) seen).step = m1 text lim s lim 5 s r out [] 0 (some true) seen := rfl
theorem d_fin {p q r : Nat} : (m1 text lim s lim p q r out [] 0 (some true) seen).step = { m1 text lim s lim p q r out [] 0 (some true) seen with outcome := some .matched } := rfl
theorem d_next {p q r : Nat} (h : s < lim) : (m1 text lim s lim p q r out [fS1 s out] 1 (some false) seen).step = m1 text lim (s + 1) lim 5 (s + 1) (s + 1) false [fS1 (s + 1) false] 1 none seen := by
  have e : (m1 text lim s lim p q r out [fS1 s out] 1 (some false) seen).step =
    if s < lim then m1 text lim (s + 1) lim 5 (s + 1) (s + 1) false [fS1 (s + 1) false] 1 none seen else m1 text lim s lim 5 s r out [] 0 (some false) seen := rfl
  rw [e, if_pos h]
theorem d_last {p q r : Nat} (h : ¬ s < lim) : (m1 text lim s lim p q r out [fS1 s out] 1 (some false) seen).step = m1 text lim s lim 5 s r out [] 0 (some false) seen := by
  have e : (m1 text lim s lim p q r out [fS1 s out] 1 (some false) seen).step =
    if s < lim then m1 text lim (s + 1) lim 5 (s + 1) (s + 1) false [fS1 (s + 1) false] 1 none seen else m1 text lim s lim 5 s r out [] 0 (some false) seen := rfl
  rw [e, if_neg h]
theorem d_fail {p q r : Nat} : (m1 text lim s lim p q r out [] 0 (some false) seen).step = { m1 text lim s lim p q r out [] 0 (some false) seen with outcome := some .failed } := rfl
end

abbrev atDot (text : Array Nat) (lim s : Nat) : Prop := s < lim ∧ (s = 0 ∨ text.getD (s - 1) 0 = 10) ∧ text.getD s 0 = 46

/- a place that is no dot at a line's start: two or three steps to the answer no -/
theorem d_no {text : Array Nat} {lim s : Nat} {out : Bool} (seen : Seen) (h : ¬ atDot text lim s) : ∃ k p seen', k ≤ 2 ∧ ∀ (n : Nat) (X : M → Prop),
    (X (M.runFor n (m1 text lim s lim p s s out [fS1 s out] 1 (some false) seen'))) → X (M.runFor (n + k) (m1 text lim s lim 5 s s out [fS1 s out] 1 none seen)) := by
  by_cases hb : (s == 0 || text.getD (s - 1) 0 == 10) = true
  · refine ⟨2, 7, ((seen.add 6).add 44).add 16, by decide, fun n X hX => ?_⟩
    have e1 : (m1 text lim s lim 5 s s out [fS1 s out] 1 none seen).step = m1 text lim s lim 7 s s out [fS1 s out] 1 none ((seen.add 6).add 44) := by rw [d_at, if_pos hb]
    have hl : s < lim → text.getD s 0 ≠ 46 := fun h1 h2 => h ⟨h1, by simpa using hb, h2⟩
    have e2 := lit_no (m := m1 text lim s lim 7 s s out [fS1 s out] 1 none ((seen.add 6).add 44)) rfl rfl (by show 7 < 10; decide) rfl hl
    rw [show n + 2 = (n + 1) + 1 from rfl, run_succ rfl rfl, e1, run_succ rfl rfl, e2]
    exact hX
  · refine ⟨1, 5, (seen.add 6).add 44, by decide, fun n X hX => ?_⟩
    have e1 : (m1 text lim s lim 5 s s out [fS1 s out] 1 none seen).step = m1 text lim s lim 5 s s out [fS1 s out] 1 (some false) ((seen.add 6).add 44) := by rw [d_at, if_neg hb]
    rw [run_succ rfl rfl, e1]
    exact hX

theorem scan1_none {text : Array Nat} {lim : Nat} : ∀ (n s : Nat) (out : Bool) (seen : Seen), lim - s = n → s ≤ lim → (∀ j, s ≤ j → j < lim → ¬ atDot text lim j) →
    ∃ k, k ≤ 3 * n + 4 ∧ Miss k (m1 text lim s lim 5 s s out [fS1 s out] 1 none seen)
  | 0, s, out, seen, hn, hs, h => by
    obtain ⟨k, p, seen', hk, H⟩ := d_no (text := text) (lim := lim) (s := s) (out := out) seen (fun x => absurd x.1 (by omega))
    refine ⟨2 + k, by omega, ?_⟩
    refine H 2 (fun m => m.outcome = some .failed) ?_
    exact Miss.to (d_last (by omega)) (Miss.to d_fail rfl)
  | n + 1, s, out, seen, hn, hs, h => by
    obtain ⟨k, p, seen', hk, H⟩ := d_no (text := text) (lim := lim) (s := s) (out := out) seen (h s (Nat.le_refl _) (by omega))
    obtain ⟨k', hk', H'⟩ := scan1_none n (s + 1) false seen' (by omega) (by omega) fun j h1 h2 => h j (by omega) h2
    refine ⟨(k' + 1) + k, by omega, ?_⟩
    refine H (k' + 1) (fun m => m.outcome = some .failed) ?_
    exact Miss.to (d_next (by omega)) H'

theorem scan1_some {text : Array Nat} {lim : Nat} : ∀ (n s s' : Nat) (out : Bool) (seen : Seen), s' - s = n → s ≤ s' → atDot text lim s' → (∀ j, s ≤ j → j < s' → ¬ atDot text lim j) →
    ∃ k, k ≤ 3 * n + 6 ∧ Hit k (m1 text lim s lim 5 s s out [fS1 s out] 1 none seen) s' (s' + 1)
  | 0, s, s', out, seen, hn, hs, hd, h => by
    have : s = s' := by omega
    subst this
    obtain ⟨hl, hb, hc⟩ := hd
    have e1 : (m1 text lim s lim 5 s s out [fS1 s out] 1 none seen).step = m1 text lim s lim 7 s s out [fS1 s out] 1 none ((seen.add 6).add 44) := by rw [d_at, if_pos (by simpa using hb)]
    have e2 := lit_yes (m := m1 text lim s lim 7 s s out [fS1 s out] 1 none ((seen.add 6).add 44)) rfl rfl (by show 7 < 10; decide) rfl hl hc
    exact ⟨5, by decide, Hit.to e1 (Hit.to e2 (Hit.to d_succ (Hit.to d_popS (Hit.to d_fin ⟨rfl, rfl, rfl⟩))))⟩
  | n + 1, s, s', out, seen, hn, hs, hd, h => by
    obtain ⟨k, p, seen', hk, H⟩ := d_no (text := text) (lim := lim) (s := s) (out := out) seen (h s (Nat.le_refl _) (by omega))
    obtain ⟨k', hk', H'⟩ := scan1_some n (s + 1) s' false seen' (by omega) (by omega) hd fun j h1 h2 => h j (by omega) h2
    refine ⟨(k' + 1) + k, by omega, ?_⟩
    refine H (k' + 1) (fun m => m.outcome = some .matched ∧ m.start = s' ∧ m.handed = s' + 1) ?_
    exact Hit.to (d_next (by have := hd.1; omega)) H'

theorem search1_none (text : Array Nat) (start lim : Nat) (h : ∀ j, start ≤ j → j < lim → ¬ atDot text lim j) : ∃ k, k ≤ 3 * lim + 4 ∧ Miss k (forSearch code1 text 0 start lim false) := by
  rw [search1_eq]
  split
  · exact ⟨1, by omega, Miss.to rfl rfl⟩
  · rename_i hc
    simp at hc
    obtain ⟨k, hk, H⟩ := scan1_none (lim - start) start true (({} : Seen).add 14) rfl (by omega) h
    exact ⟨k, by omega, H⟩

theorem search1_some (text : Array Nat) (start lim s : Nat) (h1 : start ≤ s) (hd : atDot text lim s) (h : ∀ j, start ≤ j → j < s → ¬ atDot text lim j) :
    ∃ k, k ≤ 3 * lim + 6 ∧ Hit k (forSearch code1 text 0 start lim false) s (s + 1) := by
  have := hd.1
  rw [search1_eq, if_neg (by simp; omega)]
  obtain ⟨k, hk, H⟩ := scan1_some (s - start) start s true (({} : Seen).add 14) rfl h1 hd h
  exact ⟨k, by omega, H⟩
end Mine

end

/- part Sub -/
section
open PySem PySem.Sre PySem.Builtin PySem.Builtin.Re PyProof.Rows
set_option maxRecDepth 100000
namespace Mine

section
variable {prog : Program} {w : World} {A : Around} {E : Value → Shared → Prop} {s : Shared}

theorem wp_reDrive {Q : M → Shared → Prop} : ∀ (turns k : Nat) (m : M), k ≤ 4 * turns → 0 < turns → (M.runFor k m).outcome.isSome = true → Q (M.runFor k m) s → wpAny (model prog w) A (reDrive turns m) Q E s
  | 0, _, _, _, h, _, _ => absurd h (Nat.lt_irrefl _)
  | turns + 1, k, m, hk, _, ho, hQ => by
    show wpAny _ A (if (M.runFor 4 m).outcome.isSome then pure (M.runFor 4 m) else do rule "sre.turn"; reDrive turns (M.runFor 4 m)) Q E s
    by_cases h4 : (M.runFor 4 m).outcome.isSome = true
    · rw [if_pos h4]
      refine wpAny_pure ?_
      have e : M.runFor 4 m = M.runFor k m := by
        by_cases hle : 4 ≤ k
        · obtain ⟨j, rfl⟩ := Nat.exists_eq_add_of_le hle
          rw [run_add, run_done h4]
        · obtain ⟨j, hj⟩ := Nat.exists_eq_add_of_le (Nat.le_of_lt (Nat.lt_of_not_le hle))
          rw [hj, run_add, run_done ho]
      rw [e]; exact hQ
    · rw [if_neg h4]
      refine wpAny_bind (wpAny_rule ?_)
      have hlt : 4 < k := by
        apply Nat.lt_of_not_le
        intro hle
        apply h4
        obtain ⟨j, hj⟩ := Nat.exists_eq_add_of_le hle
        rw [hj, run_add, run_done ho]; exact ho
      obtain ⟨j, rfl⟩ := Nat.exists_eq_add_of_le (Nat.le_of_lt hlt)
      rw [run_add] at ho hQ
      exact wp_reDrive turns j _ (by omega) (by omega) ho hQ

theorem wp_names {m : M} {Q : PUnit → Shared → Prop} (h : Q ⟨⟩ s) : wpAny (model prog w) A (forIn (List.range Sre.names.size) PUnit.unit fun i _ =>
      if m.seen.has i = true then do
        rule (Sre.names.getD i "")
        pure (ForInStep.yield PUnit.unit)
      else pure (ForInStep.yield PUnit.unit)) Q E s := by
  refine wpAny_forIn_list _ (fun _ _ s' => s' = s) _ ?_ ?_ _ _ rfl
  · rintro x rest b s' rfl
    by_cases hh : m.seen.has x = true
    · rw [if_pos hh]; exact wpAny_bind (wpAny_rule (wpAny_pure rfl))
    · rw [if_neg hh]; exact wpAny_pure rfl
  · rintro b s' rfl; exact h

theorem wp_run_hit {m : M} {k a b : Nat} {Q : Option M → Shared → Prop} (hk : k ≤ 4 * 2 ^ 64) (h : Hit k m a b) (hQ : ∀ m', m'.start = a → m'.handed = b → Q (some m') s) : wpAny (model prog w) A (reRunToEnd m) Q E s := by
  unfold reRunToEnd
  obtain ⟨h1, h2, h3⟩ := h
  refine wpAny_bind (wp_reDrive (2 ^ 64) k m hk (by decide) (by rw [h1]; rfl) ?_)
  refine wpAny_bind (wp_names ?_)
  rw [h1]
  exact wpAny_pure (hQ _ h2 h3)
theorem wp_run_miss {m : M} {k : Nat} {Q : Option M → Shared → Prop} (hk : k ≤ 4 * 2 ^ 64) (h : Miss k m) (hQ : Q none s) : wpAny (model prog w) A (reRunToEnd m) Q E s := by
  unfold reRunToEnd
  have h1 : (M.runFor k m).outcome = some .failed := h
  refine wpAny_bind (wp_reDrive (2 ^ 64) k m hk (by decide) (by rw [h1]; rfl) ?_)
  refine wpAny_bind (wp_names ?_)
  rw [h1]
  exact wpAny_pure hQ
end

/- a compiled pattern without groups, for texts -/
def PatAt (h : Heap) (p c : Addr) (code : Array Nat) : Prop :=
  ∃ o oc fs items n, h.get? p = some o ∧ o.cls = .type "re.Pattern" ∧ o.dict = none ∧ o.data = .fields fs ∧ fs.getD 2 .none = .int 0 0 ∧ fs.getD 5 .none = .ref c ∧ fs.getD 6 .none = .int 0 0 ∧
    h.get? c = some oc ∧ oc.data = .seq items n ∧ (items.map reRawOf).map (·.toNat) = code
theorem PatAt.keep {h h' : Heap} {p c : Addr} {code : Array Nat} (x : PatAt h p c code) (hp : ∀ o, h.get? p = some o → h'.get? p = some o) (hc : ∀ o, h.get? c = some o → h'.get? c = some o) : PatAt h' p c code := by
  obtain ⟨o, oc, fs, items, n, h1, h2, h2', h3, h4, h5, h6, h7, h8, h9⟩ := x
  exact ⟨o, oc, fs, items, n, hp _ h1, h2, h2', h3, h4, h5, h6, hc _ h7, h8, h9⟩

section
variable {prog : Program} {w : World} {A : Around} {E : Value → Shared → Prop} {s : Shared}
theorem wp_target {p c : Addr} {code : Array Nat} {x : Str} {t : Tok} {Q : ReTarget → Shared → Prop} (hp : PatAt s.heap p c code)
    (h : Q { pattern := .ref p, string := .str x t, code, text := x.cps, kind := 0, groups := 0, pos := 0, lim := x.cps.size } s) : wpAny (model prog w) A (reWholeTarget (.ref p) (.str x t)) Q E s := by
  obtain ⟨o, oc, fs, items, n, h1, h2, _, h3, h4, h5, h6, h7, h8, h9⟩ := hp
  unfold reWholeTarget
  refine wpAny_bind (wpAny_fieldsOf h1 h3 ?_)
  show wpAny _ A (reTextOf (.str x t) >>= _) Q E s
  refine wpAny_bind (m := reTextOf (.str x t)) (wpAny_of_eq (a := (x.cps, 0)) rfl ?_)
  simp only [h6]
  show wpAny _ A (do
    let x ← (do let y ← seqItems? (fs.getD 5 .none); pure ((y.getD #[]).map reRawOf) : Sem _)
    pure _) Q E s
  rw [h5]
  refine wpAny_bind (wpAny_bind (m := seqItems? (.ref c)) ?_)
  unfold seqItems?
  refine wpAny_bind (wpAny_load h7 ?_)
  rw [h8]
  refine wpAny_pure (wpAny_pure (wpAny_pure ?_))
  simp only [Option.getD_some, h9, h4]
  exact h
end

/- what sub makes from the place d on -/
inductive SubOut (code text : Array Nat) (repl : List Nat) : Nat → List Nat → Prop
  | last {d : Nat} : (∃ k, k ≤ 2 ^ 60 ∧ Miss k (forSearch code text 0 d text.size false)) → SubOut code text repl d (text.toList.drop d)
  | more {d a e : Nat} {r : List Nat} : (∃ k, k ≤ 2 ^ 60 ∧ Hit k (forSearch code text 0 d text.size false) a e) → d ≤ a → a < e → e ≤ text.size → SubOut code text repl e r →
      SubOut code text repl d ((text.toList.take a).drop d ++ repl ++ r)

theorem plain_push {s : Shared} {D : Addr} {ys : Array Value} {v : Value} (h : s.heap.PlainList D ys) : (s.heap.update D (Obj.mapSeq (·.push v))).PlainList D (ys.push v) := by
  obtain ⟨n, e⟩ := h
  refine ⟨n + 1, ?_⟩
  rw [Heap.get?_update_self _ e rfl]
  simp [Obj.mapSeq]

section
variable {prog : Program} {w : World} {A : Around} {E : Value → Shared → Prop} {s : Shared}
theorem wp_push {D : Addr} {ys : Array Value} {v : Value} {Q : Unit → Shared → Prop} (h : s.heap.PlainList D ys) (hz : ys.size ≤ sizeLine)
    (hQ : ∀ h', h'.PlainList D (ys.push v) → Heap.SameBut D s.heap h' → Q () { s with heap := h' }) : wpAny (model prog w) A (updateSeq D (·.push v)) Q E s := by
  have hp := plain_push (v := v) h
  obtain ⟨n, e⟩ := h
  exact wpAny_updateSeq e rfl (hQ _ hp (Heap.SameBut.update ..)) hz (by rw [Array.size_push]; omega)
theorem wp_slice {x : Str} {a b : Nat} {Q : Value → Shared → Prop} (hz : x.cps.size ≤ sizeLine) (h : Q (.str ⟨x.cps.extract a b⟩ s.toks) { s with toks := s.toks + 1 }) :
    wpAny (model prog w) A (reSlice x.cps 0 a b) Q E s := by
  show wpAny _ A (mkStr ⟨x.cps.extract a b⟩) Q E s
  exact wpAny_mkStr h (by show (x.cps.extract a b).size ≤ sizeLine; rw [Array.size_extract]; omega)

theorem entry_subloop : entryFor table "re.Pattern.sub.loop" = some Builtin.«re.Pattern.sub.loop» := entryFor_of_fast (by kernel_rfl)
theorem plain_subloop : plainId "re.Pattern.sub.loop" = true := by decide +kernel

def textsLen (ps : List Str) : Nat := (ps.map (·.length)).sum + ps.length
theorem textsLen_snoc (ps : List Str) (x : Str) : textsLen (ps ++ [x]) = textsLen ps + x.length + 1 := by
  simp [textsLen]; omega

theorem StrsAre.snoc {vs : List Value} {ps : List Str} (h : StrsAre vs ps) (x : Str) (t : Tok) : StrsAre (vs ++ [.str x t]) (ps ++ [x]) := by
  induction h with
  | nil => exact .cons _ _ .nil
  | cons y u _ ih => exact .cons _ _ ih

def cat (ps : List Str) : List Nat := (ps.map (·.cps.toList)).flatten
theorem cat_snoc (ps : List Str) (x : Str) : cat (ps ++ [x]) = cat ps ++ x.cps.toList := by simp [cat]

theorem ext_toList (x : Array Nat) (a b : Nat) : (x.extract a b).toList = (x.toList.take b).drop a := by
  simp [List.drop_take]

theorem join_empty (ps : List Str) : Txt.join ⟨#[]⟩ ps = ⟨(cat ps).toArray⟩ := by
  unfold Txt.join PySem.Builtin.Str.glued
  have aux : ∀ (l : List Str) (acc : Array Nat), l.foldl (fun acc p => acc ++ (#[] : Array Nat) ++ p.cps) acc = acc ++ (cat l).toArray := by
    intro l
    induction l with
    | nil => intro acc; simp [cat]
    | cons a r ih => intro acc; rw [List.foldl_cons, ih]; apply Array.ext'; simp [cat]
  cases ps with
  | nil => simp [cat, Str.empty]
  | cons a r =>
    simp only [List.drop_succ_cons, List.drop_zero, List.headD_cons]
    rw [aux]
    refine congrArg Str.mk (Array.ext' ?_)
    simp [cat]

/- the loop's end, when all pieces lie in the list -/
theorem sub_end {x : Str} {D : Addr} {ys : Array Value} {ps : List Str} {Q : PySem.Fin → Shared → Prop} (hl : s.heap.PlainList D ys) (hs : StrsAre ys.toList ps) (hw : textsLen ps ≤ 1048576)
    (hQ : ∀ tk tk', Q (.done (.ret (.str ⟨(cat ps).toArray⟩ tk'))) { s with toks := tk }) : wpAny (model prog w) A (do
      let joiner ← reSlice x.cps 0 0 0
      let items ← seqItems? (.ref D)
      let text ← if (items.getD #[]).isEmpty = true then pure joiner else call (.builtin "str.join") [joiner, .ref D]
      ret text) Q E s := by
  refine wpAny_bind (m := reSlice x.cps 0 0 0) ?_
  show wpAny _ A (mkStr ⟨x.cps.extract 0 0⟩) _ E s
  have e0 : x.cps.extract 0 0 = #[] := by simp
  rw [e0]
  refine wpAny_mkStr ?_ (by show (#[] : Array Nat).size ≤ sizeLine; rw [sizeLine_eq]; simp)
  obtain ⟨k, ek⟩ := hl
  unfold seqItems?
  refine wpAny_bind (wpAny_bind (wpAny_load ek (wpAny_pure ?_)))
  simp only [Option.getD_some]
  by_cases he : ys.isEmpty = true
  · rw [if_pos he]
    refine wpAny_bind (wpAny_pure (wpAny_pure ?_))
    have : ps = [] := by
      have := hs.len_eq
      have h0 : ys.toList = [] := by simpa using he
      rw [h0] at this
      exact List.length_eq_zero_iff.mp this.symm
    subst this
    exact hQ _ _
  · rw [if_neg he]
    refine wpAny_bind (join_listW (ys := ps) ⟨_, ek, rfl, k, rfl⟩ hs (by show (#[] : Array Nat).size ≤ 16; simp) hw ?_)
    intro t' k'
    rw [join_empty]
    exact wpAny_pure (hQ _ _)

theorem sub_loop {p c : Addr} {code : Array Nat} {x : Str} {t : Tok} {rp : Str} {u : Tok} {D : Addr} {R : Result → Shared → Prop} (hDp : D ≠ p) (hDc : D ≠ c) (hx : x.cps.size ≤ 100000) (hrp : rp.length ≤ 2) :
    ∀ {d : Nat} {out : List Nat}, SubOut code x.cps rp.cps.toList d out → ∀ {s : Shared} {ys : Array Value} {ps : List Str} {n : Nat}, PatAt s.heap p c code → s.heap.PlainList D ys → StrsAre ys.toList ps →
      textsLen ps + 4 * (x.cps.size - d) ≤ 1000000 → d ≤ x.cps.size →
      (∀ h' tk tk', (∀ b o, b ≠ D → s.heap.get? b = some o → h'.get? b = some o) → R (.ok (.ret (.str ⟨(cat ps ++ out).toArray⟩ tk'))) { s with heap := h', toks := tk }) →
      codeAny (model prog w) A (.builtin "re.Pattern.sub.loop" ⟨[.ref p, .str x t, .str rp u, rawInt 0, rawInt 0, rawInt n, rawInt d, rawInt d, .bool false, .ref D, .bool false], []⟩) R s := by
  intro d out H
  have hz : x.cps.size ≤ sizeLine := by rw [sizeLine_eq]; omega
  have hlen : ∀ {ys : Array Value} {ps : List Str}, StrsAre ys.toList ps → ys.size = ps.length := fun {ys ps} h => by
    have := h.len_eq
    rwa [Array.length_toList] at this
  induction H with
  | @last d hm =>
    intro s ys ps n hp hl hs hw hd hR
    refine codeAny_builtin entry_subloop ?_
    rw [Around.under_plainId plain_subloop _]
    show wpAny _ A.in1 (reWholeTarget (.ref p) (.str x t) >>= _) _ _ s
    refine wpAny_bind (wp_target hp ?_)
    refine wpAny_bind (m := reLiteralCannotBeTurned (.str rp u)) (wpAny_of_eq (a := ()) rfl ?_)
    obtain ⟨k, hk, hM⟩ := hm
    refine wpAny_bind (m := reNextFound _ d false) (wp_run_miss (by omega) hM ?_)
    show wpAny _ A.in1 (if d < x.cps.size then _ else _) _ _ s
    by_cases hlt : d < x.cps.size
    · rw [if_pos hlt]
      refine wpAny_bind (wp_slice hz ?_)
      have hy : ys.size ≤ sizeLine := by rw [hlen hs, sizeLine_eq]; unfold textsLen at hw; omega
      refine wpAny_bind (wp_push (s := { s with toks := s.toks + 1 }) hl hy ?_)
      intro h' hl' hs'
      have hs2 := StrsAre.snoc hs ⟨x.cps.extract d x.cps.size⟩ s.toks
      rw [← Array.toList_push] at hs2
      refine sub_end (x := x) hl' hs2 ?_ ?_
      · rw [textsLen_snoc]
        show textsLen ps + (x.cps.extract d x.cps.size).size + 1 ≤ _
        rw [Array.size_extract]; omega
      · intro tk tk'
        have e : (⟨(cat (ps ++ [⟨x.cps.extract d x.cps.size⟩])).toArray⟩ : Str) = ⟨(cat ps ++ x.cps.toList.drop d).toArray⟩ := by
          rw [cat_snoc]
          show (⟨(cat ps ++ (x.cps.extract d x.cps.size).toList).toArray⟩ : Str) = _
          rw [ext_toList, ← Array.length_toList, List.take_length]
        rw [e]
        exact hR h' tk tk' fun b o hb hg => hs'.extBut b o hb hg
    · rw [if_neg hlt]
      refine sub_end (x := x) hl hs (by omega) ?_
      intro tk tk'
      have e : (⟨(cat ps).toArray⟩ : Str) = ⟨(cat ps ++ x.cps.toList.drop d).toArray⟩ := by
        rw [List.drop_eq_nil_of_le (by rw [Array.length_toList]; omega), List.append_nil]
      rw [e]
      exact hR s.heap tk tk' fun _ _ _ hg => hg
  | @more d a e r hh h1 h2 h3 hr ih =>
    intro s ys ps n hp hl hs hw hd hR
    refine codeAny_builtin entry_subloop ?_
    rw [Around.under_plainId plain_subloop _]
    show wpAny _ A.in1 (reWholeTarget (.ref p) (.str x t) >>= _) _ _ s
    refine wpAny_bind (wp_target hp ?_)
    refine wpAny_bind (m := reLiteralCannotBeTurned (.str rp u)) (wpAny_of_eq (a := ()) rfl ?_)
    obtain ⟨k, hk, hM⟩ := hh
    refine wpAny_bind (m := reNextFound _ d false) (wp_run_hit (by omega) hM ?_)
    intro m' e1 e2
    subst e1 e2
    have hy : ys.size + 1 ≤ sizeLine := by rw [hlen hs, sizeLine_eq]; unfold textsLen at hw; omega
    have hb : (m'.handed == m'.start) = false := beq_eq_false_iff_ne.mpr (by omega)
    show wpAny _ A.in1 (if d < m'.start then _ else _) _ _ s
    by_cases hlt : d < m'.start
    · rw [if_pos hlt]
      refine wpAny_bind (wp_slice hz ?_)
      refine wpAny_bind (wp_push (s := { s with toks := s.toks + 1 }) hl (by omega) ?_)
      intro h' hl' hs'
      have hs2 := StrsAre.snoc hs ⟨x.cps.extract d m'.start⟩ s.toks
      rw [← Array.toList_push] at hs2
      refine wpAny_bind (m := updateSeq D _) (wp_push (s := { s with heap := h', toks := s.toks + 1 }) hl' (by rw [Array.size_push]; omega) ?_)
      intro h'' hl'' hs''
      have hs3 := StrsAre.snoc hs2 rp u
      rw [← Array.toList_push] at hs3
      refine wpAny_pure ⟨plainId_quiet plain_subloop _, ?_⟩
      rw [hb]
      refine ih (n := n + 1) (ys := (ys.push (.str ⟨x.cps.extract d m'.start⟩ s.toks)).push (.str rp u)) (ps := ps ++ [⟨x.cps.extract d m'.start⟩] ++ [rp]) ?_ hl'' hs3 ?_ h3 ?_
      · exact hp.keep (fun o ho => hs''.extBut _ o (Ne.symm hDp) (hs'.extBut _ o (Ne.symm hDp) ho)) (fun o ho => hs''.extBut _ o (Ne.symm hDc) (hs'.extBut _ o (Ne.symm hDc) ho))
      · rw [textsLen_snoc, textsLen_snoc]
        show textsLen ps + (x.cps.extract d m'.start).size + 1 + rp.length + 1 + _ ≤ _
        rw [Array.size_extract]; omega
      · intro h3' tk tk' hk3
        have e : (⟨(cat (ps ++ [⟨x.cps.extract d m'.start⟩] ++ [rp]) ++ r).toArray⟩ : Str) = ⟨(cat ps ++ ((x.cps.toList.take m'.start).drop d ++ rp.cps.toList ++ r)).toArray⟩ := by
          rw [cat_snoc, cat_snoc]
          show (⟨(cat ps ++ (x.cps.extract d m'.start).toList ++ rp.cps.toList ++ r).toArray⟩ : Str) = _
          rw [ext_toList]; simp only [List.append_assoc]
        rw [e]
        exact hR h3' tk tk' fun b o hb hg => hk3 b o hb (hs''.extBut b o hb (hs'.extBut b o hb hg))
    · rw [if_neg hlt]
      refine wpAny_bind (m := updateSeq D _) (wp_push hl (by omega) ?_)
      intro h'' hl'' hs''
      have hs3 := StrsAre.snoc hs rp u
      rw [← Array.toList_push] at hs3
      refine wpAny_pure ⟨plainId_quiet plain_subloop _, ?_⟩
      rw [hb]
      refine ih (n := n + 1) (ps := ps ++ [rp]) ?_ hl'' hs3 ?_ h3 ?_
      · exact hp.keep (fun o ho => hs''.extBut _ o (Ne.symm hDp) ho) (fun o ho => hs''.extBut _ o (Ne.symm hDc) ho)
      · rw [textsLen_snoc]; omega
      · intro h3' tk tk' hk3
        have e : (⟨(cat (ps ++ [rp]) ++ r).toArray⟩ : Str) = ⟨(cat ps ++ ((x.cps.toList.take m'.start).drop d ++ rp.cps.toList ++ r)).toArray⟩ := by
          rw [cat_snoc, List.drop_eq_nil_of_le (by rw [List.length_take]; omega)]; simp only [List.append_assoc, List.nil_append]
        rw [e]
        exact hR h3' tk tk' fun b o hb hg => hk3 b o hb (hs''.extBut b o hb hg)
end
end Mine

end

/- part Quote -/
section
open PySem PySem.Sre PySem.Builtin PySem.Builtin.Re PyProof.Rows
set_option maxRecDepth 100000
namespace Mine

theorem slot_sub : Slot "re.Pattern" "sub" "re.Pattern.sub" :=
  .of (owner := "re.Pattern") (n := "sub") (by rw [typeLookup_type, builtinLookup_eq_fast]; kernel_rfl) (by decide +kernel) (by decide +kernel) (by decide +kernel)
    (by first | exact .inl (by decide +kernel) | exact .inr (by decide +kernel)) (by rw [isSubtype_type]; kernel_rfl)
theorem type_sub : typeOf (.builtin "re.Pattern.sub") = pure (.type "method_descriptor") := by show builtinType _ = _; rw [builtinType_eq_fast]; kernel_rfl
theorem entry_sub : entryFor table "re.Pattern.sub" = some Builtin.«re.Pattern.sub» := entryFor_of_fast (by kernel_rfl)
theorem plainAttrs_pat : PlainAttrs "re.Pattern" :=
  ⟨⟨"object.__getattribute__", by rw [typeLookup_type, builtinLookup_eq_fast]; kernel_rfl, by decide +kernel⟩, by rw [typeLookup_type, builtinLookup_eq_fast]; kernel_rfl⟩
theorem args_sub (a b c : Value) : argsOk "re.Pattern.sub" ⟨[a, b, c], []⟩ := by
  unfold argsOk; kernel_rfl
theorem str_no_call : typeLookup (.type "str") "__call__" = pure none := by rw [typeLookup_type, builtinLookup_eq_fast]; kernel_rfl

theorem PatAt.typeIs {s : Shared} {p c : Addr} {code : Array Nat} (h : PatAt s.heap p c code) : s.TypeIs (.ref p) "re.Pattern" := by
  obtain ⟨o, oc, fs, items, n, h1, h2, _⟩ := h
  exact ⟨o, h1, h2⟩

section
variable {prog : Program} {w : World} {A : Around} {E : Value → Shared → Prop} {s : Shared}
theorem getMethod_sub {p c : Addr} {code : Array Nat} {pl : Sem Bool} {Q : Value × List Value → Shared → Prop} (hp : PatAt s.heap p c code) (h : Q (.builtin "re.Pattern.sub", [.ref p]) s) :
    wpAny (model prog w) A (getMethod (.ref p) "sub" pl) Q E s :=
  getMethod_builtin hp.typeIs plainAttrs_pat slot_sub type_sub (fun a e => by
    obtain ⟨o, oc, fs, items, n, h1, h2, h2', _⟩ := hp
    cases e
    exact ⟨o, h1, h2'⟩) h

theorem call_sub {p c : Addr} {code : Array Nat} {x rp : Str} {t u : Tok} {out : List Nat} {Q : Value → Shared → Prop} (hp : PatAt s.heap p c code) (hx : x.cps.size ≤ 100000) (hrp : rp.length ≤ 2) (hlit : rp.cps.contains 92 = false)
    (ho : SubOut code x.cps rp.cps.toList 0 out)
    (hQ : ∀ h' tk tk', (∀ b o, s.heap.get? b = some o → h'.get? b = some o) → Q (.str ⟨out.toArray⟩ tk') { s with heap := h', toks := tk }) :
    wpAny (model prog w) A (call (.builtin "re.Pattern.sub") [.ref p, .str rp u, .str x t]) Q E s := by
  refine wpAny_call (codeAny_call_builtin slot_sub.plain entry_sub (slot_sub.check _ _ _ _ _ _ _ _ hp.typeIs (args_sub _ _ _) ?_))
  show wpAny _ A.in1 (reNamed "re.Pattern.sub" "sub" ["repl", "string", "count"] 2 [.str rp u, .str x t] [] >>= _) _ _ s
  refine wpAny_bind (wpAny_of_eq (a := [some (.str rp u), some (.str x t), none]) rfl ?_)
  refine wpAny_bind (m := pure 0) (wpAny_pure ?_)
  refine wpAny_bind (m := specialOf (.str rp u) "__call__") (wpAny_specialOf (T := "str") (typeIs_str _ _ _) str_no_call ?_)
  refine wpAny_bind (m := asStr? (.str rp u)) (wpAny_pure ?_)
  refine wpAny_bind (m := pure (!rp.cps.contains 92)) (wpAny_pure ?_)
  show wpAny _ A.in1 (if (!rp.cps.contains 92) = true then _ else _) _ _ s
  rw [hlit, if_pos (by decide)]
  refine wpAny_bind (m := pure (Value.str rp u, 0)) (wpAny_pure ?_)
  refine wpAny_bind (m := holding [Value.str rp u] (reWholeTarget (.ref p) (.str x t))) (wpAny_holding (wp_target hp ?_))
  refine wpAny_bind (m := newList []) (wpAny_newObj_type ?_ (by show (#[] : Array Value).size ≤ sizeLine; rw [sizeLine_eq]; simp))
  refine wpAny_pure ⟨plainId_quiet plain_subloop _, ?_⟩
  have hlt : ∀ b o, s.heap.get? b = some o → s.heap.objs.size ≠ b := fun b o e => Nat.ne_of_gt (Heap.lt_size e)
  obtain ⟨o1, oc1, fs, items, n, g1, _, _, _, _, _, _, g2, _⟩ := id hp
  refine sub_loop (d := 0) (n := 0) (ps := []) (ys := #[]) (D := s.heap.objs.size) (hlt _ _ g1) (hlt _ _ g2) hx hrp ho ?_ ?_ .nil ?_ (Nat.zero_le _) ?_
  · exact hp.keep (fun o e => Heap.get?_push_of_some _ e) (fun o e => Heap.get?_push_of_some _ e)
  · exact ⟨0, Heap.get?_push_size _ rfl⟩
  · show textsLen [] + _ ≤ _
    simp [textsLen]; omega
  · intro h' tk tk' hk
    exact hQ h' tk tk' fun b o e => hk b o (Ne.symm (hlt b o e)) (Heap.get?_push_of_some _ e)
end
end Mine

end

/- part SubOuts -/
section
open PySem PySem.Sre PySem.Builtin PySem.Builtin.Re PyProof.Rows
set_option maxRecDepth 100000
namespace Mine

theorem exists_least {P : Nat → Prop} (h : ∃ j, P j) : ∃ j, P j ∧ ∀ i, i < j → ¬ P i := by
  obtain ⟨j, hj⟩ := h
  induction j using Nat.strongRecOn with
  | ind j ih =>
    by_cases hc : ∃ i, i < j ∧ P i
    · obtain ⟨i, h1, h2⟩ := hc; exact ih i h1 h2
    · exact ⟨j, hj, fun i hi hp => hc ⟨i, hi, hp⟩⟩

theorem drop_at (x : Array Nat) (d : Nat) (h : d < x.size) : x.toList.drop d = x.getD d 0 :: x.toList.drop (d + 1) := by
  have hl : d < x.toList.length := by rw [Array.length_toList]; exact h
  rw [List.drop_eq_getElem_cons hl]
  simp [Array.getD, h]
theorem slice_more (x : Array Nat) (d a : Nat) (h : d < a) (h2 : a ≤ x.size) : (x.toList.take a).drop d = x.getD d 0 :: (x.toList.take a).drop (d + 1) := by
  have hl : d < (x.toList.take a).length := by rw [List.length_take, Array.length_toList]; omega
  rw [List.drop_eq_getElem_cons hl]
  have : d < x.size := by omega
  simp [Array.getD, this]
theorem slice_nil (x : List Nat) (a : Nat) : (x.take a).drop a = [] := List.drop_eq_nil_of_le (by rw [List.length_take]; omega)

theorem crlf_seg (x : Array Nat) (a : Nat) (ha : a ≤ x.size) : ∀ (n d : Nat), a - d = n → d ≤ a → (∀ j, d ≤ j → j < a → ¬ isLE (x.getD j 0)) →
    crlfT false (x.toList.drop d) = (x.toList.take a).drop d ++ crlfT false (x.toList.drop a)
  | 0, d, hn, hd, _ => by
    have : d = a := by omega
    subst this
    rw [slice_nil]; rfl
  | n + 1, d, hn, hd, h => by
    have h0 := h d (Nat.le_refl _) (by omega)
    rw [drop_at x d (by omega), slice_more x d a (by omega) ha]
    rw [crlfT, if_neg (fun e => h0 (.inr e)), if_neg (fun e => h0 (.inl e)), crlf_seg x a ha n (d + 1) (by omega) (by omega) fun j h1 h2 => h j (by omega) h2]
    rfl

theorem crlfT_true {l : List Nat} (h : ∀ c r, l = c :: r → c ≠ 10) : crlfT true l = crlfT false l := by
  cases l with
  | nil => rfl
  | cons c r =>
    rw [crlfT, crlfT]
    by_cases h13 : c = 13
    · rw [if_pos h13, if_pos h13]
    · rw [if_neg h13, if_neg h13, if_neg (h c r rfl), if_neg (h c r rfl)]

theorem subout2 (x : Array Nat) (hx : x.size ≤ 100000) : ∀ (n d : Nat), x.size - d = n → d ≤ x.size → SubOut code2 x [13, 10] d (crlfT false (x.toList.drop d)) := by
  intro n
  induction n using Nat.strongRecOn with
  | ind n ih =>
    intro d hn hd
    by_cases hex : ∃ j, d ≤ j ∧ j < x.size ∧ isLE (x.getD j 0)
    · obtain ⟨a, ⟨h1, h2, h3⟩, hleast⟩ := exists_least hex
      have hno : ∀ j, d ≤ j → j < a → ¬ isLE (x.getD j 0) := fun j q1 q2 q3 => hleast j q2 ⟨q1, by omega, q3⟩
      rw [crlf_seg x a (by omega) _ d rfl h1 hno]
      obtain ⟨k, hk, H⟩ := search2_some x d x.size a h1 h2 h3 hno
      rw [drop_at x a h2]
      by_cases hc : x.getD a 0 = 13 ∧ a + 1 < x.size ∧ x.getD (a + 1) 0 = 10
      · rw [if_pos hc] at H
        have e : crlfT false (x.getD a 0 :: x.toList.drop (a + 1)) = [13, 10] ++ crlfT false (x.toList.drop (a + 2)) := by
          rw [drop_at x (a + 1) hc.2.1, hc.1, hc.2.2, crlfT, if_pos rfl, crlfT, if_neg (by decide), if_pos rfl, if_pos rfl]; rfl
        rw [e, ← List.append_assoc]
        exact .more ⟨k, by omega, H⟩ h1 (by omega) (by omega) (ih (x.size - (a + 2)) (by omega) (a + 2) rfl (by omega))
      · rw [if_neg hc] at H
        have e : crlfT false (x.getD a 0 :: x.toList.drop (a + 1)) = [13, 10] ++ crlfT false (x.toList.drop (a + 1)) := by
          rcases h3 with h10 | h13
          · rw [h10, crlfT, if_neg (by decide), if_pos rfl, if_neg (by decide)]; rfl
          · rw [h13, crlfT, if_pos rfl, crlfT_true]
            · rfl
            · intro c r hl hc10
              by_cases hs : a + 1 < x.size
              · rw [drop_at x (a + 1) hs] at hl
                injection hl with hl1 hl2
                exact hc ⟨h13, hs, by rw [hl1, hc10]⟩
              · rw [List.drop_eq_nil_of_le (by rw [Array.length_toList]; omega)] at hl
                cases hl
        rw [e, ← List.append_assoc]
        exact .more ⟨k, by omega, H⟩ h1 (by omega) (by omega) (ih (x.size - (a + 1)) (by omega) (a + 1) rfl (by omega))
    · have hno : ∀ j, d ≤ j → j < x.size → ¬ isLE (x.getD j 0) := fun j q1 q2 q3 => hex ⟨j, q1, q2, q3⟩
      have e : crlfT false (x.toList.drop d) = x.toList.drop d := by
        rw [crlf_seg x x.size (Nat.le_refl _) _ d rfl hd hno]
        have : x.toList.take x.size = x.toList := by rw [← Array.length_toList, List.take_length]
        rw [this, List.drop_eq_nil_of_le (as := x.toList) (i := x.size) (by rw [Array.length_toList]; omega)]
        simp [crlfT]
      rw [e]
      obtain ⟨k, hk, H⟩ := search2_none x d x.size hno
      exact .last ⟨k, by omega, H⟩

def bolAt (x : Array Nat) (d : Nat) : Bool := d == 0 || x.getD (d - 1) 0 == 10
theorem bolAt_succ (x : Array Nat) (d : Nat) : bolAt x (d + 1) = (x.getD d 0 == 10) := by simp [bolAt]

theorem dots_seg (x : Array Nat) (a : Nat) (ha : a ≤ x.size) : ∀ (n d : Nat), a - d = n → d ≤ a → (∀ j, d ≤ j → j < a → ¬ atDot x x.size j) →
    dotsT (bolAt x d) (x.toList.drop d) = (x.toList.take a).drop d ++ dotsT (bolAt x a) (x.toList.drop a)
  | 0, d, hn, hd, _ => by
    have : d = a := by omega
    subst this
    rw [slice_nil]; rfl
  | n + 1, d, hn, hd, h => by
    have h0 := h d (Nat.le_refl _) (by omega)
    rw [drop_at x d (by omega), slice_more x d a (by omega) ha]
    have hne : ¬ (bolAt x d = true ∧ x.getD d 0 = 46) := fun ⟨q1, q2⟩ => h0 ⟨by omega, by simpa [bolAt] using q1, q2⟩
    rw [dotsT, if_neg hne, ← bolAt_succ, dots_seg x a ha n (d + 1) (by omega) (by omega) fun j h1 h2 => h j (by omega) h2]
    rfl

theorem subout1 (x : Array Nat) (hx : x.size ≤ 100000) : ∀ (n d : Nat), x.size - d = n → d ≤ x.size → SubOut code1 x [46, 46] d (dotsT (bolAt x d) (x.toList.drop d)) := by
  intro n
  induction n using Nat.strongRecOn with
  | ind n ih =>
    intro d hn hd
    by_cases hex : ∃ j, d ≤ j ∧ atDot x x.size j
    · obtain ⟨a, ⟨h1, h3⟩, hleast⟩ := exists_least hex
      have h2 := h3.1
      have hno : ∀ j, d ≤ j → j < a → ¬ atDot x x.size j := fun j q1 q2 q3 => hleast j q2 ⟨q1, q3⟩
      rw [dots_seg x a (by omega) _ d rfl h1 hno]
      obtain ⟨k, hk, H⟩ := search1_some x d x.size a h1 h3 hno
      have e : dotsT (bolAt x a) (x.toList.drop a) = [46, 46] ++ dotsT (bolAt x (a + 1)) (x.toList.drop (a + 1)) := by
        have hb : bolAt x a = true := by simpa [bolAt] using h3.2.1
        rw [bolAt_succ, drop_at x a h2, h3.2.2, hb, dotsT, if_pos ⟨rfl, rfl⟩]; rfl
      rw [e, ← List.append_assoc]
      exact .more ⟨k, by omega, H⟩ h1 (by omega) (by omega) (ih (x.size - (a + 1)) (by omega) (a + 1) rfl (by omega))
    · have hno : ∀ j, d ≤ j → j < x.size → ¬ atDot x x.size j := fun j q1 q2 q3 => hex ⟨j, q1, q3⟩
      have e : dotsT (bolAt x d) (x.toList.drop d) = x.toList.drop d := by
        rw [dots_seg x x.size (Nat.le_refl _) _ d rfl hd hno]
        have : x.toList.take x.size = x.toList := by rw [← Array.length_toList, List.take_length]
        rw [this, List.drop_eq_nil_of_le (as := x.toList) (i := x.size) (by rw [Array.length_toList]; omega)]
        simp [dotsT]
      rw [e]
      obtain ⟨k, hk, H⟩ := search1_none x d x.size hno
      exact .last ⟨k, by omega, H⟩

theorem subout_crlf (x : Array Nat) (hx : x.size ≤ 100000) : SubOut code2 x [13, 10] 0 (crlfT false x.toList) := by
  have := subout2 x hx _ 0 rfl (Nat.zero_le _)
  rwa [List.drop_zero] at this
theorem subout_dots (x : Array Nat) (hx : x.size ≤ 100000) : SubOut code1 x [46, 46] 0 (dotsT true x.toList) := by
  have := subout1 x hx _ 0 rfl (Nat.zero_le _)
  rwa [List.drop_zero] at this

theorem crlf_len : ∀ (b : Bool) (l : List Nat), (crlfT b l).length ≤ 2 * l.length
  | _, [] => by simp [crlfT]
  | b, c :: r => by
    rw [crlfT]
    have h1 := crlf_len true r
    have h2 := crlf_len false r
    by_cases h13 : c = 13
    · rw [if_pos h13]; simp only [List.length_cons]; omega
    · rw [if_neg h13]
      by_cases h10 : c = 10
      · rw [if_pos h10]
        by_cases hb : b = true
        · rw [if_pos hb]; simp only [List.length_cons]; omega
        · rw [if_neg hb]; simp only [List.length_cons]; omega
      · rw [if_neg h10]; simp only [List.length_cons]; omega
end Mine

end

/- part Names -/
section
open PySem PySem.W PySem.Calls PyProof.Rows
set_option maxRecDepth 100000
set_option maxHeartbeats 8000000
namespace Mine
section
variable (w : World)
theorem n_TICK : nsIn (Kf w) mainGlobals (Str.ofString "TICK") = some (some (.str (Str.ofString "'") 284)) := by kernel_rfl
theorem n_iter : nsIn (Kf w) mainGlobals (Str.ofString "_iter_escaped_chars") = some (some (.ref 38)) := by kernel_rfl
theorem n_strip : nsIn (Kf w) mainGlobals (Str.ofString "_strip_quoted_realnames") = some (some (.ref 45)) := by kernel_rfl
theorem n_check : nsIn (Kf w) mainGlobals (Str.ofString "_check_parenthesis") = some (some (.ref 52)) := by kernel_rfl
theorem n_pre : nsIn (Kf w) mainGlobals (Str.ofString "_pre_parse_validation") = some (some (.ref 59)) := by kernel_rfl
theorem n_decode : nsIn (Kf w) mainGlobals (Str.ofString "decode_rfc2231") = some (some (.ref 66)) := by kernel_rfl
theorem n_re1 : nsIn (Kf w) mainGlobals (Str.ofString "_twin_re_1") = some (some (.ref 71)) := by kernel_rfl
theorem n_re2 : nsIn (Kf w) mainGlobals (Str.ofString "_twin_re_2") = some (some (.ref 76)) := by kernel_rfl
theorem n_CRLF : nsIn (Kf w) mainGlobals (Str.ofString "CRLF") = some (some (.str (Str.ofString "\r\n") 395)) := by kernel_rfl
theorem n_quote : nsIn (Kf w) mainGlobals (Str.ofString "quotedata") = some (some (.ref 83)) := by kernel_rfl
theorem n_shown : nsIn (Kf w) mainGlobals (Str.ofString "_law_shown") = some (some (.ref 90)) := by kernel_rfl
theorem n_parts : nsIn (Kf w) mainGlobals (Str.ofString "_law_parts") = some (some (.ref 95)) := by kernel_rfl
theorem n_closes : nsIn (Kf w) mainGlobals (Str.ofString "_law_closes") = some (some (.ref 102)) := by kernel_rfl
theorem z_len : nsIn (Kf w) mainGlobals (Str.ofString "len") = some none := by kernel_rfl
theorem z_range : nsIn (Kf w) mainGlobals (Str.ofString "range") = some none := by kernel_rfl
theorem z_enumerate : nsIn (Kf w) mainGlobals (Str.ofString "enumerate") = some none := by kernel_rfl
theorem z_chr : nsIn (Kf w) mainGlobals (Str.ofString "chr") = some none := by kernel_rfl
theorem z_sum : nsIn (Kf w) mainGlobals (Str.ofString "sum") = some none := by kernel_rfl
theorem b_len : bootBuiltins (Str.ofString "len") = some (.builtin "len") := by boot_by_name
theorem b_range : bootBuiltins (Str.ofString "range") = some (.type "range") := by boot_by_name
theorem b_enumerate : bootBuiltins (Str.ofString "enumerate") = some (.type "enumerate") := by boot_by_name
theorem b_chr : bootBuiltins (Str.ofString "chr") = some (.builtin "chr") := by boot_by_name
theorem b_sum : bootBuiltins (Str.ofString "sum") = some (.builtin "sum") := by boot_by_name
end
end Mine

end

/- part QD -/
section
open PySem PySem.W PySem.Calls PyProof.Rows
set_option maxRecDepth 100000
set_option maxHeartbeats 8000000
namespace Mine

theorem pat1_K {w : World} {h : Heap} (KX : (Kf w).In h) : PatAt h 71 70 code1 :=
  ⟨_, _, _, _, _, KX 71 _ rfl, rfl, rfl, rfl, rfl, rfl, rfl, KX 70 _ rfl, rfl, by decide +kernel⟩
theorem pat2_K {w : World} {h : Heap} (KX : (Kf w).In h) : PatAt h 76 75 code2 :=
  ⟨_, _, _, _, _, KX 76 _ rfl, rfl, rfl, rfl, rfl, rfl, rfl, KX 75 _ rfl, rfl, by decide +kernel⟩

def quoteS (x : Str) : Str := ⟨(dotsT true (crlfT false x.cps.toList)).toArray⟩

theorem cps_crlf : (Str.ofString "\r\n").cps = #[13, 10] := by decide +kernel
theorem cps_dots : (Str.ofString "..").cps = #[46, 46] := by decide +kernel

theorem quote_spec {w : World} {A : Around} {s : Shared} {x : Str} {t : Tok} {mean mg mb} (KX : (Kf w).In s.heap) (T : TopH mean mg mb s.heap)
   (hroom : A.depth < recursionLimit) (hx : x.cps.size ≤ 50000) {R : Result → Shared → Prop} (hR : ∀ s' tk, Keeps s s' → R (.ok (.ret (.str (quoteS x) tk))) s') :
   codeAny (MM w) A (.call (.ref 83) ⟨[.str x t], []⟩) R s := by
  refine call_plain_ret (binds := [(Str.ofString "data", .str x t)]) hroom (KX 83 _ rfl) rfl T.nolimit ⟨82, _, _, _, rfl, KX 82 _ rfl, rfl, rfl⟩ rfl (locs rfl) ?_
  intro h₁ F
  have TR := topRead_of T
  refine wpAny_execs_cons (wpAny_Return_some (MethodCall_ (name_K F KX TR (n_re1 w) ?_)))
  refine getMethod_sub (pat1_K (KX.keeps F.keep)) ?_
  refine callWith_method1 (spliced_more (Constant_str ?_))
  refine spliced_more (MethodCall_ (name_K F KX TR (n_re2 w) ?_))
  refine getMethod_sub (pat2_K (KX.keeps F.keep)) ?_
  refine callWith_method1 (spliced_more (name_K F KX TR (n_CRLF w) ?_))
  refine spliced_more (ld F rfl ?_)
  refine spliced_none ?_
  refine call_sub (out := crlfT false x.cps.toList) (pat2_K (KX.keeps F.keep)) (by omega) (by show (Str.ofString "\r\n").cps.size ≤ 2; rw [cps_crlf]; decide) (by rw [cps_crlf]; decide +kernel) (by rw [cps_crlf]; exact subout_crlf _ (by omega)) ?_
  intro h₂ tk₂ tk₂' hk₂
  refine spliced_none ?_
  have k2 : ∀ b o, s.heap.get? b = some o → h₂.get? b = some o := fun b o e => hk₂ b o (F.keep b o e)
  have hl := crlf_len false x.cps.toList
  have el : x.cps.toList.length = x.cps.size := Array.length_toList
  rw [el] at hl
  have hz : (⟨(crlfT false x.cps.toList).toArray⟩ : Str).cps.size ≤ 100000 := by rw [List.size_toArray]; omega
  refine call_sub (x := ⟨(crlfT false x.cps.toList).toArray⟩) (out := dotsT true (crlfT false x.cps.toList)) (pat1_K (KX.keeps k2)) hz (by show (Str.ofString "..").cps.size ≤ 2; rw [cps_dots]; decide) (by rw [cps_dots]; decide +kernel) (by rw [cps_dots]; exact subout_dots _ hz) ?_
  intro h₃ tk₃ tk₃' hk₃
  exact hR _ _ ⟨h₃, tk₃, rfl, fun b o e => hk₃ b o (k2 b o e)⟩
end Mine

end

/- part Dec -/
section
open PySem PySem.W PySem.Calls PyProof.Rows PySem.Builtin PySem.Builtin.Str PySem.StrLaws
set_option maxRecDepth 100000
set_option maxHeartbeats 8000000
namespace Mine

def tickS : Str := ⟨#[39]⟩
theorem tick_eq : Str.ofString "'" = tickS := by decide +kernel

theorem tick_at (x : Str) (i : Nat) (h : i < x.cps.size) : subAt x tickS i = decide (x.cps.getD i 0 = 39) := by
  rw [subAt_eq, drop_at x.cps i h]
  show ((x.cps.getD i 0 :: x.cps.toList.drop (i + 1)).take 1 == [39]) = _
  rw [List.take_succ_cons, List.take_zero]
  generalize x.cps.getD i 0 = c
  by_cases h : c = 39 <;> simp [h]

abbrev isTk (x : Str) (i : Nat) : Prop := i < x.cps.size ∧ x.cps.getD i 0 = 39

theorem occ_run (x : Str) : ∀ (m cur : Nat) (st : Array Nat × Nat), st.snd ≤ cur → st.fst.size ≤ 2 →
    (forIn (List.range' cur m) st (occBody x tickS x.cps.size 2)).run.fst.toList = st.fst.toList ++ ((List.range' cur m).filter (fun i => decide (isTk x i))).take (2 - st.fst.size)
  | 0, cur, st, _, _ => by simp
  | m + 1, cur, st, h, h2 => by
    rw [List.range'_succ, List.forIn_cons]
    by_cases ht : isTk x cur
    · have hs : subAt x tickS cur = true := by rw [tick_at x cur ht.1]; simp [ht.2]
      by_cases h3 : st.fst.size < 2
      · have hb : occBody x tickS x.cps.size 2 cur st = pure (.yield (st.fst.push cur, cur + 1)) := by
          unfold occBody
          rw [if_pos]
          · rfl
          · exact ⟨⟨⟨h3, h⟩, by show cur + 1 ≤ _; have := ht.1; omega⟩, hs⟩
        rw [hb]
        show (forIn (List.range' (cur + 1) m) (st.fst.push cur, cur + 1) (occBody x tickS x.cps.size 2)).run.fst.toList = _
        rw [occ_run x m (cur + 1) (st.fst.push cur, cur + 1) (Nat.le_refl _) (by show (st.fst.push cur).size ≤ 2; rw [Array.size_push]; omega)]
        rw [List.filter_cons_of_pos (p := fun i => decide (isTk x i)) (decide_eq_true ht)]
        have e : 2 - st.fst.size = (2 - (st.fst.push cur).size) + 1 := by rw [Array.size_push]; omega
        rw [e, List.take_succ_cons, Array.toList_push]; simp
      · have hb : occBody x tickS x.cps.size 2 cur st = pure (.yield st) := by
          unfold occBody
          rw [if_neg]
          rintro ⟨⟨⟨q, _⟩, _⟩, _⟩
          exact h3 q
        rw [hb]
        show (forIn (List.range' (cur + 1) m) st (occBody x tickS x.cps.size 2)).run.fst.toList = _
        rw [occ_run x m (cur + 1) st (by omega) h2]
        have e : 2 - st.fst.size = 0 := by omega
        rw [e]; simp
    · have hb : occBody x tickS x.cps.size 2 cur st = pure (.yield st) := by
        unfold occBody
        rw [if_neg]
        rintro ⟨⟨⟨_, _⟩, q3⟩, q4⟩
        have q3' : cur + 1 ≤ x.cps.size := q3
        rw [tick_at x cur (by omega)] at q4
        exact ht ⟨by omega, by simpa using q4⟩
      rw [hb]
      show (forIn (List.range' (cur + 1) m) st (occBody x tickS x.cps.size 2)).run.fst.toList = _
      rw [occ_run x m (cur + 1) st (by omega) h2, List.filter_cons_of_neg (by rw [decide_eq_false ht]; decide)]

theorem occ_ticks (x : Str) : occurrences x tickS 0 x.cps.size 2 = ((List.range' 0 (x.cps.size + 1)).filter (fun i => decide (isTk x i))).take 2 := by
  rw [occ_eq, occ_run x _ 0 _ (Nat.le_refl _) (by simp)]; simp

theorem getD_list (x : Array Nat) (l : List Nat) (h : x.toList = l) (i : Nat) : x.getD i 0 = l.getD i 0 := by
  subst h
  simp [Array.getD, List.getD]
  split <;> simp_all

theorem filt_none (x : Str) (l : List Nat) : (∀ i ∈ l, ¬ isTk x i) → l.filter (fun i => decide (isTk x i)) = [] := by
  intro h
  rw [List.filter_eq_nil_iff]
  intro i hi
  rw [decide_eq_false (h i hi)]; decide

theorem range_cut (s n a : Nat) (h : a < n) : List.range' s n = List.range' s a ++ (s + a) :: List.range' (s + a + 1) (n - a - 1) := by
  have e : n = a + (1 + (n - a - 1)) := by omega
  conv => lhs; rw [e]
  rw [← List.range'_append_1, ← List.range'_append_1]
  rfl

theorem filt_tick (x : Str) (pre a b : List Nat) (hx : x.cps.toList = pre ++ (a ++ 39 :: b)) (ha : 39 ∉ a) (n : Nat) (hn : n = x.cps.size + 1 - pre.length) :
    (List.range' pre.length n).filter (fun i => decide (isTk x i)) = (pre.length + a.length) :: (List.range' (pre.length + a.length + 1) (n - a.length - 1)).filter (fun i => decide (isTk x i)) := by
  have hl : x.cps.size = pre.length + (a.length + (b.length + 1)) := by
    have := congrArg List.length hx
    simpa using this
  rw [range_cut pre.length n a.length (by omega), List.filter_append, filt_none, List.nil_append, List.filter_cons_of_pos]
  · have : isTk x (pre.length + a.length) := by
      refine ⟨by omega, ?_⟩
      rw [getD_list x.cps _ hx]
      simp [List.getD]
    exact decide_eq_true this
  · intro i hi ⟨h1, h2⟩
    rw [List.mem_range'_1] at hi
    rw [getD_list x.cps _ hx] at h2
    apply ha
    have hj : i - pre.length < a.length := by omega
    have : (pre ++ (a ++ 39 :: b)).getD i 0 = a[i - pre.length] := by
      rw [List.getD_eq_getElem?_getD, List.getElem?_append_right (by omega), List.getElem?_append_left hj, List.getElem?_eq_getElem hj]
      rfl
    rw [this] at h2
    rw [← h2]; exact List.getElem_mem hj

theorem filt_free (x : Str) (pre a : List Nat) (hx : x.cps.toList = pre ++ a) (ha : 39 ∉ a) (n : Nat) :
    (List.range' pre.length n).filter (fun i => decide (isTk x i)) = [] := by
  refine filt_none x _ fun i hi ⟨h1, h2⟩ => ?_
  have hl : x.cps.size = pre.length + a.length := by
    have := congrArg List.length hx
    simpa using this
  rw [List.mem_range'_1] at hi
  rw [getD_list x.cps _ hx] at h2
  apply ha
  have hj : i - pre.length < a.length := by omega
  have : (pre ++ a).getD i 0 = a[i - pre.length] := by
    rw [List.getD_eq_getElem?_getD, List.getElem?_append_right (by omega), List.getElem?_eq_getElem hj]
    rfl
  rw [this] at h2
  rw [← h2]; exact List.getElem_mem hj

theorem kind_tick (x : Str) : ¬ Builtin.Str.strKind x < Builtin.Str.strKind tickS := by
  have : Builtin.Str.strKind tickS = 1 := by decide +kernel
  rw [this]
  unfold Builtin.Str.strKind
  split
  · omega
  · split <;> omega

theorem split3 (x : Str) (a b c : List Nat) (h : parts3 x.cps.toList = some (a, b, c)) : Txt.splitMax x tickS 2 = [⟨a.toArray⟩, ⟨b.toArray⟩, ⟨c.toArray⟩] := by
  unfold parts3 at h
  cases h1 : tick1 x.cps.toList with
  | none => rw [h1] at h; cases h
  | some ab =>
    obtain ⟨a', b'⟩ := ab
    rw [h1] at h
    cases h2 : tick1 b' with
    | none => simp only [h2] at h; cases h
    | some cd =>
      obtain ⟨c', d'⟩ := cd
      simp only [h2] at h
      cases h
      obtain ⟨e1, n1⟩ := tick1_some h1
      obtain ⟨e2, n2⟩ := tick1_some h2
      have hl : x.cps.size = a.length + (b'.length + 1) := by simpa using congrArg List.length e1
      have hl2 : b'.length = b.length + (c.length + 1) := by simpa using congrArg List.length e2
      have ho : occurrences x tickS 0 x.cps.size 2 = [a.length, a.length + 1 + b.length] := by
        rw [occ_ticks]
        have f1 := filt_tick x [] a b' (by simpa using e1) n1 (x.cps.size + 1) (by simp)
        simp only [List.length_nil, Nat.zero_add] at f1
        rw [f1]
        have f2 := filt_tick x (a ++ [39]) b c (by rw [e1, e2]; simp) n2 (x.cps.size + 1 - a.length - 1) (by simp; omega)
        simp only [List.length_append, List.length_singleton] at f2
        rw [f2]; simp
      unfold Txt.splitMax
      have hlen : x.length = x.cps.size := rfl
      rw [if_neg (by
        have := kind_tick x
        have h1 : tickS.length = 1 := rfl
        simp [this]; rw [h1, hlen]; omega)]
      have hlim : limitOf x 2 = 2 := rfl
      rw [hlim, hlen, ho, if_neg (by simp)]
      have p1 : strSub x 0 a.length = ⟨a.toArray⟩ := Str.ext' (Array.ext' (by rw [strSub_toList, e1]; simp))
      have p2 : strSub x (a.length + 1) (a.length + 1 + b.length) = ⟨b.toArray⟩ := Str.ext' (Array.ext' (by
        rw [strSub_toList, e1, e2]
        have : (a ++ 39 :: (b ++ 39 :: c)).drop (a.length + 1) = b ++ 39 :: c := by
          rw [show a ++ 39 :: (b ++ 39 :: c) = (a ++ [39]) ++ (b ++ 39 :: c) by simp]
          rw [List.drop_left' (by simp)]
        rw [this]; simp))
      have p3 : strSub x (a.length + 1 + b.length + 1) x.cps.size = ⟨c.toArray⟩ := Str.ext' (Array.ext' (by
        rw [strSub_toList, hl, hl2, e1, e2]
        have : (a ++ 39 :: (b ++ 39 :: c)).drop (a.length + 1 + b.length + 1) = c := by
          rw [show a ++ 39 :: (b ++ 39 :: c) = (a ++ [39] ++ b ++ [39]) ++ c by simp]
          rw [List.drop_left' (by simp; omega)]
        rw [this, List.take_of_length_le (by omega)]))
      show [strSub x 0 a.length, strSub x (a.length + 1) (a.length + 1 + b.length), strSub x (a.length + 1 + b.length + 1) x.cps.size] = _
      rw [p1, p2, p3]

theorem split2 (x : Str) (h : parts3 x.cps.toList = none) : (Txt.splitMax x tickS 2).length ≤ 2 := by
  have ho : (occurrences x tickS 0 x.cps.size 2).length ≤ 1 := by
    rw [occ_ticks, List.length_take]
    have : ((List.range' 0 (x.cps.size + 1)).filter (fun i => decide (isTk x i))).length ≤ 1 := by
      unfold parts3 at h
      cases h1 : tick1 x.cps.toList with
      | none =>
        have := filt_free x [] x.cps.toList rfl (tick1_free.mp h1) (x.cps.size + 1)
        simp only [List.length_nil] at this
        rw [this]; simp
      | some ab =>
        obtain ⟨a, b⟩ := ab
        rw [h1] at h
        obtain ⟨e1, n1⟩ := tick1_some h1
        have h2 : tick1 b = none := by
          cases h2 : tick1 b with
          | none => rfl
          | some cd => simp only [h2] at h; cases h
        have f1 := filt_tick x [] a b (by simpa using e1) n1 (x.cps.size + 1) (by simp)
        simp only [List.length_nil, Nat.zero_add] at f1
        have f2 := filt_free x (a ++ [39]) b (by rw [e1]; simp) (tick1_free.mp h2) (x.cps.size + 1 - a.length - 1)
        simp only [List.length_append, List.length_singleton] at f2
        rw [f1, f2]; simp
    omega
  unfold Txt.splitMax
  split
  · simp
  · split
    · simp
    · have hlim : limitOf x 2 = 2 := rfl
      rw [hlim, length_partsBetween]
      show (occurrences x tickS 0 x.cps.size 2).length + 1 ≤ 2
      omega
end Mine

end

/- part Dec2 -/
section
open PySem PySem.W PySem.Calls PyProof.Rows PySem.Builtin PySem.Builtin.Str
set_option maxRecDepth 100000
set_option maxHeartbeats 8000000
namespace Mine

local macro_rules | `(tactic| walk_at "nf") => `(tactic| try dsimp only at *)

/- what decode_rfc2231 hands back -/
def Decoded (x : Str) (h : Heap) (v : Value) : Prop :=
  match parts3 x.cps.toList with
  | some (a, b, c) => ∃ D t1 t2 t3, v = .ref D ∧ h.PlainList D #[.str ⟨a.toArray⟩ t1, .str ⟨b.toArray⟩ t2, .str ⟨c.toArray⟩ t3]
  | none => ∃ D t, v = .ref D ∧ h.get? D = some { cls := .type "tuple", data := .seq #[.none, .none, .str x t] }

theorem decode_spec {w : World} {A : Around} {s : Shared} {x : Str} {t : Tok} {mean mg mb} (KX : (Kf w).In s.heap) (T : TopH mean mg mb s.heap)
   (hroom : A.depth < recursionLimit) (hx : x.cps.size ≤ 50000) {R : Result → Shared → Prop} (hR : ∀ s' v, Keeps s s' → Decoded x s'.heap v → R (.ok (.ret v)) s') :
   codeAny (MM w) A (.call (.ref 66) ⟨[.str x t], []⟩) R s := by
  refine call_plain_ret (binds := [(Str.ofString "s", .str x t)]) hroom (KX 66 _ rfl) rfl T.nolimit ⟨65, _, _, _, rfl, KX 65 _ rfl, rfl, rfl⟩ rfl (locs rfl) ?_
  intro h₁ F
  have TR := topRead_of T
  have N := News.nil (h₀ := s.heap) (L := s.heap.objs.size) (h := h₁)
  have hz : x.length + 2 ≤ sizeLine := by rw [sizeLine_eq]; show x.cps.size + 2 ≤ _; omega
  refine wpAny_execs_cons (wpAny_Assign_Name (MethodCall_ (ld F rfl (GM.split ?_))))
  refine callWith_method1 (spliced_more (name_K F KX TR (n_TICK w) ?_))
  refine spliced_more (wpAny_Constant_int ?_)
  refine spliced_none ?_
  rw [tick_eq]
  walk_at "nf"
  refine splitN2A F N (by decide +kernel) (by decide +kernel) ?_ hz
  intro l h₂ tk₂ e₂ hs₂ hlen₂ hl₂ F₂ N₂
  walk_at "nf"
  refine stN F₂ N₂ ?_
  intro h₃ F₃ N₃
  walk_at "nf"
  have hl₃ : h₃.IsList h₁.objs.size (strValues l).toArray := News.isList N₃ (.head _)
  have hll : l.length = (Txt.splitMax x tickS 2).length := by rw [← e₂, List.length_map]
  refine wpAny_execs_cons (wpAny_If (wpAny_isTrue_Compare1 (Call_ (name_B F₃ KX TR (z_len w) b_len (by decide) ?_))))
  refine callWith_builtin1 (spliced_more (ld F₃ rfl ?_))
  refine spliced_none ?_
  have hsz : (strValues l).toArray.size = l.length := by simp [strValues]
  have hbig : l.length ≤ 3 := by
    rw [hll]
    cases hp : parts3 x.cps.toList with
    | none => have := split2 x hp; omega
    | some abc => obtain ⟨a, b, c⟩ := abc; rw [split3 x a b c hp]; simp
  refine call_len_list hl₃ (by rw [hsz]; omega) ?_
  refine wpAny_Constant_int (le_int (wpAny_truthy_bool ?_))
  walk_at "nf"
  rw [hsz]
  cases hp : parts3 x.cps.toList with
  | none =>
    have h2 := split2 x hp
    rw [if_pos (by rw [decide_eq_true_iff]; omega)]
    refine wpAny_execs_cons (wpAny_Return_some (Tuple_ (spliced_more (wpAny_Constant_none (spliced_more (wpAny_Constant_none (spliced_more (ld F₃ rfl (spliced_none ?_)))))))))
    refine newTuple_N F₃ N₃ ?_ (by rw [sizeLine_eq]; simp)
    intro h₄ F₄ N₄
    refine hR _ _ ⟨h₄, _, rfl, F₄.keep⟩ ?_
    unfold Decoded
    rw [hp]
    exact ⟨_, t, rfl, N₄.get (.head _)⟩
  | some abc =>
    obtain ⟨a, b, c⟩ := abc
    have h3 := split3 x a b c hp
    rw [if_neg (by rw [decide_eq_true_iff, hll, h3]; simp)]
    refine wpAny_execs_nil (wpAny_execs_cons (wpAny_Return_some (ld F₃ rfl ?_)))
    refine hR _ _ ⟨h₃, _, rfl, F₃.keep⟩ ?_
    unfold Decoded
    rw [hp]
    rw [h3] at e₂
    match l, e₂ with
    | [(p1, u1), (p2, u2), (p3, u3)], e₂ =>
      simp only [List.map_cons, List.map_nil, List.cons.injEq, and_true] at e₂
      obtain ⟨e1, e2, e3⟩ := e₂
      subst e1 e2 e3
      exact ⟨_, u1, u2, u3, rfl, 0, N₃.get (.head _)⟩
end Mine

end

/- part Loop -/
section
open PySem PySem.W PySem.Calls PyProof.Rows
set_option maxRecDepth 100000
set_option maxHeartbeats 8000000
namespace Mine

theorem noted_false {M : Model} {A : Around} {env : Env} {E : Value → Shared → Prop} {α : Type} {t : Sem α} {Q : α → Shared → Prop} {s : Shared} (h : wpAny M A t Q (fun _ _ => False) s) : wpAny M A t Q E s :=
  wpAny_mono h (fun _ _ x => x) (fun _ _ x => x.elim)

/- what a turn's flow leads to -/
def Turned (R : Result → Shared → Prop) (J : Shared → Prop) : Flow → Shared → Prop
  | .next, s => J s
  | .cont, s => J s
  | .brk, s => R (.ok .next) s
  | .ret v, s => R (.ok (.ret v)) s

section
variable {prog : Program} {w : World} {A : Around} {R : Result → Shared → Prop} {s : Shared} {env : Env}

/- a for over anything that walks -/
theorem forW {I : Addr} {fp wr : List Addr} {n : Nat} {P : Nat → Value → Prop} {St : Nat → Heap → Prop} (W : Walks prog w A I fp wr n P St) {x : Str} {px : Pos} {body : List Stmt}
    (J : Nat → Shared → Prop) (hst : ∀ i s, J i s → St i s.heap)
    (step : ∀ i s v h' tk, i < n → J i s → P i v → St (i + 1) h' → (∀ b o, b ∉ wr → s.heap.get? b = some o → h'.get? b = some o) →
      wpAny (model prog w) A (storeName env x v) (fun _ s₂ => wpAny (model prog w) A (execs body env) (Turned R (J (i + 1))) (fun _ _ => False) s₂) (fun _ _ => False) { s with heap := h', toks := tk })
    (fin : ∀ s h' tk, J n s → (∀ b o, b ∉ wr → s.heap.get? b = some o → h'.get? b = some o) → R (.ok .next) { s with heap := h', toks := tk })
    (h0 : J 0 s) : codeAny (model prog w) A (.forLoop (.Name x px) (.ref I) body [] env) R s := by
  refine codeAny_forLoop_any (fun k s' => ∃ i, J i s' ∧ i ≤ n ∧ k = n + 1 - i) ?_ (n + 1) ⟨0, h0, Nat.zero_le _, rfl⟩
  rintro k s' ⟨i, hJ, hi, rfl⟩
  by_cases hlt : i < n
  · refine W.item i _ _ _ hlt (hst i s' hJ) fun v h' tk hP hst' hk => ?_
    refine wpAny_of_eq (rfl : letOwnedTupleGo (.Name x px) (.ref I) v = pure ()) ?_
    refine wpAny_assign_Name (noted_false (env := env) (wpAny_mono (step i s' v h' tk hlt hJ hP hst' hk) (fun _ s₂ h₂ => noted_false (env := env) (wpAny_mono h₂ (fun f s₃ h₃ => ?_) fun _ _ e => e)) fun _ _ e => e))
    cases f with
    | next => exact ⟨n + 1 - (i + 1), by omega, i + 1, h₃, hlt, rfl⟩
    | cont => exact ⟨n + 1 - (i + 1), by omega, i + 1, h₃, hlt, rfl⟩
    | brk => exact h₃
    | ret v => exact h₃
  · have hin : i = n := by omega
    subst hin
    refine W.done _ _ _ (hst i s' hJ) fun h' tk hk => wpAny_execs_nil ?_
    exact fin s' h' tk hJ hk
end

theorem Fr.walked {h₀ h h' : Heap} {L : Addr} {m : Str → Option Value} {wr : List Addr} (F : Fr h₀ L h m) (hk : ∀ b o, b ∉ wr → h.get? b = some o → h'.get? b = some o) (hL : L ∉ wr) (hb : ∀ b ∈ wr, h₀.get? b = none) : Fr h₀ L h' m :=
  ⟨F.ns.at' fun o e => hk L o hL e, fun b o e => hk b o (fun hm => by rw [hb b hm] at e; cases e) (F.keep b o e), F.above⟩
theorem Fr.keeps' {h₀ h h' : Heap} {L : Addr} {m : Str → Option Value} (F : Fr h₀ L h m) (hk : ∀ b o, h.get? b = some o → h'.get? b = some o) : Fr h₀ L h' m :=
  ⟨F.ns.keeps hk, fun b o e => hk b o (F.keep b o e), F.above⟩
theorem News.walked {h₀ h h' : Heap} {L : Addr} {news : List (Addr × Obj)} {wr : List Addr} (N : News h₀ L h news) (hk : ∀ b o, b ∉ wr → h.get? b = some o → h'.get? b = some o) (hn : ∀ p ∈ news, p.1 ∉ wr) : News h₀ L h' news :=
  fun p hp => ⟨hk _ _ (hn p hp) (N p hp).1, (N p hp).2⟩
theorem News.keeps' {h₀ h h' : Heap} {L : Addr} {news : List (Addr × Obj)} (N : News h₀ L h news) (hk : ∀ b o, h.get? b = some o → h'.get? b = some o) : News h₀ L h' news :=
  fun p hp => ⟨hk _ _ (N p hp).1, (N p hp).2⟩
theorem News.put {h₀ h h' : Heap} {L D : Addr} {o o' : Obj} {rest : List (Addr × Obj)} (N : News h₀ L h ((D, o) :: rest)) (hs : Heap.SameBut D h h') (ho : h'.get? D = some o') (hD : ∀ p ∈ rest, p.1 ≠ D) : News h₀ L h' ((D, o') :: rest) := by
  intro p hp
  rcases List.mem_cons.mp hp with rfl | hp
  · exact ⟨ho, (N _ (.head _)).2⟩
  · exact ⟨hs.extBut _ _ (hD p hp) (N p (.tail _ hp)).1, (N p (.tail _ hp)).2⟩
theorem News.tail {h₀ h : Heap} {L : Addr} {p : Addr × Obj} {rest : List (Addr × Obj)} (N : News h₀ L h (p :: rest)) : News h₀ L h rest := fun q hq => N q (.tail _ hq)
theorem News.swap {h₀ h : Heap} {L : Addr} {p q : Addr × Obj} {rest : List (Addr × Obj)} (N : News h₀ L h (p :: q :: rest)) : News h₀ L h (q :: p :: rest) := fun r hr => by
  rcases List.mem_cons.mp hr with rfl | hr
  · exact N _ (.tail _ (.head _))
  · rcases List.mem_cons.mp hr with rfl | hr
    · exact N _ (.head _)
    · exact N _ (.tail _ (.tail _ hr))
theorem Fr.changed {h₀ h h' : Heap} {L D : Addr} {m : Str → Option Value} (F : Fr h₀ L h m) (hs : Heap.SameBut D h h') (hD : D ≠ L) (hn : h₀.get? D = none) : Fr h₀ L h' m :=
  ⟨F.ns.sameBut hs (Ne.symm hD), fun b o e => hs.extBut b o (fun hb => by rw [hb, hn] at e; cases e) (F.keep b o e), F.above⟩

@[reducible] def lstO (ys : Array Value) (n : Nat) : Obj := { cls := .type "list", data := .seq ys n }
@[reducible] def tupO (ys : Array Value) : Obj := { cls := .type "tuple", data := .seq ys }

section
variable {prog : Program} {w : World} {A : Around} {E : Value → Shared → Prop} {s : Shared} {h₀ : Heap} {L : Addr} {m : Str → Option Value} {rest : List (Addr × Obj)}
theorem app_step {D : Addr} {ys : Array Value} {ne : Nat} {v : Value} {Q : Value → Shared → Prop} (F : Fr h₀ L s.heap m) (N : News h₀ L s.heap ((D, lstO ys ne) :: rest)) (hD : ∀ p ∈ rest, p.1 ≠ D) (hsz : ys.size ≤ sizeLine)
    (h : ∀ h' ne', Fr h₀ L h' m → News h₀ L h' ((D, lstO (ys.push v) ne') :: rest) → Q .none { s with heap := h' }) : wpAny (model prog w) A (call (.builtin "list.append") [.ref D, v]) Q E s := by
  have hn := N _ (.head _)
  refine wpAny_list_append_plain (hsz := hsz) ⟨ne, hn.1⟩ fun h' hl hs => ?_
  obtain ⟨n', e⟩ := hl
  exact h h' n' (Fr.changed F hs hn.2.1 hn.2.2) (News.put N hs e hD)

theorem getAppend {D : Addr} {ys : Array Value} {ne : Nat} {pl : Sem Bool} {Q : Value × List Value → Shared → Prop} (N : News h₀ L s.heap ((D, lstO ys ne) :: rest)) (h : Q (.builtin "list.append", [.ref D]) s) :
    wpAny (model prog w) A (getMethod (.ref D) "append" pl) Q E s := getMethod_append_N N (.head _) h

theorem newList_N' {vs : List Value} {Q : Value → Shared → Prop} {news : List (Addr × Obj)} (F : Fr h₀ L s.heap m) (N : News h₀ L s.heap news)
    (h : ∀ D h', D = s.heap.objs.size → Fr h₀ L h' m → News h₀ L h' ((D, lstO vs.toArray 0) :: news) → (∀ b o, s.heap.get? b = some o → h'.get? b = some o ∧ b ≠ D) → Q (.ref D) { s with heap := h' }) (hsz : vs.length ≤ sizeLine := by size_fits) :
    wpAny (model prog w) A (newList vs) Q E s :=
  wpAny_newObj_type (h _ _ rfl (F.push _) (N.push F _) fun b o e => ⟨Heap.get?_push_of_some _ e, Nat.ne_of_lt (Heap.lt_size e)⟩) (by show vs.toArray.size ≤ sizeLine; rw [List.size_toArray]; exact hsz)
theorem newTuple_N' {vs : List Value} {Q : Value → Shared → Prop} {news : List (Addr × Obj)} (F : Fr h₀ L s.heap m) (N : News h₀ L s.heap news)
    (h : ∀ D h', D = s.heap.objs.size → Fr h₀ L h' m → News h₀ L h' ((D, tupO vs.toArray) :: news) → (∀ b o, s.heap.get? b = some o → h'.get? b = some o ∧ b ≠ D) → Q (.ref D) { s with heap := h' }) (hsz : vs.length ≤ sizeLine := by size_fits) :
    wpAny (model prog w) A (newTuple vs) Q E s :=
  wpAny_newObj_type (h _ _ rfl (F.push _) (N.push F _) fun b o e => ⟨Heap.get?_push_of_some _ e, Nat.ne_of_lt (Heap.lt_size e)⟩) (by show vs.toArray.size ≤ sizeLine; rw [List.size_toArray]; exact hsz)
end
end Mine

end

/- part Shown -/
section
open PySem PySem.W PySem.Calls PyProof.Rows
set_option maxRecDepth 100000
set_option maxHeartbeats 8000000
namespace Mine
local macro_rules | `(tactic| walk_at "nf") => `(tactic| try dsimp only at *)
local macro_rules | `(tactic| walk_at "lo") => `(tactic| refine ld (by assumption) (by first | assumption | rfl) ?_)
local macro_rules | `(tactic| walk_at "ap") => `(tactic| (refine wpAny_execs_cons (wpAny_Expr (MethodCall_ (ld (by assumption) (by assumption) ?_))); refine getAppend (by assumption) (callWith_method1 (spliced_more ?_))))
local macro_rules | `(tactic| walk_at "nil") => `(tactic| repeat (refine wpAny_execs_nil ?_))

def prevAt (p : Option Nat) (x : List Nat) : Nat → Option Nat
  | 0 => p
  | k + 1 => some (x.getD k 0)
theorem shown_snoc (n f : Nat) : ∀ (x : List Nat) (p : Option Nat) (k : Nat), k < x.length → shownL n f p (x.take (k + 1)) = shownL n f p (x.take k) ++ pieceL n f (prevAt p x k) (x.getD k 0)
  | [], _, _, h => by simp at h
  | c :: r, p, 0, _ => by simp [shownL, prevAt]
  | c :: r, p, k + 1, h => by
    rw [List.take_succ_cons, List.take_succ_cons, shownL, shownL, shown_snoc n f r (some c) k (by simpa using h), List.append_assoc]
    congr 3
    cases k with
    | zero => rfl
    | succ k => rfl

theorem pieceL_len (n f : Nat) (p : Option Nat) (c : Nat) : (pieceL n f p c).length ≤ 2 + n + f := by
  unfold pieceL
  split
  · simp; omega
  · split
    · simp; omega
    · split
      · simp; omega
      · split <;> simp; omega
theorem shownL_len (n f : Nat) : ∀ (x : List Nat) (p : Option Nat), (shownL n f p x).length ≤ (2 + n + f) * x.length
  | [], _ => by simp [shownL]
  | c :: r, p => by
    rw [shownL, List.length_append, List.length_cons, Nat.mul_succ]
    have h1 := pieceL_len n f p c
    have h2 := shownL_len n f r (some c)
    omega

def shownS (x : Str) (n f : Nat) : Str := ⟨(shownL n f none x.cps.toList).toArray⟩

theorem getD_list' (x : Array Nat) (i : Nat) : x.getD i 0 = x.toList.getD i 0 := by
  simp [Array.getD, List.getD]
  split <;> simp_all

theorem item_at (x : Str) (k : Nat) (h : k < x.cps.size) : Txt.item x (k : Int) = ⟨#[x.cps.getD k 0]⟩ := by
  have := item_meets (x := x) (i := (k : Int)) (n := x.cps.getD k 0) (by omega) (by simp [h])
  exact this

/- an iterator of a range by ones -/
@[reducible] def rIt (n i : Nat) : Obj := { cls := .type "range_iterator", data := .fields #[rawInt (0 + (i : Int) * 1), rawInt ((n : Int) - (i : Int)), rawInt 1] }

section
variable {prog : Program} {w : World} {A : Around} {E : Value → Shared → Prop} {s : Shared} {h₀ : Heap} {L : Addr} {m : Str → Option Value} {news : List (Addr × Obj)}
/- range(n) and its iterator -/
theorem range_iter {n : Nat} {t : Tok} {Q : Value → Shared → Prop} (F : Fr h₀ L s.heap m) (N : News h₀ L s.heap news) (hn : n ≤ 1000000)
    (h : ∀ I h' tk, Fr h₀ L h' m → News h₀ L h' ((I, rIt n 0) :: news) → I ≠ L → h₀.get? I = none → (∀ p ∈ news, p.1 ≠ I) → (∀ b o, s.heap.get? b = some o → h'.get? b = some o) → Q (.ref I) { s with heap := h', toks := tk }) :
    wpAny (model prog w) A (call (.type "range") [.int (n : Int) t]) (fun v s₁ => wpAny (model prog w) A (pyIter v) Q E s₁) E s := by
  refine call_range_1 ?_
  refine wpAny_pyIter_range (IsRange.new ..) (small_one (by decide) (by decide) (by omega) (by omega)) ?_
  have F1 := F.push { cls := .type "range", data := .fields #[.int 0 s.toks, .int n t, .int 1 (s.toks + 1)] }
  have N1 := N.push F { cls := .type "range", data := .fields #[.int 0 s.toks, .int n t, .int 1 (s.toks + 1)] }
  have hsz : Builtin.Range.rangeSize 0 (n : Int) 1 = (n : Int) := by rw [rangeSize_one]; split <;> omega
  rw [hsz]
  have eo : ({ cls := .type "range_iterator", data := .fields #[rawInt 0, rawInt (n : Int), rawInt 1] } : Obj) = rIt n 0 := by
    show _ = ({ cls := .type "range_iterator", data := .fields #[rawInt (0 + ((0 : Nat) : Int) * 1), rawInt ((n : Int) - ((0 : Nat) : Int)), rawInt 1] } : Obj)
    congr 4 <;> simp [rawInt]
  rw [eo]
  have F2 := F1.push (rIt n 0)
  have N2 := N1.push F1 (rIt n 0)
  have hI := N2 _ (.head _)
  refine h _ _ _ F2 (News.tail (News.swap N2)) hI.2.1 hI.2.2 (fun p hp => ?_) fun b o e => Heap.get?_push_of_some _ (Heap.get?_push_of_some _ e)
  have := Heap.lt_size (N1 p (.tail _ hp)).1
  exact Nat.ne_of_lt this
end

theorem sign_beq (c d : Nat) : ((⟨#[c]⟩ : Str) == ⟨#[d]⟩) = decide (c = d) := by
  by_cases h : c = d
  · subst h; simp
  · have : (⟨#[c]⟩ : Str) ≠ ⟨#[d]⟩ := fun e => h (by injection e with e; simpa using e)
    rw [beq_eq_false_iff_ne.mpr this, decide_eq_false h]
theorem sign_bne (c d : Nat) : ((⟨#[c]⟩ : Str) != ⟨#[d]⟩) = decide (c ≠ d) := by
  unfold bne; rw [sign_beq]; by_cases h : c = d <;> simp [h]
theorem mul_dots (k : Nat) : Txt.mul ⟨#[46]⟩ (1 + (k : Int)) = ⟨(List.replicate (1 + k) 46).toArray⟩ := by
  unfold Txt.mul
  rw [if_neg (by omega)]
  by_cases hk : k = 0
  · subst hk; rfl
  · rw [if_neg (by simp [Str.length]; omega)]
    have e : (1 + (k : Int)).toNat = 1 + k := by omega
    rw [e]
    have aux : ∀ (j : Nat) (acc : Array Nat), (List.replicate j (#[46] : Array Nat)).foldl (· ++ ·) acc = acc ++ (List.replicate j 46).toArray := by
      intro j
      induction j with
      | zero => intro acc; simp
      | succ j ih => intro acc; rw [List.replicate_succ, List.foldl_cons, ih]; apply Array.ext'; simp [List.replicate_succ]
    show (⟨(List.replicate (1 + k) (#[46] : Array Nat)).foldl (· ++ ·) #[]⟩ : Str) = _
    rw [aux]; simp

theorem dot_eq : Str.ofString "." = ⟨#[46]⟩ := by decide +kernel
theorem cr_eq : Str.ofString "\r" = ⟨#[13]⟩ := by decide +kernel
theorem lf_eq : Str.ofString "\n" = ⟨#[10]⟩ := by decide +kernel
theorem crlf_eq : Str.ofString "\r\n" = ⟨#[13, 10]⟩ := by decide +kernel
theorem empty_eq : Str.ofString "" = ⟨#[]⟩ := by decide +kernel

theorem sign_dot (c : Nat) : ((⟨#[c]⟩ : Str) == Str.ofString ".") = decide (c = 46) := by rw [dot_eq, sign_beq]
theorem sign_cr (c : Nat) : ((⟨#[c]⟩ : Str) == Str.ofString "\r") = decide (c = 13) := by rw [cr_eq, sign_beq]
theorem sign_ncr (c : Nat) : ((⟨#[c]⟩ : Str) != Str.ofString "\r") = decide (c ≠ 13) := by rw [cr_eq, sign_bne]
theorem mul_dots' (k : Nat) : (Txt.mul (Str.ofString ".") (1 + (k : Int))).cps.toList = List.replicate (1 + k) 46 := by rw [dot_eq, mul_dots]
theorem any_le (c : Nat) : ([Str.ofString "\r", Str.ofString "\n"].any (· == (⟨#[c]⟩ : Str))) = decide (c = 13 ∨ c = 10) := by
  rw [cr_eq, lf_eq]
  simp only [List.any_cons, List.any_nil, sign_beq, Bool.or_false]
  by_cases h1 : c = 13
  · subst h1; decide
  · by_cases h2 : c = 10
    · subst h2; decide
    · have : (13 : Nat) ≠ c := fun e => h1 e.symm
      have : (10 : Nat) ≠ c := fun e => h2 e.symm
      simp [*]

section
variable {prog : Program} {w : World} {A : Around} {E : Value → Shared → Prop} {s : Shared} {h₀ : Heap} {L : Addr} {m : Str → Option Value} {news : List (Addr × Obj)} {env : Env}
/- ('\r', '\n') as it is written -/
theorem le_tuple {a b : Str} {k1 k2 k : Nat} {p1 p2 pos : Pos} {Q : Value → Shared → Prop} (F : Fr h₀ L s.heap m) (N : News h₀ L s.heap news)
    (h : ∀ T h' tk u1 u2, Fr h₀ L h' m → News h₀ L h' ((T, tupO #[.str a u1, .str b u2]) :: news) → (∀ b o, s.heap.get? b = some o → h'.get? b = some o) → IsTup h' T #[.str a u1, .str b u2] → StrsAre (#[.str a u1, .str b u2] : Array Value).toList [a, b] → Q (.ref T) { s with heap := h', toks := tk }) :
    wpAny (model prog w) A (eval (.Tuple [.Constant (.str a) k1 p1, .Constant (.str b) k2 p2] k pos) env) Q E s := by
  refine Tuple_ (spliced_more (Constant_str (spliced_more (Constant_str (spliced_none ?_)))))
  refine newTuple_N' (s := ⟨s.heap, s.gens, s.drawn, s.toks + 1 + 1, s.os⟩) F N ?_ (by rw [sizeLine_eq]; simp)
  intro T h' _ F' N' hk
  exact h T h' _ _ _ F' N' (fun b o e => (hk b o e).1) ⟨_, (N' _ (.head _)).1, rfl, 0, rfl⟩ (.cons _ _ (.cons _ _ .nil))
end

theorem shown_spec {w : World} {d : Nat} {fr gu un} {s : Shared} {e : Addr} {src : Str} {n f : Nat} {t0 t1 t2 : Tok} {mean mg mb} (KX : (Kf w).In s.heap) (T : TopH mean mg mb s.heap)
   (he : IsTup s.heap e #[.str src t0, .int (n : Int) t1, .int (f : Int) t2]) (hsz : src.cps.size ≤ 1000) (hn : n ≤ 10) (hf : f ≤ 10)
   (hroom : d < recursionLimit) {R : Result → Shared → Prop} (hR : ∀ s' tk, Keeps s s' → R (.ok (.ret (.str (shownS src n f) tk))) s') :
   codeAny (MM w) ⟨none, d, fr, gu, un⟩ (.call (.ref 90) ⟨[.ref e], []⟩) R s := by
  refine call_plain_ret (binds := [(Str.ofString "entry", .ref e)]) hroom (KX 90 _ rfl) rfl T.nolimit ⟨89, _, _, _, rfl, KX 89 _ rfl, rfl, rfl⟩ rfl (locs rfl) ?_
  intro h₁ F
  have TR := topRead_of T
  have N := News.nil (h₀ := s.heap) (L := s.heap.objs.size) (h := h₁)
  refine wpAny_execs_cons (Assign_Tuple (ld F rfl ?_))
  refine unpackN_ F N (he.keeps F.keep) rfl rfl rfl ?_
  intro h₂ F₂ N₂
  refine assignInOrder_cons (assign_Name (stN F₂ N₂ ?_))
  intro h₃ F₃ N₃
  refine assignInOrder_cons (assign_Name (stN F₃ N₃ ?_))
  intro h₄ F₄ N₄
  refine assignInOrder_cons (assign_Name (stN F₄ N₄ ?_))
  intro h₅ F₅ N₅
  refine assignInOrder_nil ?_
  walk_at "nf"
  refine wpAny_execs_cons (wpAny_Assign_Name (List_ (spliced_none ?_)))
  refine newList_N' F₅ N₅ ?_ (by rw [sizeLine_eq]; simp)
  intro D h₆ _ F₆ N₆ _
  walk_at "nf"
  refine stN F₆ N₆ ?_
  intro h₇ F₇ N₇
  walk_at "nf"
  refine wpAny_execs_cons (wpAny_For (Call_ (name_B F₇ KX TR (z_range w) b_range (by decide) ?_)))
  refine PyProof.Rows.callWith_type1 (spliced_more (Call_ (name_B F₇ KX TR (z_len w) b_len (by decide) ?_)))
  refine callWith_builtin1 (spliced_more (ld F₇ rfl (spliced_none ?_)))
  refine len_str (by show ¬ ((src.cps.size : Int) ≥ 2 ^ 63); omega) ?_
  refine spliced_none ?_
  refine range_iter (n := src.cps.size) F₇ N₇ (by omega) ?_
  intro I h₈ tk₈ F₈ N₈ hIL hIb hIn hk₈
  walk_at "nf"
  clear hk₈ F N F₂ N₂ F₃ N₃ F₄ N₄ F₅ N₅ F₆ N₆ F₇ N₇ h₁ h₂ h₃ h₄
  refine forW (Walks.range (A := Around.deeper ⟨none, d, fr, gu, un⟩ _) rfl I 0 1 src.cps.size) (fun i s' => ∃ h tk m ys ne ps, s' = { s with heap := h, toks := tk } ∧ Fr s.heap s.heap.objs.size h m ∧
      News s.heap s.heap.objs.size h [(D, lstO ys ne), (I, rIt src.cps.size i)] ∧ (m (Str.ofString "source") = some (.str src t0) ∧ m (Str.ofString "sends") = some (.int (n : Int) t1) ∧ m (Str.ofString "first") = some (.int (f : Int) t2) ∧ m (Str.ofString "signs") = some (.ref D)) ∧
      StrsAre ys.toList ps ∧ cat ps = shownL n f none (src.cps.toList.take i) ∧ ps.length ≤ i) ?_ ?_ ?_ ?_
  · rintro i _ ⟨h, tk, m, ys, ne, ps, rfl, F, N, _⟩
    exact N.get (.tail _ (.head _))
  · rintro i _ v h' tk' hlt ⟨h, tk, m, ys, ne, ps, rfl, F, N, ⟨hm1, hm2, hm3, hm4⟩, hS, hcat, hlen⟩ ⟨t, rfl⟩ hst hk
    have hDI : D ≠ I := hIn _ (.head _)
    have F' := Fr.walked F hk (by simpa using Ne.symm hIL) (by simpa using hIb)
    have N' : News s.heap s.heap.objs.size h' [(D, lstO ys ne), (I, rIt src.cps.size (i + 1))] := by
      intro p hp
      rcases List.mem_cons.mp hp with rfl | hp
      · exact ⟨hk _ _ (by simpa using hDI) (N _ (.head _)).1, (N _ (.head _)).2⟩
      · rw [List.mem_singleton.mp hp]
        exact ⟨hst, (N _ (.tail _ (.head _))).2⟩
    clear F N hk
    have e0 : (0 + (i : Int) * 1) = (i : Int) := by omega
    rw [e0]
    walk_at "nf"
    have hil : i < src.cps.toList.length := by rw [Array.length_toList]; exact hlt
    have hsn := shown_snoc n f src.cps.toList none i hil
    have hgd : src.cps.toList.getD i 0 = src.cps.getD i 0 := (getD_list' src.cps i).symm
    rw [hgd] at hsn
    have hprev : ∀ j, i = j + 1 → prevAt none src.cps.toList i = some (src.cps.getD j 0) := fun j hj => by subst hj; show some (src.cps.toList.getD j 0) = _; rw [getD_list']
    generalize hc : src.cps.getD i 0 = c at hsn
    -- the turn's end
    have fin : ∀ (h : Heap) (tk : Nat) (m' : Str → Option Value) (ys' : Array Value) (ne' : Nat) (ps' : List Str), Fr s.heap s.heap.objs.size h m' → News s.heap s.heap.objs.size h [(D, lstO ys' ne'), (I, rIt src.cps.size (i + 1))] →
        (m' (Str.ofString "source") = some (.str src t0) ∧ m' (Str.ofString "sends") = some (.int (n : Int) t1) ∧ m' (Str.ofString "first") = some (.int (f : Int) t2) ∧ m' (Str.ofString "signs") = some (.ref D)) →
        StrsAre ys'.toList ps' → cat ps' = cat ps ++ pieceL n f (prevAt none src.cps.toList i) c → ps'.length ≤ i + 1 →
        ∃ h1 tk1 m1 ys1 ne1 ps1, ({ s with heap := h, toks := tk } : Shared) = { s with heap := h1, toks := tk1 } ∧ Fr s.heap s.heap.objs.size h1 m1 ∧
          News s.heap s.heap.objs.size h1 [(D, lstO ys1 ne1), (I, rIt src.cps.size (i + 1))] ∧ (m1 (Str.ofString "source") = some (.str src t0) ∧ m1 (Str.ofString "sends") = some (.int (n : Int) t1) ∧ m1 (Str.ofString "first") = some (.int (f : Int) t2) ∧ m1 (Str.ofString "signs") = some (.ref D)) ∧
          StrsAre ys1.toList ps1 ∧ cat ps1 = shownL n f none (src.cps.toList.take (i + 1)) ∧ ps1.length ≤ i + 1 :=
      fun h tk m' ys' ne' ps' a1 a2 a3 a4 a5 a6 => ⟨h, tk, m', ys', ne', ps', rfl, a1, a2, a3, a4, by rw [a5, hcat, hsn], a6⟩
    have hys : ys.size ≤ sizeLine := by
      have := hS.len_eq
      rw [Array.length_toList] at this
      rw [sizeLine_eq]; omega
    refine stN F' N' ?_
    intro h₂ F₂ N₂
    walk_at "nf"
    refine wpAny_execs_cons (wpAny_Assign_Name (Subscript_ ?_))
    walk_at "lo"
    walk_at "lo"
    refine item_str (fitsSsize_of (N := 9223372036854775808) (by omega) (by omega) (Int.le_refl _)) (by omega) (by show (i : Int) < (src.cps.size : Int); omega) (fun _ => ?_)
    rw [item_at src i hlt, hc]
    refine stN F₂ N₂ ?_
    intro h₃ F₃ N₃
    walk_at "nf"
    clear F' N' F₂ N₂
    obtain ⟨m₃, F₃, q1, q2, q3, q4, q5, q6⟩ : ∃ m₃, Fr s.heap s.heap.objs.size h₃ m₃ ∧ m₃ (Str.ofString "source") = some (.str src t0) ∧ m₃ (Str.ofString "sends") = some (.int (n : Int) t1) ∧ m₃ (Str.ofString "first") = some (.int (f : Int) t2) ∧
        m₃ (Str.ofString "signs") = some (.ref D) ∧ m₃ (Str.ofString "sign") = some (.str ⟨#[c]⟩ (tk' + 1)) ∧ m₃ (Str.ofString "k") = some (.int (i : Int) t) := ⟨_, F₃, hm1, hm2, hm3, hm4, rfl, rfl⟩
    have hDr : ∀ p ∈ [(I, rIt src.cps.size (i + 1))], p.1 ≠ D := fun p hp => by rw [List.mem_singleton.mp hp]; exact Ne.symm hDI
    have fin2 : ∀ (h : Heap) (tk : Nat) (x : Str) (u : Tok) (ne' : Nat), Fr s.heap s.heap.objs.size h m₃ → News s.heap s.heap.objs.size h [(D, lstO (ys.push (.str x u)) ne'), (I, rIt src.cps.size (i + 1))] → x.cps.toList = pieceL n f (prevAt none src.cps.toList i) c → _ :=
      fun h tk x u ne' a1 a2 a3 => fin h tk m₃ (ys.push (.str x u)) ne' (ps ++ [x]) a1 a2 ⟨q1, q2, q3, q4⟩ (by rw [Array.toList_push]; exact StrsAre.snoc hS x u) (by rw [cat_snoc, a3]) (by simp; omega)
    refine wpAny_execs_cons (wpAny_If (isTrue_and (wpAny_isTrue_Compare1 ?_)))
    walk_at "lo"
    refine Constant_str (eq_str (wpAny_truthy_bool ?_))
    rw [sign_dot]
    by_cases h46 : c = 46
    · rw [if_pos (by simpa using h46)]
      refine isTrue_and (wpAny_isTrue_Compare1 ?_)
      walk_at "lo"
      refine wpAny_Constant_int (eq_int (wpAny_truthy_bool ?_))
      by_cases hi0 : i = 0
      · rw [if_pos (by simp [hi0])]
        refine isTrue_and_nil ?_
        rw [if_pos rfl]
        walk_at "ap"
        refine wpAny_BinOp (Constant_str (wpAny_BinOp (wpAny_Constant_int ?_)))
        walk_at "lo"
        refine add_int ?_
        refine SB.mul (mulOk_of 16 1048576 (by decide) (by omega) (by omega) (by decide) (by decide)) ?_
        intro u k
        refine spliced_none (app_step F₃ N₃ hDr hys ?_)
        intro h₄ ne₄ F₄ N₄
        walk_at "nf"
        walk_at "nil"
        refine fin2 _ _ _ _ _ F₄ N₄ ?_
        rw [mul_dots']
        have : prevAt none src.cps.toList i = none := by rw [hi0]; rfl
        rw [this, h46]; simp [pieceL]
      · obtain ⟨j, hj⟩ : ∃ j, i = j + 1 := ⟨i - 1, by omega⟩
        have hpv := hprev j hj
        generalize hq : src.cps.getD j 0 = q at hpv
        rw [if_neg (by simp [hi0]), if_neg (by decide)]
        refine wpAny_execs_cons (wpAny_If (isTrue_and (wpAny_isTrue_Compare1 ?_)))
        walk_at "lo"
        refine Constant_str (eq_str (wpAny_truthy_bool ?_))
        rw [sign_dot, if_pos (by simpa using h46)]
        refine isTrue_and (wpAny_isTrue_Compare1 (Subscript_ ?_))
        walk_at "lo"
        refine wpAny_BinOp ?_
        walk_at "lo"
        refine wpAny_Constant_int (sub_int ?_)
        have ej : (i : Int) - 1 = (j : Int) := by omega
        rw [ej]
        refine item_str (fitsSsize_of (N := 9223372036854775808) (by omega) (by omega) (Int.le_refl _)) (by omega) (by show (j : Int) < (src.cps.size : Int); omega) (fun _ => ?_)
        rw [item_at src j (by omega), hq]
        refine le_tuple F₃ N₃ ?_
        intro T h₄ tk₄ u1 u2 F₄ N₄ hk₄ hT hTs
        refine in_tuple_strs hT hTs (wpAny_truthy_bool ?_)
        rw [any_le]
        replace N₄ := News.tail N₄
        walk_at "nf"
        by_cases hle : q = 13 ∨ q = 10
        · rw [if_pos (by simpa using hle)]
          refine isTrue_and_nil ?_
          rw [if_pos rfl]
          walk_at "ap"
          refine wpAny_BinOp (Constant_str (wpAny_BinOp (wpAny_Constant_int ?_)))
          walk_at "lo"
          refine add_int ?_
          refine SB.mul (mulOk_of 16 1048576 (by decide) (by omega) (by omega) (by decide) (by decide)) ?_
          intro u k
          refine spliced_none (app_step F₄ N₄ hDr hys ?_)
          intro h₅ ne₅ F₅ N₅
          walk_at "nf"
          walk_at "nil"
          refine fin2 _ _ _ _ _ F₅ N₅ ?_
          rw [mul_dots', hpv, h46]
          simp [pieceL, hle]
        · rw [if_neg (by simpa using hle), if_neg (by decide)]
          refine wpAny_execs_cons (wpAny_If (isTrue_or (wpAny_isTrue_Compare1 ?_)))
          walk_at "lo"
          refine wpAny_Constant_int (eq_int (wpAny_truthy_bool ?_))
          have hpc : pieceL n f (prevAt none src.cps.toList i) c = [c] := by rw [hpv, h46]; simp [pieceL, hle]
          by_cases hn0 : n = 0
          · rw [if_pos (by simp [hn0]), if_pos rfl]
            walk_at "ap"
            walk_at "lo"
            refine spliced_none (app_step F₄ N₄ hDr hys ?_)
            intro h₅ ne₅ F₅ N₅
            walk_at "nf"
            walk_at "nil"
            exact fin2 _ _ _ _ _ F₅ N₅ (by rw [hpc])
          · rw [if_neg (by simp [hn0])]
            refine isTrue_or (wpAny_isTrue_Compare1 ?_)
            walk_at "lo"
            refine le_tuple F₄ N₄ ?_
            intro T' h₅ tk₅ u1' u2' F₅ N₅ hk₅ hT' hTs'
            refine notin_tuple_strs hT' hTs' (wpAny_truthy_bool ?_)
            rw [any_le, if_pos (by simp [h46]), if_pos rfl]
            replace N₅ := News.tail N₅
            walk_at "nf"
            walk_at "ap"
            walk_at "lo"
            refine spliced_none (app_step F₅ N₅ hDr hys ?_)
            intro h₆ ne₆ F₆ N₆
            walk_at "nf"
            walk_at "nil"
            exact fin2 _ _ _ _ _ F₆ N₆ (by rw [hpc])
    · rw [if_neg (by simpa using h46), if_neg (by decide)]
      refine wpAny_execs_cons (wpAny_If (isTrue_and (wpAny_isTrue_Compare1 ?_)))
      walk_at "lo"
      refine Constant_str (eq_str (wpAny_truthy_bool ?_))
      rw [sign_dot, if_neg (by simpa using h46), if_neg (by decide)]
      refine wpAny_execs_cons (wpAny_If (isTrue_or (wpAny_isTrue_Compare1 ?_)))
      walk_at "lo"
      refine wpAny_Constant_int (eq_int (wpAny_truthy_bool ?_))
      by_cases hn0 : n = 0
      · rw [if_pos (by simp [hn0]), if_pos rfl]
        walk_at "ap"
        walk_at "lo"
        refine spliced_none (app_step F₃ N₃ hDr hys ?_)
        intro h₅ ne₅ F₅ N₅
        walk_at "nf"
        walk_at "nil"
        exact fin2 _ _ _ _ _ F₅ N₅ (by simp [pieceL, h46, hn0])
      · rw [if_neg (by simp [hn0])]
        refine isTrue_or (wpAny_isTrue_Compare1 ?_)
        walk_at "lo"
        refine le_tuple F₃ N₃ ?_
        intro T h₄ tk₄ u1 u2 F₄ N₄ hk₄ hT hTs
        refine notin_tuple_strs hT hTs (wpAny_truthy_bool ?_)
        rw [any_le]
        replace N₄ := News.tail N₄
        walk_at "nf"
        by_cases hle : c = 13 ∨ c = 10
        · rw [if_neg (by rw [decide_eq_true hle]; decide)]
          refine isTrue_or_nil ?_
          rw [if_neg (by decide)]
          refine wpAny_execs_cons (wpAny_If (isTrue_or (wpAny_isTrue_Compare1 ?_)))
          walk_at "lo"
          refine Constant_str (eq_str (wpAny_truthy_bool ?_))
          rw [sign_cr]
          by_cases h13 : c = 13
          · rw [if_pos (by simpa using h13), if_pos rfl]
            walk_at "ap"
            refine Constant_str (spliced_none (app_step F₄ N₄ hDr hys ?_))
            intro h₅ ne₅ F₅ N₅
            walk_at "nf"
            walk_at "nil"
            exact fin2 _ _ _ _ _ F₅ N₅ (by rw [crlf_eq]; simp [pieceL, hn0, h13])
          · have h10 : c = 10 := by omega
            rw [if_neg (by simpa using h13)]
            refine isTrue_or (wpAny_isTrue_Compare1 ?_)
            walk_at "lo"
            refine wpAny_Constant_int (eq_int (wpAny_truthy_bool ?_))
            by_cases hi0 : i = 0
            · rw [if_pos (by simp [hi0]), if_pos rfl]
              walk_at "ap"
              refine Constant_str (spliced_none (app_step F₄ N₄ hDr hys ?_))
              intro h₅ ne₅ F₅ N₅
              walk_at "nf"
              walk_at "nil"
              have : prevAt none src.cps.toList i = none := by rw [hi0]; rfl
              exact fin2 _ _ _ _ _ F₅ N₅ (by rw [crlf_eq, this, h10]; simp [pieceL, hn0])
            · obtain ⟨j, hj⟩ : ∃ j, i = j + 1 := ⟨i - 1, by omega⟩
              have hpv := hprev j hj
              generalize hq : src.cps.getD j 0 = q at hpv
              rw [if_neg (by simp [hi0])]
              refine isTrue_or (wpAny_isTrue_Compare1 (Subscript_ ?_))
              walk_at "lo"
              refine wpAny_BinOp ?_
              walk_at "lo"
              refine wpAny_Constant_int (sub_int ?_)
              have ej : (i : Int) - 1 = (j : Int) := by omega
              rw [ej]
              refine item_str (fitsSsize_of (N := 9223372036854775808) (by omega) (by omega) (Int.le_refl _)) (by omega) (by show (j : Int) < (src.cps.size : Int); omega) (fun _ => ?_)
              rw [item_at src j (by omega), hq]
              refine Constant_str (ne_str (wpAny_truthy_bool ?_))
              rw [sign_ncr]
              by_cases hq13 : q = 13
              · rw [if_neg (by simp [hq13])]
                refine isTrue_or_nil ?_
                rw [if_neg (by decide)]
                walk_at "nf"
                walk_at "nil"
                refine fin _ _ m₃ ys ne ps F₄ N₄ ⟨q1, q2, q3, q4⟩ hS ?_ (by omega)
                rw [hpv, h10, hq13]; simp [pieceL, hn0]
              · rw [if_pos (by simp [hq13]), if_pos rfl]
                walk_at "nf"
                walk_at "ap"
                refine Constant_str (spliced_none (app_step F₄ N₄ hDr hys ?_))
                intro h₅ ne₅ F₅ N₅
                walk_at "nf"
                walk_at "nil"
                exact fin2 _ _ _ _ _ F₅ N₅ (by rw [crlf_eq, hpv, h10]; simp [pieceL, hn0, hq13])
        · rw [if_pos (by simpa using hle), if_pos rfl]
          walk_at "ap"
          walk_at "lo"
          refine spliced_none (app_step F₄ N₄ hDr hys ?_)
          intro h₅ ne₅ F₅ N₅
          walk_at "nf"
          walk_at "nil"
          exact fin2 _ _ _ _ _ F₅ N₅ (by simp [pieceL, h46, hle])
  · rintro _ h' tk' ⟨h, tk, m, ys, ne, ps, rfl, F, N, ⟨hm1, hm2, hm3, hm4⟩, hS, hcat, hlen⟩ hk
    have hDI : D ≠ I := hIn _ (.head _)
    have F' := Fr.walked F hk (by simpa using Ne.symm hIL) (by simpa using hIb)
    have N' : News s.heap s.heap.objs.size h' [(D, lstO ys ne)] := News.walked (fun p hp => N p (by rw [List.mem_singleton.mp hp]; exact .head _)) hk (fun p hp => by rw [List.mem_singleton.mp hp]; simpa using hDI)
    have hta : src.cps.toList.take src.cps.size = src.cps.toList := by rw [← Array.length_toList, List.take_length]
    rw [hta] at hcat
    walk_at "nf"
    refine wpAny_execs_cons (wpAny_Return_some (MethodCall_ (Constant_str (GM.join (callWith_method1 (spliced_more (ld F' hm4 (spliced_none ?_))))))))
    have hlen2 : (cat ps).length ≤ 22 * src.cps.size := by
      rw [hcat]
      have h1 := shownL_len n f src.cps.toList none
      have h2 : (2 + n + f) * src.cps.toList.length ≤ 22 * src.cps.toList.length := Nat.mul_le_mul_right _ (by omega)
      have el : src.cps.toList.length = src.cps.size := Array.length_toList
      rw [el] at h1 h2
      omega
    have hwt : (ps.map (·.length)).sum + ps.length ≤ 1048576 := by
      have : (ps.map (·.length)).sum = (cat ps).length := by unfold cat; rw [List.length_flatten, List.map_map]; rfl
      rw [this]; omega
    refine join_listW (ys := ps) ⟨_, (N' _ (.head _)).1, rfl, _, rfl⟩ hS (by rw [empty_eq]; decide) hwt ?_
    intro t' k'
    rw [empty_eq, join_empty, hcat]
    exact hR _ _ ⟨h', _, rfl, F'.keep⟩
  · exact ⟨h₈, tk₈, _, #[], 0, [], rfl, F₈, News.swap N₈, ⟨rfl, rfl, rfl, rfl⟩, .nil, by simp [cat, shownL], Nat.le_refl _⟩
end Mine

end

/- part Plain3 -/
section
open PySem PySem.W PySem.Calls PyProof.Rows
set_option maxRecDepth 100000
set_option maxHeartbeats 8000000
namespace Mine

theorem slice_to' (x : Str) (j : Nat) (h : j ≤ x.cps.size) : Txt.slice x none (some (j : Int)) = ⟨(x.cps.toList.take j).toArray⟩ := by
  have := StrLaws.sliceText_to (x := x) (j := (j : Int)) ⟨by omega, by rw [Array.length_toList]; omega⟩
  rw [show Txt.slice x none (some (j : Int)) = StrLaws.sliceText x none (some (j : Int)) from rfl, this]
  have e : ((j : Int) - 0).toNat = j := by omega
  rw [e]; simp
theorem slice_from' (x : Str) (i : Nat) (h : i ≤ x.cps.size) : Txt.slice x (some (i : Int)) none = ⟨(x.cps.toList.drop i).toArray⟩ := by
  have := StrLaws.sliceText_from (x := x) (i := (i : Int)) ⟨by omega, by rw [Array.length_toList]; omega⟩
  rw [show Txt.slice x (some (i : Int)) none = StrLaws.sliceText x (some (i : Int)) none from rfl, this]
  have e : ((x.cps.toList.length : Int) - (i : Int)).toNat = x.cps.toList.length - i := by omega
  have e2 : (i : Int).toNat = i := by omega
  simp only [e, e2]
  congr 1
  apply congrArg List.toArray
  rw [List.take_of_length_le]
  simp
theorem slice_mid' (x : Str) (i j : Nat) (hij : i ≤ j) (h : j ≤ x.cps.size) : Txt.slice x (some (i : Int)) (some (j : Int)) = ⟨((x.cps.toList.drop i).take (j - i)).toArray⟩ := by
  have := StrLaws.sliceText_plain (x := x) (i := (i : Int)) (j := (j : Int)) ⟨by omega, by omega, by rw [Array.length_toList]; omega⟩
  rw [show Txt.slice x (some (i : Int)) (some (j : Int)) = StrLaws.sliceText x (some (i : Int)) (some (j : Int)) from rfl, this]
  have e : ((j : Int) - (i : Int)).toNat = j - i := by omega
  have e2 : (i : Int).toNat = i := by omega
  simp only [e, e2]

def cutsF : Nat → List Nat → List Int
  | _, [] => []
  | o, c :: r => if c = 39 then (o : Int) :: cutsF (o + 1) r else cutsF (o + 1) r

theorem cutsF_filter (y : List Nat) : ∀ (x : List Nat) (o : Nat), (∀ k, x.getD k 0 = y.getD (o + k) 0) →
    ((List.range x.length).map fun i => ((o + i : Nat) : Int)).filter (fun a => decide (y.getD a.toNat 0 = 39)) = cutsF o x
  | [], _, _ => rfl
  | c :: r, o, h => by
    have h0 : c = y.getD o 0 := h 0
    have ih := cutsF_filter y r (o + 1) (fun k => by have := h (k + 1); rw [show o + 1 + k = o + (k + 1) by omega]; rw [← this]; rfl)
    have em : ((List.range (c :: r).length).map fun i => ((o + i : Nat) : Int)) = ((o : Nat) : Int) :: ((List.range r.length).map fun i => ((o + 1 + i : Nat) : Int)) := by
      rw [List.length_cons, List.range_succ_eq_map, List.map_cons, List.map_map]
      congr 1
      apply List.map_congr_left
      intro a _
      show ((o + (a + 1) : Nat) : Int) = ((o + 1 + a : Nat) : Int)
      congr 1; omega
    rw [em, List.filter_cons, ih]
    have eo : ((o : Nat) : Int).toNat = o := by omega
    rw [eo, ← h0]
    simp only [cutsF]
    by_cases hc : c = 39 <;> simp [hc]

theorem cutsF_free : ∀ (x : List Nat) (o : Nat), 39 ∉ x → cutsF o x = []
  | [], _, _ => rfl
  | c :: r, o, h => by
    simp only [List.mem_cons, not_or] at h
    rw [cutsF, if_neg (fun e => h.1 e.symm), cutsF_free r _ h.2]
theorem cutsF_tick : ∀ (a b : List Nat) (o : Nat), 39 ∉ a → cutsF o (a ++ 39 :: b) = ((o + a.length : Nat) : Int) :: cutsF (o + a.length + 1) b
  | [], b, o, _ => by simp [cutsF]
  | c :: r, b, o, h => by
    simp only [List.mem_cons, not_or] at h
    rw [List.cons_append, cutsF, if_neg (fun e => h.1 e.symm), cutsF_tick r b _ h.2]
    have e1 : o + 1 + r.length = o + (c :: r).length := by simp; omega
    rw [e1]

theorem cutsF_none {x : List Nat} (h : parts3 x = none) : (cutsF 0 x).length < 2 := by
  unfold parts3 at h
  cases h1 : tick1 x with
  | none => rw [cutsF_free x 0 (tick1_free.mp h1)]; decide
  | some ab =>
    obtain ⟨a, b⟩ := ab
    rw [h1] at h
    simp only at h
    obtain ⟨e, hn⟩ := tick1_some h1
    cases h2 : tick1 b with
    | none => rw [e, cutsF_tick a b 0 hn, cutsF_free b _ (tick1_free.mp h2)]; simp
    | some cd => rw [h2] at h; cases h
theorem cutsF_some {x a b c : List Nat} (h : parts3 x = some (a, b, c)) : x = a ++ 39 :: (b ++ 39 :: c) ∧ ∃ r, cutsF 0 x = ((a.length : Nat) : Int) :: ((a.length + 1 + b.length : Nat) : Int) :: r := by
  unfold parts3 at h
  cases h1 : tick1 x with
  | none => rw [h1] at h; cases h
  | some ab =>
    obtain ⟨a', b'⟩ := ab
    rw [h1] at h
    simp only at h
    obtain ⟨e, hn⟩ := tick1_some h1
    cases h2 : tick1 b' with
    | none => rw [h2] at h; cases h
    | some cd =>
      obtain ⟨c', d'⟩ := cd
      rw [h2] at h
      simp only [Option.some.injEq, Prod.mk.injEq] at h
      obtain ⟨rfl, rfl, rfl⟩ := h
      obtain ⟨e2, hn2⟩ := tick1_some h2
      refine ⟨by rw [e, e2], cutsF (0 + a'.length + 1 + c'.length + 1) d', ?_⟩
      rw [e, cutsF_tick a' b' 0 hn, e2, cutsF_tick c' d' _ hn2]
      simp only [Nat.zero_add]
end Mine

end

/- part EnvG -/
section
open PySem PySem.W PySem.Calls PyProof.Rows
set_option maxRecDepth 100000
set_option maxHeartbeats 8000000
namespace Mine
section
variable {M : Model} {A : Around} {E : Value → Shared → Prop} {s : Shared} {h₀ : Heap} {L : Addr} {m : Str → Option Value} {news : List (Addr × Obj)} {env : Env}
/- a local's read and store, whatever the environment -/
theorem ldE {x : Str} {pos : Pos} {v : Value} {Q : Value → Shared → Prop} (F : Fr h₀ L s.heap m) (hv : m x = some v) (h : Q v s)
    (hL : env.locals = L := by rfl) (hk : env.scope.kind = .function := by rfl) (hl : env.kindOf x = some .local := by rfl) (hd : (x == ("__debug__" : Str)) = false := by decide) :
    wpAny M A (eval (.Name x pos) env) Q E s := wpAny_Name (wpAny_loadName_local hk hl (by rw [hL]; exact F.ns) hv h) hd
theorem ldNs {x : Str} {pos : Pos} {v : Value} {Q : Value → Shared → Prop} (F : s.heap.Ns env.locals m) (hv : m x = some v) (h : Q v s)
    (hk : env.scope.kind = .function := by rfl) (hl : env.kindOf x = some .local := by rfl) (hd : (x == ("__debug__" : Str)) = false := by decide) :
    wpAny M A (eval (.Name x pos) env) Q E s := wpAny_Name (wpAny_loadName_local hk hl F hv h) hd
theorem stE {x : Str} {v : Value} {Q : Unit → Shared → Prop} (F : Fr h₀ L s.heap m) (N : News h₀ L s.heap news)
    (h : ∀ h', Fr h₀ L h' (fun y => if y = x then some v else m y) → News h₀ L h' news → Q () { s with heap := h', toks := s.toks + 1 })
    (hL : env.locals = L := by rfl) (hk : env.scope.kind = .function := by rfl) (hl : env.kindOf x = some .local := by rfl) :
    wpAny M A (storeName env x v) Q E s := by
  subst hL
  exact wpAny_storeName_local hl F.ns (fun h' hn hs => h h' (F.set hn hs) (N.set hs)) (by rw [hk]; rfl)
/- a builtin's name, whatever the environment -/
theorem nameB_E {K : Frag} {mg mb : Str → Option Value} {p : Program} {loose : List Str} {x : Str} {pos : Pos} {v : Value} {Q : Value → Shared → Prop} (hkp : ∀ b o, h₀.get? b = some o → s.heap.get? b = some o) (X : K.In h₀) (T : TopRead p loose mg mb h₀)
    (e : nsIn K mainGlobals x = some none) (hv : bootBuiltins x = some v) (hn : x ≠ "__name__") (h : Q v s) (hg : env.globals = mainGlobals := by rfl) (hb : env.builtins = builtinsNs := by rfl)
    (hk : env.scope.kind = .function := by rfl) (hx : env.kindOf x = some .globalImplicit := by rfl) (hd : (x == ("__debug__" : Str)) = false := by decide) :
    wpAny M A (eval (.Name x pos) env) Q E s :=
  Name_function_global hk hx (loadGlobal_builtin (env := env) (by rw [hg]; exact T.g.keeps hkp) (mg_none_of X T.g e) (by rw [hb]; exact T.b.keeps hkp) ((T.builtins x hn).trans hv) h) hd
theorem nameK_E {K : Frag} {mg mb : Str → Option Value} {p : Program} {loose : List Str} {x : Str} {pos : Pos} {v : Value} {Q : Value → Shared → Prop} (hkp : ∀ b o, h₀.get? b = some o → s.heap.get? b = some o) (X : K.In h₀) (T : TopRead p loose mg mb h₀)
    (e : nsIn K mainGlobals x = some (some v)) (h : Q v s) (hg : env.globals = mainGlobals := by rfl)
    (hk : env.scope.kind = .function := by rfl) (hx : env.kindOf x = some .globalImplicit := by rfl) (hd : (x == ("__debug__" : Str)) = false := by decide) :
    wpAny M A (eval (.Name x pos) env) Q E s :=
  Name_function_global hk hx (loadGlobal_global (env := env) (by rw [hg]; exact T.g.keeps hkp) (mg_of X T.g e) h) hd
theorem ldCell {x : Str} {pos : Pos} {v : Value} {c : Addr} {Q : Value → Shared → Prop} (hc : env.cells.lookup x = some c) (hv : s.heap.IsCell c (some v)) (h : Q v s)
    (hk : env.scope.kind = .function := by rfl) (hl : env.kindOf x = some .cell := by rfl) (hd : (x == ("__debug__" : Str)) = false := by decide) :
    wpAny M A (eval (.Name x pos) env) Q E s := wpAny_Name (wpAny_loadName_cell hk hl hc hv h) hd
end
end Mine

end

/- part Splice -/
section
open PySem PySem.W PySem.Calls PyProof.Rows PySem.SeqAt
set_option maxRecDepth 100000
set_option maxHeartbeats 8000000
namespace Mine
/- x = x[:place] + y + x[place + 1:] -/
section
variable {prog : Program} {w : World} {A : Around} {E : Value → Shared → Prop} {s : Shared} {h₀ : Heap} {L : Addr} {m : Str → Option Value} {news : List (Addr × Obj)} {env : Env}
theorem splice_assign {x y pl : Str} {p1 p2 p3 p4 p5 p6 p7 p8 p9 p10 p11 p12 p13 p14 p15 : Pos} {kc : Nat} {a b : Addr} {oa ob : Obj} {av bv : Array Value} {p : Nat} {tp : Tok} {Q : Flow → Shared → Prop}
    (F : Fr h₀ L s.heap m) (N : News h₀ L s.heap news) (hx : m x = some (.ref a)) (hy : m y = some (.ref b)) (hp : m pl = some (.int (p : Int) tp))
    (ha : (a, oa) ∈ news) (hb : (b, ob) ∈ news) (la : oa.cls = .type "list" ∧ ∃ n, oa.data = .seq av n) (lb : ob.cls = .type "list" ∧ ∃ n, ob.data = .seq bv n) (hsz : 2 * av.size + bv.size ≤ sizeLine)
    (h : ∀ D h' tk, Fr h₀ L h' (fun z => if z = x then some (.ref D) else m z) → News h₀ L h' ((D, lstO (av.toList.take p ++ bv.toList ++ av.toList.drop (p + 1)).toArray 0) :: news) → (∀ q ∈ news, q.1 ≠ D) → Q .next { s with heap := h', toks := tk })
    (hL : env.locals = L := by rfl) (hk : env.scope.kind = .function := by rfl) (kx : env.kindOf x = some .local := by rfl) (ky : env.kindOf y = some .local := by rfl) (kp : env.kindOf pl = some .local := by rfl)
    (dx : (x == ("__debug__" : Str)) = false := by decide) (dy : (y == ("__debug__" : Str)) = false := by decide) (dp : (pl == ("__debug__" : Str)) = false := by decide) :
    wpAny (model prog w) A (exec (.Assign [.Name x p1] (.BinOp (.BinOp (.Subscript (.Name x p2) (.Slice none (some (.Name pl p3)) none p4) p5) .Add (.Name y p6) p7) .Add (.Subscript (.Name x p8) (.Slice (some (.BinOp (.Name pl p9) .Add (.Constant (.int 1) kc p10) p11)) none none p12) p13) p14) p15) env) Q E s := by
  have ecast : ((p : Int) + 1) = ((p + 1 : Nat) : Int) := by omega
  have isl : ∀ {h : Heap} {ne : List (Addr × Obj)} {c : Addr} {o : Obj} {vs : Array Value}, News h₀ L h ne → (c, o) ∈ ne → (o.cls = .type "list" ∧ ∃ n, o.data = .seq vs n) → h.IsList c vs := fun N' hm l => ⟨_, (N' _ hm).1, l.1, l.2⟩
  have s1 : av.size ≤ sizeLine := by omega
  refine wpAny_Assign_Name (wpAny_BinOp (wpAny_BinOp (Subscript_ (ldE F hx (wpAny_Slice (evalPart_none_step (evalPart_some_step (ldE F hp (evalPart_none_step ?_) hL hk kp dp)))) hL hk kx dx))))
  refine slice_list (s := ⟨_, _, _, _, _⟩) F N (isl N ha la) .none (.int _ _) ?_ (hsz := s1)
  intro h₁ F₁ N₁
  rw [slicePick_upto'] at N₁
  refine ldE (s := ⟨_, _, _, _, _⟩) F₁ hy ?_ hL hk ky dy
  refine add_lists (s := ⟨_, _, _, _, _⟩) (vs := av.toList.take p) (ws := bv.toList) F₁ N₁ (isl N₁ (.head _) ⟨rfl, _, rfl⟩) (isl N₁ (.tail _ hb) lb) ?_ (hsz := by rw [List.length_take, Array.length_toList, Array.length_toList]; omega)
  intro h₂ F₂ N₂
  refine Subscript_ (ldE (s := ⟨_, _, _, _, _⟩) F₂ hx (wpAny_Slice (evalPart_some_step (wpAny_BinOp (ldE (s := ⟨_, _, _, _, _⟩) F₂ hp (wpAny_Constant_int (add_int (evalPart_none_step (evalPart_none_step ?_)))) hL hk kp dp)))) hL hk kx dx)
  rw [ecast]
  refine slice_list (s := ⟨_, _, _, _, _⟩) F₂ N₂ (isl N₂ (.tail _ (.tail _ ha)) la) (.int _ _) .none ?_ (hsz := s1)
  intro h₃ F₃ N₃
  rw [slicePick_from'] at N₃
  refine add_lists (s := ⟨_, _, _, _, _⟩) (vs := av.toList.take p ++ bv.toList) (ws := av.toList.drop (p + 1)) F₃ N₃ (isl N₃ (.tail _ (.head _)) ⟨rfl, _, rfl⟩) (isl N₃ (.head _) ⟨rfl, _, rfl⟩) ?_ (hsz := by rw [List.length_append, List.length_take, List.length_drop, Array.length_toList, Array.length_toList]; omega)
  intro h₄ F₄ N₄
  refine stE (s := ⟨_, _, _, _, _⟩) F₄ N₄ ?_ hL hk kx
  intro h₅ F₅ N₅
  refine h _ h₅ _ F₅ (fun q hq => ?_) (fun q hq => Nat.ne_of_lt (Heap.lt_size (N₃ q (.tail _ (.tail _ (.tail _ hq)))).1))
  rcases List.mem_cons.mp hq with rfl | hq
  · exact N₅ _ (.head _)
  · exact N₅ _ (.tail _ (.tail _ (.tail _ (.tail _ hq))))
end
end Mine

end

/- part Parts -/
section
open PySem PySem.W PySem.Calls PyProof.Rows
set_option maxRecDepth 100000
set_option maxHeartbeats 8000000
namespace Mine
local macro_rules | `(tactic| walk_at "nf") => `(tactic| try dsimp only at *)

theorem fresh_at {h : Heap} {a : Addr} (ha : h.objs.size ≤ a) : h.get? a = none := by
  cases e : h.get? a with
  | none => rfl
  | some o' => exact absurd (Heap.lt_size e) (Nat.not_lt.mpr ha)

theorem notFrame {h₀ h : Heap} {L D : Addr} {m : Str → Option Value} {ys : Array Value} {ne : Nat} (F : Fr h₀ L h m) (hg : h.get? D = some (lstO ys ne)) : D ≠ L := by
  rintro rfl
  obtain ⟨o, _, _, ho, hdd, _⟩ := F.ns
  rw [hg] at ho
  cases ho
  cases hdd

section
variable {M : Model} {A : Around} {E : Value → Shared → Prop} {s : Shared} {h₀ : Heap} {L : Addr} {m : Str → Option Value} {news : List (Addr × Obj)} {env : Env}
theorem stCellN {x : Str} {c : Addr} {o : Obj} {v₀ : Option Value} {v : Value} {Q : Unit → Shared → Prop} (hc : env.cells.lookup x = some c) (F : Fr h₀ L s.heap m) (N : News h₀ L s.heap ((c, o) :: news)) (ho : o.data = .cell v₀) (hD : ∀ p ∈ news, p.1 ≠ c)
    (h : ∀ h' o', o'.data = .cell (some v) → Fr h₀ L h' m → News h₀ L h' ((c, o') :: news) → Q () { s with heap := h' })
    (hk : env.scope.kind = .function := by rfl) (hl : env.kindOf x = some .cell := by rfl) : wpAny M A (storeName env x v) Q E s := by
  have hn := N _ (.head _)
  refine wpAny_storeName_cell hk hl hc ⟨o, hn.1, ho⟩ fun h' hv hs => ?_
  obtain ⟨o', ho', hd'⟩ := hv
  exact h h' o' hd' (Fr.changed F hs hn.2.1 hn.2.2) (News.put N hs ho' hD)
end

/- what _law_parts hands back -/
def PartsOf (src : Str) (n f : Nat) (e : Addr) (h₀ h : Heap) (es : Array Value) : Prop :=
  match parts3 src.cps.toList with
  | none => es = #[.ref e]
  | some (a, b, c) => ∃ e1 e2 e3 u1 u2 u3 u4 u5 u6 u7 u8 u9, es = #[.ref e1, .ref e2, .ref e3] ∧ h₀.get? e1 = none ∧ h₀.get? e2 = none ∧ h₀.get? e3 = none ∧ IsTup h e1 #[.str ⟨a.toArray⟩ u1, .int (n : Int) u2, .int (f : Int) u3] ∧
      IsTup h e2 #[.str ⟨b.toArray⟩ u4, .int (n : Int) u5, .int ((0 : Nat) : Int) u6] ∧ IsTup h e3 #[.str ⟨c.toArray⟩ u7, .int (n : Int) u8, .int ((0 : Nat) : Int) u9]

theorem tick_str : Str.ofString "'" = ⟨#[39]⟩ := by decide +kernel
theorem sign_tick (c : Nat) : ((⟨#[c]⟩ : Str) == Str.ofString "'") = decide (c = 39) := by rw [tick_str, sign_beq]

theorem parts_spec {w : World} {d : Nat} {fr gu un} {s : Shared} {e : Addr} {src : Str} {n f : Nat} {t0 t1 t2 : Tok} {mean mg mb} (KX : (Kf w).In s.heap) (T : TopH mean mg mb s.heap)
   (he : IsTup s.heap e #[.str src t0, .int (n : Int) t1, .int (f : Int) t2]) (hsz : src.cps.size ≤ 1000)
   (hroom : d < recursionLimit) {R : Result → Shared → Prop} (hR : ∀ s' D es, Keeps s s' → s.heap.get? D = none → s'.heap.PlainList D es → PartsOf src n f e s.heap s'.heap es → R (.ok (.ret (.ref D))) s') :
   codeAny (MM w) ⟨none, d, fr, gu, un⟩ (.call (.ref 95) ⟨[.ref e], []⟩) R s := by
  refine call_cells_ret (binds := [(Str.ofString "entry", .ref e)]) hroom (KX 95 _ rfl) rfl T.nolimit ⟨94, _, _, _, rfl, KX 94 _ rfl, rfl, rfl⟩ rfl (fun x hx => .inl (locs rfl x hx)) ?_
  intro h₁ tk₁ F X
  have TR := topRead_of T
  obtain ⟨oc, hoc, hocd⟩ := X.cell (Str.ofString "source") (s.heap.objs.size + 1) rfl
  have N : News s.heap s.heap.objs.size h₁ [(s.heap.objs.size + 1, oc)] := fun p hp => by
    rw [List.mem_singleton.mp hp]
    exact ⟨hoc, Nat.succ_ne_self _, fresh_at (Nat.le_succ _)⟩
  clear X
  refine wpAny_execs_cons (Assign_Tuple (ldE F rfl ?_))
  refine unpackN_ F N (he.keeps F.keep) rfl rfl rfl ?_
  intro h₂ F₂ N₂
  refine assignInOrder_cons (assign_Name (stCellN (c := s.heap.objs.size + 1) rfl F₂ N₂ hocd (fun _ h => nomatch h) ?_))
  intro h₃ o₃ hd₃ F₃ N₃
  refine assignInOrder_cons (assign_Name (stE F₃ N₃ ?_))
  intro h₄ F₄ N₄
  refine assignInOrder_cons (assign_Name (stE F₄ N₄ ?_))
  intro h₅ F₅ N₅
  refine assignInOrder_nil ?_
  walk_at "nf"
  clear F N F₂ N₂ F₃ N₃ F₄ N₄ hoc
  obtain ⟨m₅, F₅, q1, q2, q3⟩ : ∃ m₅, Fr s.heap s.heap.objs.size h₅ m₅ ∧ m₅ (Str.ofString "entry") = some (.ref e) ∧ m₅ (Str.ofString "sends") = some (.int (n : Int) t1) ∧ m₅ (Str.ofString "first") = some (.int (f : Int) t2) := ⟨_, F₅, rfl, rfl, rfl⟩
  refine wpAny_execs_cons (Assign_ListComp_DCr (h₀ := s.heap) (m := m₅) (cl := [(Str.ofString "source", s.heap.objs.size + 1)]) (pz := fun a => decide (src.cps.toList.getD a.toNat 0 = 39)) (d := fun a => .int a) rfl rfl rfl rfl (by decide) rfl (by decide) rfl rfl rfl ?_ (fun _ => rfl))
  refine Call_ (nameB_E F₅.keep KX TR (z_range w) b_range (by decide) ?_)
  refine PyProof.Rows.callWith_type1 (spliced_more (Call_ (nameB_E F₅.keep KX TR (z_len w) b_len (by decide) ?_)))
  refine callWith_builtin1 (spliced_more (ldCell rfl ⟨_, N₅.get (.head _), hd₃⟩ (spliced_none ?_)))
  refine len_str (by show ¬ ((src.cps.size : Int) ≥ 2 ^ 63); omega) ?_
  refine spliced_none ?_
  refine call_range_1 ?_
  walk_at "nf"
  have hrs : Builtin.Range.rangeSize 0 (src.cps.size : Int) 1 = (src.cps.size : Int) := by rw [rangeSize_one]; split <;> omega
  refine ⟨[(s.heap.objs.size + 1, o₃)], _, 0, (src.cps.size : Int), 1, _, _, _, src.cps.size, rfl, IsRange.new .., small_one (by decide) (by decide) (by omega) (by omega), hrs, by rw [sizeLine_eq]; omega, F₅.push _, News.tail (N₅.push F₅ _), ?_, ?_, ?_⟩
  · intro C a v s₂ m₂ E' hC ha hv hns hm hk
    obtain ⟨t, rfl⟩ := hv
    obtain ⟨i, hi, rfl⟩ : ∃ i, i < src.cps.size ∧ a = (i : Int) := by
      obtain ⟨i, hi, rfl⟩ := List.mem_map.mp ha
      exact ⟨i, List.mem_range.mp hi, by omega⟩
    have hcell : s₂.heap.IsCell (s.heap.objs.size + 1) (some (.str src t0)) := ⟨o₃, hk _ _ (Heap.get?_push_of_some _ (N₅.get (.head _))), hd₃⟩
    refine wpAny_tests_one (wpAny_isTrue_Compare1 (Subscript_ (ldCell rfl hcell (ldNs hns hm ?_))))
    refine item_str (fitsSsize_of (N := 9223372036854775808) (by omega) (by omega) (Int.le_refl _)) (by omega) (by show (i : Int) < (src.cps.size : Int); omega) (fun _ => ?_)
    rw [item_at src i hi]
    refine Constant_str (eq_str (wpAny_truthy_bool ?_))
    rw [sign_tick, getD_list']
    exact ⟨rfl, _, _, rfl, fun _ _ e => e⟩
  · intro C a v s₂ m₂ E' hC ha hv hpz hns hm hk
    obtain ⟨t, rfl⟩ := hv
    exact ldNs hns hm ⟨.int _ _, s₂.heap, s₂.toks, rfl, fun _ _ e => e⟩
  intro D ys h₆ tk₆ F₆ N₆ hD hl hp hc
  walk_at "nf"
  obtain ⟨m₆, F₆, q1, q2, q3, q4⟩ : ∃ m₆, Fr s.heap s.heap.objs.size h₆ m₆ ∧ m₆ (Str.ofString "entry") = some (.ref e) ∧ m₆ (Str.ofString "sends") = some (.int (n : Int) t1) ∧ m₆ (Str.ofString "first") = some (.int (f : Int) t2) ∧ m₆ (Str.ofString "cuts") = some (.ref D) := ⟨_, F₆, q1, q2, q3, rfl⟩
  replace N₆ : News s.heap s.heap.objs.size h₆ [(s.heap.objs.size + 1, o₃)] := N₆
  have hcs : (rangeInts 0 1 src.cps.size).filter (fun a => decide (src.cps.toList.getD a.toNat 0 = 39)) = cutsF 0 src.cps.toList := by
    rw [← cutsF_filter src.cps.toList src.cps.toList 0 (fun k => by rw [Nat.zero_add]), Array.length_toList]
    unfold rangeInts
    congr 1
    apply List.map_congr_left
    intro a _
    omega
  rw [hcs] at hc
  have hys : ys.length = (cutsF 0 src.cps.toList).length := by rw [hc.length_eq, List.length_map]
  have hyl : ys.length ≤ 1000 := by
    rw [hys, ← hcs]
    refine Nat.le_trans (List.length_filter_le _ _) ?_
    rw [rangeInts_length]; exact hsz
  refine wpAny_execs_cons (wpAny_If (wpAny_isTrue_Compare1 (Call_ (nameB_E F₆.keep KX TR (z_len w) b_len (by decide) ?_))))
  refine callWith_builtin1 (spliced_more (ldE F₆ q4 ?_))
  refine spliced_none ?_
  refine call_len_list hl (by rw [List.size_toArray]; omega) ?_
  refine wpAny_Constant_int (lt_int (wpAny_truthy_bool ?_))
  walk_at "nf"
  rw [List.size_toArray]
  cases hp3 : parts3 src.cps.toList with
  | none =>
    have h2 := cutsF_none hp3
    rw [if_pos (by rw [decide_eq_true_iff]; omega)]
    refine wpAny_execs_cons (wpAny_Return_some (List_ (spliced_more (ldE F₆ q1 (spliced_none ?_)))))
    refine newList_N' F₆ N₆ ?_ (by rw [sizeLine_eq]; simp)
    intro B h₇ _ F₇ N₇ _
    refine hR _ B _ ⟨h₇, _, rfl, F₇.keep⟩ (N₇ _ (.head _)).2.2 ⟨0, (N₇ _ (.head _)).1⟩ ?_
    unfold PartsOf
    rw [hp3]
  | some abc =>
    obtain ⟨a, b, c⟩ := abc
    obtain ⟨hx, r, hcut⟩ := cutsF_some hp3
    rw [hcut] at hc hys
    rw [if_neg (by rw [decide_eq_true_iff]; simp at hys; omega)]
    refine wpAny_execs_nil ?_
    obtain ⟨c0, c1, yr, rfl⟩ : ∃ c0 c1 yr, ys = Value.int (a.length : Nat) c0 :: Value.int ((a.length + 1 + b.length : Nat) : Int) c1 :: yr := by
      cases hc with
      | cons h1 hc =>
        cases hc with
        | cons h2 hc => cases h1; cases h2; exact ⟨_, _, _, rfl⟩
    have hlen : src.cps.size = a.length + 1 + b.length + 1 + c.length := by
      rw [← Array.length_toList, hx]; simp; omega
    have hs1 : Txt.slice src none (some (a.length : Int)) = ⟨a.toArray⟩ := by
      rw [slice_to' src a.length (by omega), hx]; simp
    have hs2 : Txt.slice src (some ((a.length : Int) + 1)) (some ((a.length + 1 + b.length : Nat) : Int)) = ⟨b.toArray⟩ := by
      have := slice_mid' src (a.length + 1) (a.length + 1 + b.length) (by omega) (by omega)
      rw [hx] at this
      have e1 : ((a.length + 1 : Nat) : Int) = (a.length : Int) + 1 := by omega
      rw [e1] at this
      rw [this, show a ++ 39 :: (b ++ 39 :: c) = (a ++ [39]) ++ (b ++ 39 :: c) by simp, List.drop_left' (by simp)]
      congr 2
      rw [List.take_left' (by omega)]
    have hs3 : Txt.slice src (some (((a.length + 1 + b.length : Nat) : Int) + 1)) none = ⟨c.toArray⟩ := by
      have := slice_from' src (a.length + 1 + b.length + 1) (by omega)
      rw [hx] at this
      have e1 : ((a.length + 1 + b.length + 1 : Nat) : Int) = ((a.length + 1 + b.length : Nat) : Int) + 1 := by omega
      rw [e1] at this
      rw [this, show a ++ 39 :: (b ++ 39 :: c) = (a ++ 39 :: (b ++ [39])) ++ c by simp, List.drop_left' (by simp; omega)]
    have hsl : src.length ≤ sizeLine := by rw [sizeLine_eq]; show src.cps.size ≤ _; omega
    obtain ⟨n6, hg6⟩ := hp.1
    have N₆' : News s.heap s.heap.objs.size h₆ [(D, lstO _ n6), (s.heap.objs.size + 1, o₃)] := fun p hp => by
      rcases List.mem_cons.mp hp with rfl | hp
      · exact ⟨hg6, notFrame F₆ hg6, hD⟩
      · exact N₆ p hp
    have hD6 : h₆.IsList D _ := hl
    -- one
    refine wpAny_execs_cons (wpAny_Assign_Name (Tuple_ (spliced_more (Subscript_ (ldCell rfl ⟨_, N₆'.get (.tail _ (.head _)), hd₃⟩ ?_)))))
    refine wpAny_Slice (evalPart_none_step (evalPart_some_step (Subscript_ (ldE F₆ q4 (wpAny_Constant_int ?_)))))
    refine item_listL hl (by decide) (by decide) rfl ?_
    refine evalPart_none_step ?_
    refine slice_strN_ns (s := ⟨_, _, _, _, _⟩) F₆ N₆' ?_ (hsz := hsl)
    intro h₇ u₇ tk₇ F₇ N₇
    rw [hs1]
    refine spliced_more (ldE F₇ q2 (spliced_more (ldE F₇ q3 (spliced_none ?_))))
    refine newTuple_N' F₇ N₇ ?_ (by rw [sizeLine_eq]; simp)
    intro e1 h₈ _ F₈ N₈ _
    walk_at "nf"
    refine stE F₈ N₈ ?_
    intro h₉ F₉ N₉
    obtain ⟨m₉, F₉, q2, q3, q4, q5⟩ : ∃ m₉, Fr s.heap s.heap.objs.size h₉ m₉ ∧ m₉ (Str.ofString "sends") = some (.int (n : Int) t1) ∧ m₉ (Str.ofString "first") = some (.int (f : Int) t2) ∧ m₉ (Str.ofString "cuts") = some (.ref D) ∧ m₉ (Str.ofString "one") = some (.ref e1) := ⟨_, F₉, q2, q3, q4, rfl⟩
    clear F₆ N₆ N₆' F₇ N₇ F₈ N₈
    walk_at "nf"
    have hlD : h₉.IsList D _ := News.isList N₉ (.tail _ (.head _))
    -- two
    refine wpAny_execs_cons (wpAny_Assign_Name (Tuple_ (spliced_more (Subscript_ (ldCell rfl ⟨_, N₉.get (.tail _ (.tail _ (.head _))), hd₃⟩ ?_)))))
    refine wpAny_Slice (evalPart_some_step (wpAny_BinOp (Subscript_ (ldE F₉ q4 (wpAny_Constant_int ?_)))))
    refine item_listL hlD (by decide) (by decide) rfl (wpAny_Constant_int (add_int ?_))
    refine evalPart_some_step (Subscript_ (ldE F₉ q4 (wpAny_Constant_int ?_)))
    refine item_listL hlD (by decide) (by decide) rfl ?_
    refine evalPart_none_step ?_
    refine slice_strN_ss (s := ⟨_, _, _, _, _⟩) F₉ N₉ ?_ (hsz := hsl)
    intro h₇ u₈ tk₇ F₇ N₇
    rw [hs2]
    refine spliced_more (ldE F₇ q2 (spliced_more (wpAny_Constant_int (spliced_none ?_))))
    refine newTuple_N' (s := ⟨_, _, _, _, _⟩) F₇ N₇ ?_ (by rw [sizeLine_eq]; simp)
    intro e2 h₈ _ F₈ N₈ _
    walk_at "nf"
    refine stE F₈ N₈ ?_
    intro h₁₀ F₁₀ N₁₀
    obtain ⟨m₁₀, F₁₀, q2, q4, q5, q6⟩ : ∃ m₉, Fr s.heap s.heap.objs.size h₁₀ m₉ ∧ m₉ (Str.ofString "sends") = some (.int (n : Int) t1) ∧ m₉ (Str.ofString "cuts") = some (.ref D) ∧ m₉ (Str.ofString "one") = some (.ref e1) ∧ m₉ (Str.ofString "two") = some (.ref e2) := ⟨_, F₁₀, q2, q4, q5, rfl⟩
    clear F₇ N₇ F₈ N₈ F₉ N₉ hlD
    walk_at "nf"
    have hlD : h₁₀.IsList D _ := News.isList N₁₀ (.tail _ (.tail _ (.head _)))
    refine wpAny_execs_cons (wpAny_Return_some (List_ (spliced_more (ldE F₁₀ q5 (spliced_more (ldE F₁₀ q6 (spliced_more ?_)))))))
    refine Tuple_ (spliced_more (Subscript_ (ldCell rfl ⟨_, N₁₀.get (.tail _ (.tail _ (.tail _ (.head _)))), hd₃⟩ ?_)))
    refine wpAny_Slice (evalPart_some_step (wpAny_BinOp (Subscript_ (ldE F₁₀ q4 (wpAny_Constant_int ?_)))))
    refine item_listL hlD (by decide) (by decide) rfl (wpAny_Constant_int (add_int ?_))
    refine evalPart_none_step ?_
    refine evalPart_none_step ?_
    refine slice_strN_sn (s := ⟨_, _, _, _, _⟩) F₁₀ N₁₀ ?_ (hsz := hsl)
    intro h₇ u₉ tk₇ F₇ N₇
    rw [hs3]
    refine spliced_more (ldE F₇ q2 (spliced_more (wpAny_Constant_int (spliced_none ?_))))
    refine newTuple_N' (s := ⟨_, _, _, _, _⟩) F₇ N₇ ?_ (by rw [sizeLine_eq]; simp)
    intro e3 h₈ _ F₈ N₈ _
    walk_at "nf"
    refine spliced_none ?_
    refine newList_N' (s := ⟨_, _, _, _, _⟩) F₈ N₈ ?_ (by rw [sizeLine_eq]; simp)
    intro B h₉ _ F₉ N₉ _
    refine hR _ B _ ⟨h₉, _, rfl, F₉.keep⟩ (N₉ _ (.head _)).2.2 ⟨0, (N₉ _ (.head _)).1⟩ ?_
    unfold PartsOf
    rw [hp3]
    exact ⟨e1, e2, e3, _, _, _, _, _, _, _, _, _, rfl, (N₉ _ (.tail _ (.tail _ (.tail _ (.head _))))).2.2, (N₉ _ (.tail _ (.tail _ (.head _)))).2.2, (N₉ _ (.tail _ (.head _))).2.2, ⟨_, N₉.get (.tail _ (.tail _ (.tail _ (.head _)))), rfl, 0, rfl⟩, ⟨_, N₉.get (.tail _ (.tail _ (.head _))), rfl, 0, rfl⟩, ⟨_, N₉.get (.tail _ (.head _)), rfl, 0, rfl⟩⟩
end Mine

end

/- part Closes -/
section
open PySem PySem.W PySem.Calls PyProof.Rows
set_option maxRecDepth 100000
set_option maxHeartbeats 8000000
namespace Mine
local macro_rules | `(tactic| walk_at "nf") => `(tactic| try dsimp only at *)
local macro_rules | `(tactic| walk_at "lo") => `(tactic| refine ld (by assumption) (by first | assumption | rfl) ?_)
local macro_rules | `(tactic| walk_at "ap") => `(tactic| (refine wpAny_execs_cons (wpAny_Expr (MethodCall_ (ld (by assumption) (by assumption) ?_))); refine getAppend (by assumption) (callWith_method1 (spliced_more ?_))))
local macro_rules | `(tactic| walk_at "nil") => `(tactic| repeat (refine wpAny_execs_nil ?_))

theorem walks_str {prog : Program} {w : World} {A : Around} (hh : A.handled = none) (I : Addr) (x : Str) (t : Tok) :
    Walks prog w A I [I] [I] x.cps.size (SignAt x) (fun i h => h.IsStrIter I (strIterType x) x t i) := by
  unfold strIterType
  split
  · exact Walks.strAscii hh I x t
  · exact Walks.strWide hh I x t

def SIt (x : Str) (t : Tok) (i : Nat) (o : Obj) : Prop := o.cls = .type (strIterType x) ∧ o.data = .fields #[.str x t, .int i 0]
def LIt (D : Addr) (i : Nat) (o : Obj) : Prop := o.cls = .type "list_iterator" ∧ o.data = .fields #[.ref D, .int i 0]
abbrev sgn (c : Nat) : Str := ⟨#[c]⟩

theorem bs_str : Str.ofString "\\" = ⟨#[92]⟩ := by decide +kernel
theorem qt_str : Str.ofString "\"" = ⟨#[34]⟩ := by decide +kernel
theorem op_str : Str.ofString "(" = ⟨#[40]⟩ := by decide +kernel
theorem cl_str : Str.ofString ")" = ⟨#[41]⟩ := by decide +kernel
theorem sign_bs (c : Nat) : ((⟨#[c]⟩ : Str) == Str.ofString "\\") = decide (c = 92) := by rw [bs_str, sign_beq]
theorem sign_qt (c : Nat) : ((⟨#[c]⟩ : Str) == Str.ofString "\"") = decide (c = 34) := by rw [qt_str, sign_beq]
theorem sign_op (c : Nat) : ((⟨#[c]⟩ : Str) == Str.ofString "(") = decide (c = 40) := by rw [op_str, sign_beq]
theorem any_br (c : Nat) : ([Str.ofString "(", Str.ofString ")"].any (· == (⟨#[c]⟩ : Str))) = decide (c = 40 ∨ c = 41) := by
  rw [op_str, cl_str]
  simp only [List.any_cons, List.any_nil, sign_beq, Bool.or_false]
  by_cases h1 : c = 40
  · subst h1; decide
  · by_cases h2 : c = 41
    · subst h2; decide
    · have : (40 : Nat) ≠ c := fun e => h1 e.symm
      have : (41 : Nat) ≠ c := fun e => h2 e.symm
      simp [*]

theorem getElem_getD {x : Array Nat} {i c : Nat} (h : x[i]? = some c) : i < x.size ∧ x.toList.getD i 0 = c := by
  have hi : i < x.size := by
    rcases Nat.lt_or_ge i x.size with h' | h'
    · exact h'
    · rw [Array.getElem?_eq_none (by simpa using h')] at h; cases h
  refine ⟨hi, ?_⟩
  rw [List.getD_eq_getElem?_getD, Array.getElem?_toList, h]; rfl
theorem take_snoc (x : List Nat) (i : Nat) (h : i < x.length) : x.take (i + 1) = x.take i ++ [x.getD i 0] := by
  rw [List.take_succ, List.getD_eq_getElem?_getD, List.getElem?_eq_getElem h]; rfl

theorem strs_take {vs : List Value} {ys : List Str} (h : StrsAre vs ys) : ∀ k, StrsAre (vs.take k) (ys.take k) := by
  induction h with
  | nil => intro k; simp; exact .nil
  | cons y t _ ih =>
    intro k
    cases k with
    | zero => exact .nil
    | succ k => exact .cons _ _ (ih k)
theorem strs_get {vs : List Value} {ys : List Str} (h : StrsAre vs ys) : ∀ (k : Nat) v, vs[k]? = some v → ∃ y t, ys[k]? = some y ∧ v = .str y t := by
  induction h with
  | nil => intro k v e; simp at e
  | cons y t _ ih =>
    intro k v e
    cases k with
    | zero => simp at e; exact ⟨y, t, rfl, e.symm⟩
    | succ k => exact ih k v (by simpa using e)

section
variable {prog : Program} {w : World} {A : Around} {E : Value → Shared → Prop} {s : Shared} {h₀ : Heap} {L : Addr} {m : Str → Option Value} {news : List (Addr × Obj)}
theorem iadd_eq {a b r : Int} {t u : Tok} {Q : Value → Shared → Prop} (e : a + b = r) (h : Q (.int r s.toks) { s with toks := s.toks + 1 }) : wpAny (model prog w) A (inplaceOp .Add (.int a t) (.int b u)) Q E s := by
  subst e; exact PyProof.Rows.iadd_int h
theorem str_iter {x : Str} {t : Tok} {Q : Value → Shared → Prop} (F : Fr h₀ L s.heap m) (N : News h₀ L s.heap news)
    (h : ∀ I h' o, SIt x t 0 o → Fr h₀ L h' m → News h₀ L h' ((I, o) :: news) → I ≠ L → h₀.get? I = none → (∀ p ∈ news, p.1 ≠ I) → Q (.ref I) { s with heap := h' }) :
    wpAny (model prog w) A (pyIter (.str x t)) Q E s := by
  refine wpAny_pyIter_strU ?_
  have N1 := N.push F { cls := .type (strIterType x), data := .fields #[.str x t, .int 0 0] }
  exact h _ _ _ ⟨rfl, rfl⟩ (F.push _) N1 (N1 _ (.head _)).2.1 (N1 _ (.head _)).2.2 fun p hp => Nat.ne_of_lt (Heap.lt_size (N p hp).1)
theorem list_iter {D : Addr} {items : Array Value} {Q : Value → Shared → Prop} (F : Fr h₀ L s.heap m) (N : News h₀ L s.heap news) (hl : s.heap.IsList D items)
    (h : ∀ I h' o, LIt D 0 o → Fr h₀ L h' m → News h₀ L h' ((I, o) :: news) → I ≠ L → h₀.get? I = none → (∀ p ∈ news, p.1 ≠ I) → D ≠ I → h'.IsList D items → (∀ b o, s.heap.get? b = some o → h'.get? b = some o) → Q (.ref I) { s with heap := h' }) :
    wpAny (model prog w) A (pyIter (.ref D)) Q E s := by
  refine wpAny_pyIter_list hl ?_
  have N1 := N.push F { cls := .type "list_iterator", data := .fields #[.ref D, .int 0 0] }
  have hlt : D < s.heap.objs.size := by obtain ⟨o, ho, _⟩ := hl; exact Heap.lt_size ho
  exact h _ _ _ ⟨rfl, rfl⟩ (F.push _) N1 (N1 _ (.head _)).2.1 (N1 _ (.head _)).2.2 (fun p hp => Nat.ne_of_lt (Heap.lt_size (N p hp).1)) (Nat.ne_of_lt hlt) (hl.push _) fun b o e => Heap.get?_push_of_some _ e
end

theorem closes_spec {w : World} {d : Nat} {fr gu un} {s : Shared} {src : Str} {t0 : Tok} {mean mg mb} (KX : (Kf w).In s.heap) (T : TopH mean mg mb s.heap)
   (hsz : src.cps.size ≤ 1000)
   (hroom : d < recursionLimit) {R : Result → Shared → Prop} (hR : ∀ s', Keeps s s' → R (.ok (.ret (.bool (closesL src.cps.toList)))) s') :
   codeAny (MM w) ⟨none, d, fr, gu, un⟩ (.call (.ref 102) ⟨[.str src t0], []⟩) R s := by
  refine call_plain_ret (binds := [(Str.ofString "source", .str src t0)]) hroom (KX 102 _ rfl) rfl T.nolimit ⟨101, _, _, _, rfl, KX 101 _ rfl, rfl, rfl⟩ rfl (locs rfl) ?_
  intro h₁ F
  have TR := topRead_of T
  have N := News.nil (h₀ := s.heap) (L := s.heap.objs.size) (h := h₁)
  refine wpAny_execs_cons (wpAny_Assign_Name (List_ (spliced_none ?_)))
  refine newList_N' F N ?_ (by rw [sizeLine_eq]; simp)
  intro D h₂ _ F₂ N₂ _
  walk_at "nf"
  refine stN F₂ N₂ ?_
  intro h₃ F₃ N₃
  walk_at "nf"
  refine wpAny_execs_cons (wpAny_Assign_Name (wpAny_UnaryOp (wpAny_Constant_int (PyProof.Rows.neg_int ?_))))
  refine stN F₃ N₃ ?_
  intro h₄ F₄ N₄
  walk_at "nf"
  refine wpAny_execs_cons (wpAny_Assign_Name (wpAny_Constant_bool ?_))
  refine stN F₄ N₄ ?_
  intro h₅ F₅ N₅
  walk_at "nf"
  refine wpAny_execs_cons (wpAny_For (ld F₅ rfl (str_iter F₅ N₅ ?_)))
  intro I h₆ oI₀ hoI₀ F₆ N₆ hIL hIb hIn
  have hDI : D ≠ I := hIn _ (.head _)
  walk_at "nf"
  clear F N F₂ N₂ F₃ N₃ F₄ N₄ F₅ N₅
  refine forW (walks_str (A := Around.deeper ⟨none, d, fr, gu, un⟩ _) rfl I src t0) (fun i s' => ∃ h tk m D ys ne br op tkn u oI, s' = { s with heap := h, toks := tk } ∧ Fr s.heap s.heap.objs.size h m ∧
      News s.heap s.heap.objs.size h [(D, lstO ys ne), (I, oI)] ∧ SIt src t0 i oI ∧ D ≠ I ∧ (m (Str.ofString "brackets") = some (.ref D) ∧ m (Str.ofString "opened") = some (.int op u) ∧ m (Str.ofString "taken") = some (.bool tkn)) ∧
      StrsAre ys.toList (br.map sgn) ∧ (src.cps.toList.take i).foldl lcStep ([], -1, false) = (br, op, tkn) ∧ br.length ≤ i) ?_ ?_ ?_ ?_
  · rintro i _ ⟨h, tk, m, D, ys, ne, br, op, tkn, u, oI, rfl, F, N, ho, _⟩
    exact ⟨oI, N.get (.tail _ (.head _)), ho⟩
  · rintro i _ v h' tk' hlt ⟨h, tk, m, D, ys, ne, br, op, tkn, u, oI, rfl, F, N, ho, hDI, ⟨hm1, hm2, hm3⟩, hS, hst, hlen⟩ ⟨c, tc, hc, rfl⟩ ⟨oI', hoI', ho'⟩ hk
    have F' := Fr.walked F hk (by simpa using Ne.symm hIL) (by simpa using hIb)
    have N' : News s.heap s.heap.objs.size h' [(D, lstO ys ne), (I, oI')] := by
      intro p hp
      rcases List.mem_cons.mp hp with rfl | hp
      · exact ⟨hk _ _ (by simpa using hDI) (N _ (.head _)).1, (N _ (.head _)).2⟩
      · rw [List.mem_singleton.mp hp]
        exact ⟨hoI', hIL, hIb⟩
    clear F N hk ho oI
    obtain ⟨_, hgc⟩ := getElem_getD hc
    have hil : i < src.cps.toList.length := by rw [Array.length_toList]; exact hlt
    have hst' : (src.cps.toList.take (i + 1)).foldl lcStep ([], -1, false) = lcStep (br, op, tkn) c := by
      rw [take_snoc _ _ hil, List.foldl_append, hst, hgc]; rfl
    have fin : ∀ (h : Heap) (tk : Nat) (m' : Str → Option Value) (D' : Addr) (ys' : Array Value) (ne' : Nat) (br' : List Nat) (op' : Int) (tkn' : Bool) (u' : Tok), Fr s.heap s.heap.objs.size h m' → News s.heap s.heap.objs.size h [(D', lstO ys' ne'), (I, oI')] → D' ≠ I →
        (m' (Str.ofString "brackets") = some (.ref D') ∧ m' (Str.ofString "opened") = some (.int op' u') ∧ m' (Str.ofString "taken") = some (.bool tkn')) →
        StrsAre ys'.toList (br'.map sgn) → lcStep (br, op, tkn) c = (br', op', tkn') → br'.length ≤ i + 1 →
        ∃ h1 tk1 m1 D1 ys1 ne1 br1 op1 tkn1 u1 oI1, ({ s with heap := h, toks := tk } : Shared) = { s with heap := h1, toks := tk1 } ∧ Fr s.heap s.heap.objs.size h1 m1 ∧
      News s.heap s.heap.objs.size h1 [(D1, lstO ys1 ne1), (I, oI1)] ∧ SIt src t0 (i + 1) oI1 ∧ D1 ≠ I ∧ (m1 (Str.ofString "brackets") = some (.ref D1) ∧ m1 (Str.ofString "opened") = some (.int op1 u1) ∧ m1 (Str.ofString "taken") = some (.bool tkn1)) ∧
      StrsAre ys1.toList (br1.map sgn) ∧ (src.cps.toList.take (i + 1)).foldl lcStep ([], -1, false) = (br1, op1, tkn1) ∧ br1.length ≤ i + 1 :=
      fun h tk m' D' ys' ne' br' op' tkn' u' a1 a2 a3 a4 a5 a6 a7 => ⟨h, tk, m', D', ys', ne', br', op', tkn', u', oI', rfl, a1, a2, ho', a3, a4, a5, hst'.trans a6, a7⟩
    have hysz : ys.size = br.length := by
      have := hS.len_eq
      rw [Array.length_toList, List.length_map] at this
      exact this
    have hys : ys.size ≤ sizeLine := by rw [sizeLine_eq]; omega
    walk_at "nf"
    refine stN F' N' ?_
    intro h₂ F₂ N₂
    walk_at "nf"
    clear F' N' hoI'
    obtain ⟨m₂, F₂, q1, q2, q3, q4⟩ : ∃ m₂, Fr s.heap s.heap.objs.size h₂ m₂ ∧ m₂ (Str.ofString "brackets") = some (.ref D) ∧ m₂ (Str.ofString "opened") = some (.int op u) ∧ m₂ (Str.ofString "taken") = some (.bool tkn) ∧ m₂ (Str.ofString "sign") = some (.str ⟨#[c]⟩ tc) := ⟨_, F₂, hm1, hm2, hm3, rfl⟩
    refine wpAny_execs_cons (wpAny_If (isTrue_plain ?_))
    walk_at "lo"
    refine wpAny_truthy_bool ?_
    cases tkn with
    | true =>
      rw [if_pos rfl]
      refine wpAny_execs_cons (wpAny_Assign_Name (wpAny_Constant_bool ?_))
      refine stN F₂ N₂ ?_
      intro h₃ F₃ N₃
      walk_at "nf"
      walk_at "nil"
      exact fin _ _ _ D ys ne br op false u F₃ N₃ hDI ⟨q1, q2, rfl⟩ hS rfl (by omega)
    | false =>
      rw [if_neg (by decide)]
      refine wpAny_execs_cons (wpAny_If (wpAny_isTrue_Compare1 ?_))
      walk_at "lo"
      refine Constant_str (eq_str (wpAny_truthy_bool ?_))
      rw [sign_bs]
      by_cases h92 : c = 92
      · rw [if_pos (by simpa using h92)]
        refine wpAny_execs_cons (wpAny_Assign_Name (wpAny_Constant_bool ?_))
        refine stN F₂ N₂ ?_
        intro h₃ F₃ N₃
        walk_at "nf"
        walk_at "nil"
        exact fin _ _ _ D ys ne br op true u F₃ N₃ hDI ⟨q1, q2, rfl⟩ hS (by simp [lcStep, h92]) (by omega)
      · rw [if_neg (by simpa using h92)]
        refine wpAny_execs_cons (wpAny_If (isTrue_and (wpAny_isTrue_Compare1 ?_)))
        walk_at "lo"
        refine Constant_str (eq_str (wpAny_truthy_bool ?_))
        rw [sign_qt]
        by_cases h34 : c = 34
        · rw [if_pos (by simpa using h34)]
          refine isTrue_and (wpAny_isTrue_Compare1 ?_)
          walk_at "lo"
          refine wpAny_Constant_int (lt_int (wpAny_truthy_bool ?_))
          by_cases hop : op < 0
          · rw [if_pos (by simpa using hop)]
            refine isTrue_and_nil ?_
            rw [if_pos rfl]
            refine wpAny_execs_cons (wpAny_Assign_Name (Call_ (name_B F₂ KX TR (z_len w) b_len (by decide) ?_)))
            refine callWith_builtin1 (spliced_more ?_)
            walk_at "lo"
            refine spliced_none ?_
            refine call_len_list (News.isList N₂ (.head _)) (by omega) ?_
            refine stN F₂ N₂ ?_
            intro h₃ F₃ N₃
            walk_at "nf"
            walk_at "nil"
            exact fin _ _ _ D ys ne br _ false _ F₃ N₃ hDI ⟨q1, rfl, q3⟩ hS (by rw [hysz]; simp [lcStep, h34, hop]) (by omega)
          · rw [if_neg (by simpa using hop), if_neg (by decide)]
            refine wpAny_execs_cons (wpAny_If (wpAny_isTrue_Compare1 ?_))
            walk_at "lo"
            refine Constant_str (eq_str (wpAny_truthy_bool ?_))
            rw [sign_qt, if_pos (by simpa using h34)]
            refine wpAny_execs_cons (wpAny_Assign_Name (Subscript_ ?_))
            walk_at "lo"
            refine wpAny_Slice (evalPart_none_step (evalPart_some_step ?_))
            walk_at "lo"
            refine evalPart_none_step ?_
            refine slice_list (s := ⟨_, _, _, _, _⟩) F₂ N₂ (News.isList N₂ (.head _)) .none (.int _ _) ?_ (hsz := hys)
            intro h₃ F₃ N₃
            walk_at "nf"
            obtain ⟨k, rfl⟩ : ∃ k : Nat, op = (k : Int) := ⟨op.toNat, by omega⟩
            rw [slicePick_upto'] at N₃
            have hD' : h₂.objs.size + 1 ≠ I := Nat.ne_of_gt (Nat.lt_succ_of_lt (Heap.lt_size (N₂ _ (.tail _ (.head _))).1))
            replace N₃ := News.tail (News.swap N₃)
            refine stN F₃ N₃ ?_
            intro h₄ F₄ N₄
            walk_at "nf"
            refine wpAny_execs_cons (wpAny_Assign_Name (wpAny_UnaryOp (wpAny_Constant_int (PyProof.Rows.neg_int ?_))))
            refine stN F₄ N₄ ?_
            intro h₅ F₅ N₅
            walk_at "nf"
            walk_at "nil"
            refine fin _ _ _ _ _ _ (br.take k) (-1) false _ F₅ N₅ hD' ⟨rfl, rfl, q3⟩ ?_ (by simp [lcStep, h34]) (by rw [List.length_take]; omega)
            show StrsAre (ys.toList.take k) _
            rw [List.map_take]
            exact strs_take hS k
        · rw [if_neg (by simpa using h34), if_neg (by decide)]
          refine wpAny_execs_cons (wpAny_If (wpAny_isTrue_Compare1 ?_))
          walk_at "lo"
          refine Constant_str (eq_str (wpAny_truthy_bool ?_))
          rw [sign_qt, if_neg (by simpa using h34)]
          refine wpAny_execs_cons (wpAny_If (wpAny_isTrue_Compare1 ?_))
          walk_at "lo"
          refine le_tuple F₂ N₂ ?_
          intro T' h₃ tk₃ u1 u2 F₃ N₃ _ hT hTs
          refine in_tuple_strs hT hTs (wpAny_truthy_bool ?_)
          rw [any_br]
          replace N₃ := News.tail N₃
          walk_at "nf"
          by_cases hb : c = 40 ∨ c = 41
          · rw [if_pos (by simpa using hb)]
            walk_at "ap"
            walk_at "lo"
            have hDr : ∀ p ∈ [(I, oI')], p.1 ≠ D := fun p hp => by rw [List.mem_singleton.mp hp]; exact Ne.symm hDI
            refine spliced_none (app_step F₃ N₃ hDr hys ?_)
            intro h₄ ne₄ F₄ N₄
            walk_at "nf"
            walk_at "nil"
            refine fin _ _ _ _ _ _ (br ++ [c]) op false _ F₄ N₄ hDI ⟨q1, q2, q3⟩ ?_ (by simp [lcStep, h92, h34, hb]) (by simp; omega)
            rw [Array.toList_push, List.map_append]
            exact StrsAre.snoc hS _ _
          · rw [if_neg (by simpa using hb)]
            walk_at "nil"
            exact fin _ _ _ _ _ _ br op false _ F₃ N₃ hDI ⟨q1, q2, q3⟩ hS (by simp [lcStep, h92, h34, hb]) (by omega)
  · rintro _ h' tk' ⟨h, tk, m, D, ys, ne, br, op, tkn, u, oI, rfl, F, N, ho, hDI, ⟨hm1, hm2, hm3⟩, hS, hst, hlen⟩ hk
    have F' := Fr.walked F hk (by simpa using Ne.symm hIL) (by simpa using hIb)
    have N' : News s.heap s.heap.objs.size h' [(D, lstO ys ne)] := News.walked (fun p hp => N p (by rw [List.mem_singleton.mp hp]; exact .head _)) hk (fun p hp => by rw [List.mem_singleton.mp hp]; simpa using hDI)
    have hta : src.cps.toList.take src.cps.size = src.cps.toList := by rw [← Array.length_toList, List.take_length]
    rw [hta] at hst
    have hcl : closesL src.cps.toList = heights 0 br := by unfold closesL; rw [hst]
    clear F N hk
    walk_at "nf"
    refine wpAny_execs_cons (wpAny_Assign_Name (wpAny_Constant_int ?_))
    refine stN F' N' ?_
    intro h₂ F₂ N₂
    walk_at "nf"
    clear F' N'
    obtain ⟨m₂, F₂, q1, q2⟩ : ∃ m₂, Fr s.heap s.heap.objs.size h₂ m₂ ∧ m₂ (Str.ofString "brackets") = some (.ref D) ∧ ∃ u, m₂ (Str.ofString "height") = some (.int 0 u) := ⟨_, F₂, hm1, _, rfl⟩
    have hysz : ys.size = br.length := by
      have := hS.len_eq
      rw [Array.length_toList, List.length_map] at this
      exact this
    refine wpAny_execs_cons (wpAny_For (ld F₂ q1 (list_iter F₂ N₂ (News.isList N₂ (.head _)) ?_)))
    intro J h₃ oJ hoJ F₃ N₃ hJL hJb _ hDJ _ _
    walk_at "nf"
    clear F₂ N₂
    refine forW (Walks.list (A := Around.deeper ⟨none, d, fr, gu, un⟩ _) rfl J D hDJ ys) (fun i s' => ∃ h tk m ht u oJ, s' = { s with heap := h, toks := tk } ∧ Fr s.heap s.heap.objs.size h m ∧
      News s.heap s.heap.objs.size h [(D, lstO ys ne), (J, oJ)] ∧ LIt D i oJ ∧ m (Str.ofString "height") = some (.int ht u) ∧ heights 0 br = heights ht (br.drop i)) ?_ ?_ ?_ ?_
    · rintro i _ ⟨h, tk, m, ht, u, oJ, rfl, F, N, ho, _⟩
      exact ⟨⟨oJ, N.get (.tail _ (.head _)), ho⟩, News.isList N (.head _)⟩
    · rintro i _ v h' tk' hlt ⟨h, tk, m, ht, u, oJ, rfl, F, N, ho, hm, hht⟩ hv ⟨⟨oJ', hoJ', ho'⟩, _⟩ hk
      have F' := Fr.walked F hk (by simpa using Ne.symm hJL) (by simpa using hJb)
      have N' : News s.heap s.heap.objs.size h' [(D, lstO ys ne), (J, oJ')] := by
        intro p hp
        rcases List.mem_cons.mp hp with rfl | hp
        · exact ⟨hk _ _ (by simpa using hDJ) (N _ (.head _)).1, (N _ (.head _)).2⟩
        · rw [List.mem_singleton.mp hp]
          exact ⟨hoJ', hJL, hJb⟩
      clear F N hk
      obtain ⟨y, ty, hy, rfl⟩ := strs_get hS i v (by rw [Array.getElem?_toList]; exact hv)
      rw [List.getElem?_map] at hy
      obtain ⟨c, hc, rfl⟩ : ∃ c, br[i]? = some c ∧ sgn c = y := by
        cases e : br[i]? with
        | none => rw [e] at hy; cases hy
        | some c => rw [e] at hy; exact ⟨c, rfl, by simpa using hy⟩
      have hbl : i < br.length := by omega
      have hdr : br.drop i = c :: br.drop (i + 1) := by
        rw [List.getElem?_eq_getElem hbl] at hc
        injection hc with hc
        rw [List.drop_eq_getElem_cons hbl, hc]
      walk_at "nf"
      refine stN F' N' ?_
      intro h₄ F₄ N₄
      walk_at "nf"
      obtain ⟨m₄, F₄, q1, q2⟩ : ∃ m₂, Fr s.heap s.heap.objs.size h₄ m₂ ∧ m₂ (Str.ofString "sign") = some (.str ⟨#[c]⟩ ty) ∧ m₂ (Str.ofString "height") = some (.int ht u) := ⟨_, F₄, rfl, hm⟩
      clear F' N'
      refine wpAny_execs_cons (wpAny_AugAssign_Name (ldn F₄ q2 ?_))
      refine IfExp_ (wpAny_isTrue_Compare1 ?_)
      walk_at "lo"
      refine Constant_str (eq_str (wpAny_truthy_bool ?_))
      rw [sign_op]
      generalize hee : (if c = 40 then (1 : Int) else -1) = e
      by_cases h40 : c = 40
      case' pos =>
        rw [if_pos (by simpa using h40)]
        refine wpAny_Constant_int (iadd_eq (r := ht + e) (by rw [← hee, if_pos h40]) ?_)
      case' neg =>
        rw [if_neg (by simpa using h40)]
        refine wpAny_UnaryOp (wpAny_Constant_int (PyProof.Rows.neg_int (iadd_eq (r := ht + e) (by rw [← hee, if_neg h40]) ?_)))
      all_goals
        refine stN (s := ⟨_, _, _, _, _⟩) F₄ N₄ ?_
        intro h₅ F₅ N₅
        walk_at "nf"
        refine wpAny_execs_cons (wpAny_If (wpAny_isTrue_Compare1 (ld F₅ rfl ?_)))
        refine wpAny_Constant_int (lt_int (wpAny_truthy_bool ?_))
        by_cases hneg : ht + e < 0
        · rw [if_pos (by simpa using hneg)]
          refine wpAny_execs_cons (wpAny_Return_some (wpAny_Constant_bool ?_))
          have : closesL src.cps.toList = false := by
            rw [hcl, hht, hdr, heights, hee, if_pos hneg]
          rw [this] at hR
          exact hR _ ⟨h₅, _, rfl, F₅.keep⟩
        · rw [if_neg (by simpa using hneg)]
          walk_at "nil"
          exact ⟨h₅, _, _, ht + e, _, oJ', rfl, F₅, N₅, ho', rfl, by rw [hht, hdr, heights, hee, if_neg hneg]⟩
    · rintro _ h' tk' ⟨h, tk, m, ht, u, oJ, rfl, F, N, ho, hm, hht⟩ hk
      have F' := Fr.walked F hk (by simpa using Ne.symm hJL) (by simpa using hJb)
      walk_at "nf"
      refine wpAny_execs_cons (wpAny_Return_some (wpAny_Compare1 (ld F' hm ?_)))
      refine wpAny_Constant_int (eq_int ?_)
      have : closesL src.cps.toList = (ht == 0) := by
        rw [hcl, hht, hysz, List.drop_length, heights]
      rw [this] at hR
      exact hR _ ⟨h', _, rfl, F'.keep⟩
    · obtain ⟨u, q2⟩ := q2
      exact ⟨h₃, _, m₂, 0, u, oJ, rfl, F₃, News.swap N₃, hoJ, q2, rfl⟩
  · exact ⟨h₆, _, _, D, #[], 0, [], -1, false, _, _, rfl, F₆, News.swap N₆, hoI₀, hDI, ⟨rfl, rfl, rfl⟩, .nil, rfl, Nat.le_refl _⟩
end Mine

end

/- part GenR -/
section
open PySem PySem.W PySem.Calls PyProof.Rows
set_option maxRecDepth 100000
set_option maxHeartbeats 8000000
namespace Mine

section
variable {M : Model} {A : Around} {R : GenEnd} {Y : Protocol} {n : Nat} {s₀ : Shared} {c : Code} {fs : List Frame} {s : Shared} {env : Env}
  {K : Flow → Sem Fin} {H : Value → Sem Fin} {gd : Bool → Bool} {lv : List Value → List Value}

/- a statement that yields nothing -/
theorem seg_stmt {st : Stmt} (h : wpAny M (A.over c fs) (exec st env) (fun f s' => Seg M A R Y n s₀ c (K f) fs s') (fun _ _ => False) s) :
    Seg M A R Y n s₀ c ((exec st env).wrap K H gd lv) fs s := seg_wrap (wpAny_mono h (fun _ _ x => x) fun _ _ x => x.elim)
theorem seg_If {test : Expr} {body orelse : List Stmt} {pos : Pos} (h : wpAny M (A.over c fs) (isTrue test env (eval test env)) (fun b s₂ => Seg M A R Y n s₀ c ((if b = true then execs body env else execs orelse env).wrap K H gd lv) fs s₂) (fun _ _ => False) s) :
    Seg M A R Y n s₀ c ((exec (.If test body orelse pos) env).wrap K H gd lv) fs s := by
  rw [exec_If]
  exact seg_bind_wrap (wpAny_standAt (seg_bind_wrap (wpAny_mono h (fun _ _ x => x) fun _ _ x => x.elim)))
theorem seg_For {target iter : Expr} {body orelse : List Stmt} {pos : Pos}
    (h : wpAny M (A.over c fs) (eval iter env) (fun x s₁ => wpAny M (A.over c fs) (pyIter x) (fun it s₂ => ∀ k g l p, k (.ok .next) = K .next → Frame.guarded (.ret k none g l c p []) = gd false →
      Seg M A R Y n s₀ (.forLoop target it body orelse env) (M.den (.forLoop target it body orelse env)) (.ret k none g l c p [] :: fs) s₂) (fun _ _ => False) s₁) (fun _ _ => False) s)
    (hs : ∀ x, foldedSetIterable iter env x = pure x := by intro _; rfl) :
    Seg M A R Y n s₀ c ((exec (.For target iter body orelse pos) env).wrap K H gd lv) fs s := by
  rw [exec_For]
  refine seg_bind_wrap (wpAny_standAt ?_)
  refine seg_bind_wrap (wpAny_mono h (fun x s₁ h₁ => ?_) fun _ _ x => x.elim)
  refine seg_bind_wrap (wpAny_of_eq (hs x) ?_)
  refine seg_bind_wrap (wpAny_standAt ?_)
  refine seg_bind_wrap (wpAny_holding (wpAny_mono h₁ (fun it s₂ h₂ => ?_) fun _ _ x => x.elim))
  refine seg_call fun p => h₂ _ _ _ p ?_ ?_
  · rfl
  · rfl
end

section
variable {prog : Program} {w : World} {A : Around} {R : GenEnd} {Y : Protocol} {n : Nat} {s₀ : Shared} {fs : List Frame} {s : Shared} {env : Env}
def loopH (env : Env) (e : Value) : Sem Fin := (do noteFrame e env; theTreesLotGoes e : Sem Unit).bind fun _ => .raise e
def loopK (target : Expr) (it : Value) (body : List Stmt) (env : Env) : Flow → Sem Fin
  | .next | .cont => .pure (.again (.forLoop target it body [] env))
  | .brk => .pure (.done .next)
  | .ret v => .pure (.done (.ret v))
theorem seg_forLoop {target : Expr} {it : Value} {body : List Stmt}
    (h : wpAny (model prog w) (A.over (.forLoop target it body [] env) fs) (pyNext it) (fun r s' => match r with
      | none => Seg (model prog w) A R Y n s₀ (.block [] env) (.pure (.done .next)) fs s'
      | some v => wpAny (model prog w) (A.over (.forLoop target it body [] env) fs) (letOwnedTupleGo target it v) (fun _ s₁ =>
          wpAny (model prog w) (A.over (.forLoop target it body [] env) fs) (assign target env v) (fun _ s₂ =>
            Seg (model prog w) A R Y n s₀ (.forLoop target it body [] env) ((execs body env).wrap (loopK target it body env) (loopH env) id id) fs s₂) (fun _ _ => False) s₁) (fun _ _ => False) s') (fun _ _ => False) s) :
    Seg (model prog w) A R Y n s₀ (.forLoop target it body [] env) ((model prog w).den (.forLoop target it body [] env)) fs s := by
  show Seg _ A R Y n s₀ _ ((forTurn target it body [] env).onRaise (fun x => do noteFrame x env; theTreesLotGoes x)) fs s
  unfold forTurn
  rw [Sem.onRaise_eq_wrap]
  refine seg_bind_wrap (wpAny_standAt ?_)
  refine seg_bind_wrap (wpAny_onRaise (wpAny_mono h (fun r s₁ h₁ => ?_) fun _ _ x => x.elim))
  cases r with
  | none => exact seg_again rfl h₁
  | some v =>
    refine seg_bind_wrap (wpAny_mono h₁ (fun _ s₂ h₂ => ?_) fun _ _ x => x.elim)
    refine seg_bind_wrap (wpAny_mono h₂ (fun _ s₃ h₃ => ?_) fun _ _ x => x.elim)
    rw [Sem.bind_eq_wrap', Sem.wrap_wrap]
    refine Eq.mpr (congrArg (fun t => Seg (model prog w) A R Y n s₀ (.forLoop target it body [] env) t fs s₃) (Sem.wrap_congr (execs body env) id id (K' := loopK target it body env) (H' := loopH env) (fun f => ?_) (fun e => rfl))) h₃
    cases f <;> rfl
end
end Mine

end

/- part Iter -/
section
open PySem PySem.W PySem.Calls PyProof.Rows
set_option maxRecDepth 100000
set_option maxHeartbeats 8000000
namespace Mine
local macro_rules | `(tactic| walk_at "nf") => `(tactic| try dsimp only at *)

def GW (o : Obj) : Prop := (∃ vs, o.data = .fields vs) ∧ (o.cls = .type "enumerate" ∨ o.cls = .type "str_iterator" ∨ o.cls = .type "str_ascii_iterator")
def SinceH (hb : Heap) (C : Addr) (h₀ h : Heap) : Prop := ∀ b o, b ≠ C → (b < hb.objs.size ∨ ¬ GW o) → h₀.get? b = some o → h.get? b = some o
theorem SinceH.refl (hb : Heap) (C : Addr) (h : Heap) : SinceH hb C h h := fun _ _ _ _ e => e
def ItemIs (h : Heap) (it : Nat × List Nat) (v : Value) : Prop := ∃ T u1 u2, v = .ref T ∧ IsTup h T #[.int (it.1 : Int) u1, .str ⟨it.2.toArray⟩ u2]
def gP (hb : Heap) (C : Addr) (its : List (Nat × List Nat)) : Protocol := fun m s₀ v s kap => ∃ (item : Nat × List Nat) (oC : Obj) (W : List (Addr × Obj)) (h : Heap) (tk : Nat), its[its.length - 1 - m]? = some item ∧ s = { s₀ with heap := h, toks := tk } ∧ ItemIs h item v ∧ SinceH hb C s₀.heap h ∧ h.get? C = some oC ∧ (∃ es ep, oC.data = .dict es ep) ∧
  (∀ p ∈ W, h.get? p.1 = some p.2 ∧ hb.objs.size ≤ p.1 ∧ GW p.2) ∧
  ∀ s'' : Shared, (∀ b o, hb.get? b = some o → s''.heap.get? b = some o) → s''.heap.get? C = some oC → (∀ p ∈ W, s''.heap.get? p.1 = some p.2) → kap (.send .none) s''
def gE (hb : Heap) (C : Addr) (n : Nat) (s₀ s₁ : Shared) : Prop := n = 0 ∧ ∃ h tk, s₁ = { s₀ with heap := h, toks := tk } ∧ SinceH hb C s₀.heap h
def gR (hb : Heap) (C : Addr) : GenEnd := fun n s₀ r s₁ => r = .ok (.ret .none) ∧ gE hb C n s₀ s₁

def GenGo (w : World) (B : Around) (hb : Heap) (C : Addr) (its : List (Nat × List Nat)) (k : Nat) (gs : GenState) (oC : Obj) (W : List (Addr × Obj)) : Prop :=
  (∀ p ∈ W, hb.objs.size ≤ p.1 ∧ GW p.2) ∧ ∀ s'' : Shared, (∀ b o, hb.get? b = some o → s''.heap.get? b = some o) → s''.heap.get? C = some oC → (∀ p ∈ W, s''.heap.get? p.1 = some p.2) →
    gs.Goes (MM w) B (gR hb C) (gP hb C its) k (.send .none) s''

/- the items that are left -/
def itemsE (i : Nat) : Bool → List Nat → List (Nat × List Nat)
  | true, [] => [(i - 1, [92])]
  | true, d :: r => (i, [92, d]) :: itemsF (i + 1) r
  | false, x => itemsF i x
theorem itemsE_cons (i c : Nat) (r : List Nat) : itemsE i false (c :: r) = if c = 92 then itemsE (i + 1) true r else (i, [c]) :: itemsE (i + 1) false r := by
  show itemsF i (c :: r) = _
  rw [itemsF_cons]
  by_cases h : c = 92
  · rw [if_pos h, if_pos h]
    cases r with
    | nil => rfl
    | cons d r' => rfl
  · rw [if_neg h, if_neg h]; rfl

section
variable {w : World} {A : Around} {E : Value → Shared → Prop} {s : Shared}
theorem next_gen {hb : Heap} {a C : Addr} {g k : Nat} {its : List (Nat × List Nat)} {gs : GenState} {oC : Obj} {W : List (Addr × Obj)} {Q : Option Value → Shared → Prop} (hh : A.handled = none)
    (hl : s.heap.NoLimit) (hroom : A.depth < recursionLimit) (hg : s.heap.IsGen a g) (hgs : s.gens[g]? = some gs) (hGo : GenGo w A.in1 hb C its k gs oC W)
    (hkb : ∀ b o, hb.get? b = some o → s.heap.get? b = some o) (hCb : hb.get? C = none) (hC : s.heap.get? C = some oC) (hW : ∀ p ∈ W, s.heap.get? p.1 = some p.2)
    (hY : ∀ m, k = m + 1 → ∀ v item h₁ tk gs' oC' W' gns, its[its.length - 1 - m]? = some item → ItemIs h₁ item v → SinceH hb C s.heap h₁ → h₁.get? C = some oC' → (∃ es ep, oC'.data = .dict es ep) → (∀ p ∈ W', h₁.get? p.1 = some p.2) →
      GenGo w A.in1 hb C its m gs' oC' W' → gns[g]? = some gs' → GenOnlyQ g s.gens gns → Q (some v) { s with heap := h₁, toks := tk, gens := gns })
    (hP : k = 0 → ∀ h₁ tk gns, SinceH hb C s.heap h₁ → GenOnlyQ g s.gens gns → Q none { s with heap := h₁, toks := tk, gens := gns }) :
    wpAny (MM w) A (pyNext (.ref a)) Q E s := by
  unfold pyNext
  refine wpAny_bind (wpAny_attempt (wpAny_callSpecial?_slot (name := Str.ofString "__next__") hg.typeIs slot_gen_next
    (wpAny_call_entry slot_gen_next hg.typeIs entry_gen_next ?_ (args_gen_next _))))
  show wpAny _ _ (Builtin.Generator.genWake (.ref a) (.send .none)) _ _ s
  unfold Builtin.Generator.genWake
  refine wpAny_bind (wpAny_holding (wpAny_genNumber hg (wpAny_bind (wpAny_genState hgs ?_))))
  have hgo := hGo.2 (s.setGen g .running) hkb hC hW
  cases gs with
  | running => exact hgo.elim
  | finished => exact hgo.elim
  | _ =>
    refine wpAny_bind (wpAny_roomToWake hl hroom ?_)
    show wpAny _ A.in1 (.resume g (.send .none) [] _) _ _ s
    refine wpAny_resumeQ hgs hgo (fun x s₁ hx => ?_) (fun v s₁ gs' hb' hv => ?_)
    · obtain ⟨rfl, hk0, h₁, tk₁, rfl, hs⟩ := hx
      show wpAny _ _ (newExc (.type "StopIteration") [] >>= _) _ _ _
      refine wpAny_bind ?_
      simp only [newExc, newTuple]
      refine wpAny_bind (wpAny_newObj_type ?_ (by size_fits))
      refine wpAny_bind (m := firstArgMember _ _) (wpAny_of_eq (a := Value.none) (by first | rfl | (simp only [firstArgMember]; rfl)) ?_)
      refine wpAny_newObj_type ?_ (by size_fits)
      simp only [raiseNew]
      refine wpAny_bind (wpAny_bind (wpAny_handled ?_))
      rw [show A.in1.handled = none from hh]
      refine wpAny_throw ?_
      refine wpAny_bind (wpAny_isInstance (T := "StopIteration") (b := true) ⟨_, Heap.get?_push_size _ rfl, rfl⟩ isSubtype_stop ?_)
      refine wpAny_pure (hP hk0 _ _ _ (fun b o h1 h2 e => Heap.get?_push_of_some _ (Heap.get?_push_of_some _ (hs b o h1 h2 e))) ?_)
      exact GenOnlyQ.of ((GenOnly.setGen s g .running).trans (GenOnly.setGen _ g .finished)) (setGen_self (gs := .running) (setGen_self hgs)) rfl
    · refine wpAny_pure ⟨v, rfl, wpAny_pure ?_⟩
      obtain ⟨item, oC', W', h₁, tk₁, hit, rfl, hiv, hs, hC', hCd', hW', hkap⟩ := hv
      cases k with
      | zero => exact ((hkap ⟨h₁, s.gens, s.drawn, tk₁, s.os⟩ (fun b o e => hs b o (fun q => by rw [q, hCb] at e; cases e) (.inl (Heap.lt_size e)) (hkb b o e)) hC' (fun p hp => (hW' p hp).1))).elim
      | succ m =>
        refine hY m rfl v item h₁ tk₁ gs' oC' W' _ hit hiv hs hC' hCd' (fun p hp => (hW' p hp).1) ⟨fun p hp => (hW' p hp).2, fun s'' k1 k2 k3 => hkap s'' k1 k2 k3⟩ (setGen_self (gs := .running) (setGen_self hgs)) ?_
        exact GenOnlyQ.of ((GenOnly.setGen s g .running).trans (GenOnly.setGen _ g gs')) (setGen_self (gs := .running) (setGen_self hgs)) hb'
end
end Mine

end

/- part Iter2 -/
section
open PySem PySem.W PySem.Calls PyProof.Rows
set_option maxRecDepth 100000
set_option maxHeartbeats 8000000
namespace Mine
local macro_rules | `(tactic| walk_at "nf") => `(tactic| try dsimp only at *)

structure GS (hb : Heap) (C e it : Addr) (x : Str) (t : Tok) (j : Nat) (h₀ h : Heap) (m : Str → Option Value) : Prop where
  since : SinceH hb C h₀ h
  fr : Fr hb C h m
  en : ∃ old, IsEnum h e it j old
  si : h.IsStrIter it (strIterType x) x t j

theorem gw_str {x : Str} {t : Tok} {i : Nat} {o : Obj} (hc : o.cls = .type (strIterType x)) (hd : o.data = .fields #[.str x t, .int i 0]) : GW o := by
  refine ⟨⟨_, hd⟩, ?_⟩
  rw [hc]
  unfold strIterType
  split
  · exact .inr (.inr rfl)
  · exact .inr (.inl rfl)

section
variable {hb : Heap} {C e it : Addr} {x : Str} {t : Tok} {i : Nat} {h₀ h h' : Heap} {m m' : Str → Option Value}
theorem GS.ext (G : GS hb C e it x t i h₀ h m) (hk : ∀ b o, h.get? b = some o → h'.get? b = some o) : GS hb C e it x t i h₀ h' m :=
  ⟨fun b o h1 h2 q => hk b o (G.since b o h1 h2 q), Fr.keeps' G.fr hk, let ⟨old, q⟩ := G.en; ⟨old, hk _ _ q⟩, let ⟨o, q, r⟩ := G.si; ⟨o, hk _ _ q, r⟩⟩
theorem GS.set (G : GS hb C e it x t i h₀ h m) (hn : h'.Ns C m') (hs : Heap.SameBut C h h') (he : e ≠ C) (hi : it ≠ C) : GS hb C e it x t i h₀ h' m' :=
  ⟨fun b o h1 h2 q => hs.extBut b o h1 (G.since b o h1 h2 q), G.fr.set hn hs, let ⟨old, q⟩ := G.en; ⟨old, hs.extBut _ _ he q⟩, G.si.extBut hs.extBut hi⟩
theorem GS.moved (G : GS hb C e it x t i h₀ h m) (hk : ∀ b o, b ∉ [e, it] → h.get? b = some o → h'.get? b = some o)
    (he : hb.objs.size ≤ e) (hi : hb.objs.size ≤ it) (heC : e ≠ C) (hiC : it ≠ C) : SinceH hb C h₀ h' ∧ Fr hb C h' m := by
  refine ⟨fun b o h1 h2 q => hk b o (fun hm => ?_) (G.since b o h1 h2 q), Fr.walked G.fr hk (by simp [Ne.symm heC, Ne.symm hiC]) (fun b hb' => ?_)⟩
  · have hq := G.since b o h1 h2 q
    rcases List.mem_cons.mp hm with rfl | hm
    · obtain ⟨old, he'⟩ := G.en
      rw [he'] at hq
      cases hq
      rcases h2 with h2 | h2
      · exact absurd h2 (Nat.not_lt.mpr he)
      · exact h2 ⟨⟨_, rfl⟩, .inl rfl⟩
    · rw [List.mem_singleton.mp hm] at hq h2
      obtain ⟨o', ho', hc, hd⟩ := G.si
      rw [ho'] at hq
      cases hq
      rcases h2 with h2 | h2
      · exact absurd h2 (Nat.not_lt.mpr hi)
      · exact h2 (gw_str hc hd)
  · rcases List.mem_cons.mp hb' with rfl | hb'
    · exact fresh_at he
    · rw [List.mem_singleton.mp hb']; exact fresh_at hi
theorem GS.step (G : GS hb C e it x t i h₀ h m) (hk : ∀ b o, b ∉ [e, it] → h.get? b = some o → h'.get? b = some o) (hst : (∃ old, IsEnum h' e it ((i + 1 : Nat) : Int) old) ∧ h'.IsStrIter it (strIterType x) x t (i + 1))
    (he : hb.objs.size ≤ e) (hi : hb.objs.size ≤ it) (heC : e ≠ C) (hiC : it ≠ C) : GS hb C e it x t (i + 1) h₀ h' m :=
  ⟨(G.moved hk he hi heC hiC).1, (G.moved hk he hi heC hiC).2, hst.1, hst.2⟩
/- what a yield hands over, and what it is woken with -/
theorem GS.held (G : GS hb C e it x t i h₀ h m) (he : hb.objs.size ≤ e) (hi : hb.objs.size ≤ it) : ∃ (oC : Obj) (W : List (Addr × Obj)), h.get? C = some oC ∧ (∃ es ep, oC.data = .dict es ep) ∧ (∀ p ∈ W, h.get? p.1 = some p.2 ∧ hb.objs.size ≤ p.1 ∧ GW p.2) ∧
    ∀ h'' : Heap, (∀ b o, hb.get? b = some o → h''.get? b = some o) → h''.get? C = some oC → (∀ p ∈ W, h''.get? p.1 = some p.2) → GS hb C e it x t i h'' h'' m := by
  obtain ⟨oC, es, ep, hoC, r1, r2, r3⟩ := G.fr.ns
  obtain ⟨old, hen⟩ := G.en
  obtain ⟨oi, hoi, hic, hid⟩ := G.si
  refine ⟨oC, [(e, _), (it, oi)], hoC, ⟨_, _, r1⟩, fun p hp => ?_, fun h'' k1 k2 k3 => ⟨.refl _ _ _, ⟨⟨oC, es, ep, k2, r1, r2, r3⟩, k1, G.fr.above⟩, ⟨old, k3 _ (.head _)⟩, ⟨oi, k3 _ (.tail _ (.head _)), hic, hid⟩⟩⟩
  rcases List.mem_cons.mp hp with rfl | hp
  · exact ⟨hen, he, ⟨_, rfl⟩, .inl rfl⟩
  · rw [List.mem_singleton.mp hp]; exact ⟨hoi, hi, gw_str hic hid⟩
end

theorem draws_str {prog : Program} {w : World} {A : Around} (hh : A.handled = none) (it : Addr) (x : Str) (t : Tok) :
    Draws prog w A it [it] x.cps.size (fun i v => ∃ c u, x.cps[i]? = some c ∧ v = .str ⟨#[c]⟩ u) (fun i h => h.IsStrIter it (strIterType x) x t i) := by
  unfold strIterType
  split
  · exact Draws.strAscii hh it x t
  · exact Draws.strWide hh it x t

section
variable {M : Model} {A : Around} {E : Value → Shared → Prop} {s : Shared} {env : Env} {hb : Heap} {C e it : Addr} {x : Str} {t : Tok} {i : Nat} {h₀ : Heap} {m : Str → Option Value}
theorem stG {y : Str} {v : Value} {Q : Unit → Shared → Prop} (S : SinceH hb C h₀ s.heap) (F : Fr hb C s.heap m)
    (h : ∀ h', SinceH hb C h₀ h' → Fr hb C h' (fun z => if z = y then some v else m z) → Q () { s with heap := h', toks := s.toks + 1 })
    (hL : env.locals = C := by rfl) (hk : env.scope.kind = .function := by rfl) (hl : env.kindOf y = some .local := by rfl) :
    wpAny M A (storeName env y v) Q E s := by
  subst hL
  exact wpAny_storeName_local hl F.ns (fun h' hn hs => h h' (fun b o h1 h2 q => hs.extBut b o h1 (S b o h1 h2 q)) (F.set hn hs)) (by rw [hk]; rfl)
theorem stGS {y : Str} {v : Value} {Q : Unit → Shared → Prop} (G : GS hb C e it x t i h₀ s.heap m) (he : e ≠ C) (hi : it ≠ C)
    (h : ∀ h', GS hb C e it x t i h₀ h' (fun z => if z = y then some v else m z) → Q () { s with heap := h', toks := s.toks + 1 })
    (hL : env.locals = C := by rfl) (hk : env.scope.kind = .function := by rfl) (hl : env.kindOf y = some .local := by rfl) :
    wpAny M A (storeName env y v) Q E s := by
  subst hL
  exact wpAny_storeName_local hl G.fr.ns (fun h' hn hs => h h' (G.set hn hs he hi)) (by rw [hk]; rfl)
end

theorem idx_of {α : Type} {its pre rest : List α} {a : α} (h : its = pre ++ a :: rest) : its[its.length - 1 - rest.length]? = some a := by
  rw [h]
  have : (pre ++ a :: rest).length - 1 - rest.length = pre.length := by simp
  rw [this, List.getElem?_append_right (Nat.le_refl _), Nat.sub_self]; rfl

theorem iter_spec {w : World} {A : Around} {s : Shared} {hb : Heap} {x : Str} {t : Tok} {mean mg mb} (KX : (Kf w).In hb) (T : TopH mean mg mb hb) (hkb : ∀ b o, hb.get? b = some o → s.heap.get? b = some o)
    (hbs : hb.objs.size ≤ s.heap.objs.size) (hroom : A.depth < recursionLimit) {R : Result → Shared → Prop}
    (hR : ∀ h' tk gs oC, gs.bare = true → (∀ b o, s.heap.get? b = some o → h'.get? b = some o) → h'.get? s.heap.objs.size = some oC → (∃ es ep, oC.data = .dict es ep) → h'.IsGen (s.heap.objs.size + 1) s.gens.size →
      (∀ B : Around, B.handled = none → GenGo w B hb s.heap.objs.size (itemsF 0 x.cps.toList) (itemsF 0 x.cps.toList).length gs oC []) → R (.ok (.ret (.ref (s.heap.objs.size + 1)))) { s with heap := h', toks := tk, gens := s.gens.push gs }) :
    codeAny (MM w) A (.call (.ref 38) ⟨[.str x t], []⟩) R s := by
  have TR := topRead_of T
  have hlim := T.nolimit.keeps hkb
  refine codeAny_call_generator hroom (hkb _ _ (KX 38 _ rfl)) rfl rfl rfl rfl ⟨37, _, _, _, rfl, hkb _ _ (KX 37 _ rfl), rfl, rfl⟩ ?_
  refine wpAny_of_eq (a := [(Str.ofString "addr", .str x t)]) rfl ?_
  refine wpAny_newFunctionEnv (by decide) (locs rfl) (fun h₁ hns hsb => ⟨hlim.fresh _ hsb, ?_⟩) rfl
  have hkeep : ∀ b o, s.heap.get? b = some o → h₁.get? b = some o := fun b o e => hsb.extBut b o (Nat.ne_of_lt (Heap.lt_size e)) (Heap.get?_push_of_some _ e)
  have hsz₁ : h₁.objs.size = s.heap.objs.size + 1 := by rw [hsb.1, Heap.size_push]
  obtain ⟨oC, es, ep, hoC, hoCd, hsk, hfind⟩ := hns
  walk_at "nf"
  rw [hsz₁]
  have hgen : ∀ ob : Obj, ob.isFreed = false → (h₁.push ob).get? (s.heap.objs.size + 1) = some ob := fun ob hf => by rw [← hsz₁]; exact Heap.get?_push_size _ hf
  refine hR _ _ _ oC rfl (fun b o e => Heap.get?_push_of_some _ (hkeep b o e)) (Heap.get?_push_of_some _ hoC) ⟨_, _, hoCd⟩ ⟨_, _, _, hgen _ rfl, rfl, rfl, rfl⟩ ?_
  intro B hB
  refine ⟨(fun _ h => (nomatch h)), fun s'' k1 k2 _ => ⟨rfl, ?_⟩⟩
  refine seg_func ?_
  have F : Fr hb s.heap.objs.size s''.heap _ := ⟨⟨oC, es, ep, k2, hoCd, hsk, hfind⟩, k1, hbs⟩
  have S := SinceH.refl hb s.heap.objs.size s''.heap
  generalize hC : s.heap.objs.size = C at *
  clear hR hoC hkeep hsb hsz₁ k2
  refine seg_execs_cons (seg_stmt (wpAny_Assign_Name (wpAny_Constant_int (stG S F ?_))))
  intro h₂ S₂ F₂
  refine seg_execs_cons (seg_stmt (wpAny_Assign_Name (wpAny_Constant_bool (stG (s := ⟨_, _, _, _, _⟩) S₂ F₂ ?_))))
  intro h₃ S₃ F₃
  walk_at "nf"
  refine seg_execs_cons (seg_For (Call_ (nameB_E F₃.keep KX TR (z_enumerate w) b_enumerate (by decide) ?_)))
  refine PyProof.Rows.callWith_type1 (spliced_more (ldE F₃ rfl (spliced_none (call_enumerate_str ?_))))
  intro h₄ he₄ hi₄ hz₄ hk₄
  refine wpAny_pyIter_enum he₄ ?_
  intro k g l p hk hg
  walk_at "nf"
  have hCi : C < h₃.objs.size := F₃.ns.lt
  generalize hIT : h₃.objs.size = it at *
  have G₄ : GS hb C (it + 1) it x t 0 s''.heap h₄ _ := ⟨fun b o h1 h2 q => hk₄ b o (S₃ b o h1 h2 q), Fr.keeps' F₃ hk₄, ⟨_, he₄⟩, hi₄⟩
  obtain ⟨m₄, G₄, q4⟩ : ∃ m₄, GS hb C (it + 1) it x t 0 s''.heap h₄ m₄ ∧ m₄ (Str.ofString "escape") = some (.bool false) := ⟨_, G₄, rfl⟩
  generalize hc0 : Code.func _ _ = c₀ at hg ⊢
  generalize hFS : [Frame.ret k none g l c₀ p []] = FS
  generalize hLC : Code.forLoop _ _ _ _ _ = LC
  have hov : ∀ c', (B.over c' FS).handled = none := by subst hFS; intro c'; exact hB
  have hsp : splitAtGen FS = none := by subst hFS; rfl
  have hgu : FS.any Frame.guarded = false := by subst hFS; rw [List.any_cons, hg]; rfl
  have hbi : hb.objs.size ≤ it := by omega
  have hbe : hb.objs.size ≤ it + 1 := by omega
  have hiC : it ≠ C := by omega
  have heC : it + 1 ≠ C := by omega
  have hei : it + 1 ≠ it := by omega
  clear F F₂ F₃ S S₂ S₃ he₄ hi₄ hk₄
  have after : ∀ (s₁ s₂ : Shared) (m : Str → Option Value) (esc : Bool), (∃ h tk, s₂ = { s₁ with heap := h, toks := tk }) → SinceH hb C s₁.heap s₂.heap → Fr hb C s₂.heap m → m (Str.ofString "escape") = some (.bool esc) →
      (esc = true → ∃ u, m (Str.ofString "pos") = some (.int ((x.cps.size - 1 : Nat) : Int) u)) → (∃ pre, itemsF 0 x.cps.toList = pre ++ itemsE x.cps.size esc []) →
      Seg (MM w) B (gR hb C) (gP hb C (itemsF 0 x.cps.toList)) (itemsE x.cps.size esc []).length s₁ c₀ (k (.ok .next)) [] s₂ := by
    rintro s₁ _ m esc ⟨h, tk, rfl⟩ S F q1 q2 ⟨pre, hpre⟩
    rw [hk]
    refine seg_execs_cons (seg_If (isTrue_plain (ldE F q1 (wpAny_truthy_bool ?_))))
    cases esc with
    | false =>
      rw [if_neg (by decide)]
      refine seg_execs_nil ?_
      refine seg_execs_nil ?_
      exact seg_end (.ok (.ret .none)) ⟨rfl, rfl, h, tk, rfl, S⟩
    | true =>
      rw [if_pos rfl]
      obtain ⟨u, q2⟩ := q2 rfl
      refine seg_execs_cons (seg_Expr_Yield rfl rfl rfl ?_)
      refine Tuple_ (spliced_more (ldE F q2 (spliced_more (Constant_str (spliced_none ?_)))))
      refine newTuple_N' (s := ⟨_, _, _, _, _⟩) F News.nil ?_ (by rw [sizeLine_eq]; simp)
      intro D h₅ _ F₅ N₅ hk₅ kap hkap
      obtain ⟨oC', es', ep', hoC', r1, r2, r3⟩ := F₅.ns
      refine ⟨(x.cps.size - 1, [92]), oC', [], h₅, _, idx_of hpre, rfl, ⟨D, _, _, rfl, _, N₅.get (.head _), rfl, 0, by rw [bs_str]⟩, fun b o h1 h2 q => (hk₅ b o (S b o h1 h2 q)).1, hoC', ⟨_, _, r1⟩, (fun _ h => (nomatch h)), fun s3 k1 k2 _ => hkap .none s3 ?_⟩
      refine seg_execs_nil ?_
      refine seg_execs_nil ?_
      exact seg_end (.ok (.ret .none)) ⟨rfl, rfl, s3.heap, s3.toks, rfl, SinceH.refl _ _ _⟩
  have wE := fun c' => WalksT.enumerateD (prog := PySem.Challenge.pw_pe0075_01) (w := w) (A := B.over c' FS) (draws_str (A := (B.over c' FS).in1) (hov c') it x t) (it + 1) hei (by simp) (by simp)
  have loop : ∀ (kk i : Nat) (s₁ s₂ : Shared) (m : Str → Option Value) (esc : Bool), x.cps.size - i = kk → i ≤ x.cps.size → (∃ h tk, s₂ = { s₁ with heap := h, toks := tk }) → GS hb C (it + 1) it x t i s₁.heap s₂.heap m →
      m (Str.ofString "escape") = some (.bool esc) → (esc = true → ∃ u, m (Str.ofString "pos") = some (.int ((i - 1 : Nat) : Int) u)) → (∃ pre, itemsF 0 x.cps.toList = pre ++ itemsE i esc (x.cps.toList.drop i)) →
      Seg (MM w) B (gR hb C) (gP hb C (itemsF 0 x.cps.toList)) (itemsE i esc (x.cps.toList.drop i)).length s₁ LC ((MM w).den LC) FS s₂ := by
    intro kk
    subst hLC
    induction kk with
    | zero =>
      rintro i s₁ _ m esc hkk hi ⟨h, tk, rfl⟩ G q1 q2 hpre
      have hin : i = x.cps.size := by omega
      subst hin
      have hdr : x.cps.toList.drop x.cps.size = [] := by rw [← Array.length_toList, List.drop_length]
      rw [hdr] at hpre ⊢
      refine seg_forLoop ((wE _).done _ _ _ ⟨G.en, G.si⟩ fun h' tk' hk' => ?_)
      subst hFS
      refine seg_leaf (.ok .next) ?_
      have := G.moved hk' hbe hbi heC hiC
      exact after _ _ m esc ⟨h', tk', rfl⟩ this.1 this.2 q1 q2 hpre
    | succ kk ih =>
      rintro i s₁ _ m esc hkk hi ⟨h, tk, rfl⟩ G q1 q2 hpre
      have hlt : i < x.cps.size := by omega
      refine seg_forLoop ((wE _).item i _ _ _ hlt ⟨G.en, G.si⟩ fun T vals h₁ tk₁ hPt hT htup hmid hk₁ => ?_)
      refine (wE _).go _ _ _ i T _ _ _ hmid (fun h₂ hst₂ hk₂ => ?_)
      walk_at "nf"
      have G₂ := G.step (fun b o hb' e => hk₂ b o hb' (hk₁ b o hb' e)) hst₂ hbe hbi heC hiC
      have hTw := (wE c₀).apart i T h₁ hmid
      have htup₂ : IsTup h₂ T vals := let ⟨o, ho, r⟩ := htup; ⟨o, hk₂ T o hTw ho, r⟩
      obtain ⟨ti, v, ⟨c, tc, hc, rfl⟩, rfl⟩ := hPt
      obtain ⟨_, hgc⟩ := getElem_getD hc
      have hil : i < x.cps.toList.length := by rw [Array.length_toList]; exact hlt
      have hdr : x.cps.toList.drop i = c :: x.cps.toList.drop (i + 1) := by
        rw [List.drop_eq_getElem_cons hil]
        congr 1
        rw [← hgc, List.getD_eq_getElem?_getD, List.getElem?_eq_getElem hil]; rfl
      rw [hdr] at hpre ⊢
      refine assign_Tuple_tuple (hov _) htup₂ rfl rfl fun h₃ hx₃ => ?_
      walk_at "nf"
      have G₃ : GS hb C (it + 1) it x t (i + 1) s₁.heap h₃ m := G₂.ext fun b o e => hx₃ b o (Nat.ne_of_lt (Heap.lt_size e)) e
      refine assignInOrder_cons (assign_Name (stGS (s := ⟨_, _, _, _, _⟩) G₃ heC hiC ?_))
      intro h₅ G₅
      refine assignInOrder_cons (assign_Name (stGS (s := ⟨_, _, _, _, _⟩) G₅ heC hiC ?_))
      intro h₆ G₆
      refine assignInOrder_nil ?_
      walk_at "nf"
      obtain ⟨m₆, G₆, p1, p2, p3⟩ : ∃ m₆, GS hb C (it + 1) it x t (i + 1) s₁.heap h₆ m₆ ∧ m₆ (Str.ofString "escape") = some (.bool esc) ∧ m₆ (Str.ofString "pos") = some (.int (i : Int) ti) ∧ m₆ (Str.ofString "ch") = some (.str ⟨#[c]⟩ tc) := ⟨_, G₆, q1, rfl, rfl⟩
      clear G G₂ G₃ G₅ hk₁ hk₂ q1 q2
      have hpos : ∃ u, m₆ (Str.ofString "pos") = some (.int ((i + 1 - 1 : Nat) : Int) u) := ⟨ti, by rw [Nat.add_sub_cancel]; exact p2⟩
      have ihh := ih (i + 1)
      obtain ⟨pre, hpre⟩ := hpre
      refine seg_execs_cons (seg_If (isTrue_plain (ldE G₆.fr p1 (wpAny_truthy_bool ?_))))
      cases esc with
      | true =>
        rw [if_pos rfl]
        refine seg_execs_cons (seg_Expr_Yield hsp rfl hgu ?_)
        refine Tuple_ (spliced_more (ldE G₆.fr p2 (spliced_more (wpAny_BinOp (Constant_str (ldE G₆.fr p3 (SB.add ?_ (by rw [bs_str, sizeLine_eq]; show (1 + 1 : Nat) ≤ 16777216; decide))))))))
        intro t' k'
        refine spliced_none ?_
        refine newTuple_N' (s := ⟨_, _, _, _, _⟩) G₆.fr News.nil ?_ (by rw [sizeLine_eq]; simp)
        intro D h₇ _ F₇ N₇ hk₇ kap hkap
        have G₇ := G₆.ext fun b o e => (hk₇ b o e).1
        obtain ⟨oC', W, hoC', hCd', hW, hres⟩ := G₇.held hbe hbi
        refine ⟨(i, [92, c]), oC', W, h₇, _, idx_of hpre, rfl, ⟨D, _, _, rfl, _, N₇.get (.head _), rfl, 0, by rw [bs_str]; rfl⟩, G₇.since, hoC', hCd', hW, fun s3 k1 k2 k3 => hkap .none s3 ?_⟩
        have G₈ := hres s3.heap k1 k2 k3
        refine seg_execs_cons (seg_stmt (wpAny_Assign_Name (wpAny_Constant_bool (stGS G₈ heC hiC ?_))))
        intro h₉ G₉
        refine seg_execs_nil ?_
        refine seg_execs_nil ?_
        exact seg_again rfl (ihh _ _ _ false (by omega) hlt ⟨h₉, _, rfl⟩ G₉ rfl (fun h => nomatch h) ⟨pre ++ [(i, [92, c])], by rw [hpre]; simp [itemsE]⟩)
      | false =>
        rw [if_neg (by decide)]
        refine seg_execs_cons (seg_If (wpAny_isTrue_Compare1 (ldE G₆.fr p3 (Constant_str (eq_str (wpAny_truthy_bool ?_))))))
        rw [sign_bs]
        rw [itemsE_cons] at hpre ⊢
        by_cases h92 : c = 92
        · rw [if_pos h92] at hpre ⊢
          rw [if_pos (by simpa using h92)]
          refine seg_execs_cons (seg_stmt (wpAny_Assign_Name (wpAny_Constant_bool (stGS (s := ⟨_, _, _, _, _⟩) G₆ heC hiC ?_))))
          intro h₉ G₉
          refine seg_execs_nil ?_
          refine seg_execs_nil ?_
          refine seg_execs_nil ?_
          exact seg_again rfl (ihh _ _ _ true (by omega) hlt ⟨h₉, _, rfl⟩ G₉ rfl (fun _ => hpos) ⟨pre, hpre⟩)
        · rw [if_neg h92] at hpre ⊢
          rw [if_neg (by simpa using h92)]
          refine seg_execs_cons (seg_Expr_Yield hsp rfl hgu ?_)
          refine Tuple_ (spliced_more (ldE G₆.fr p2 (spliced_more (ldE G₆.fr p3 (spliced_none ?_)))))
          refine newTuple_N' (s := ⟨_, _, _, _, _⟩) G₆.fr News.nil ?_ (by rw [sizeLine_eq]; simp)
          intro D h₇ _ F₇ N₇ hk₇ kap hkap
          have G₇ := G₆.ext fun b o e => (hk₇ b o e).1
          obtain ⟨oC', W, hoC', hCd', hW, hres⟩ := G₇.held hbe hbi
          refine ⟨(i, [c]), oC', W, h₇, _, idx_of hpre, rfl, ⟨D, _, _, rfl, _, N₇.get (.head _), rfl, 0, rfl⟩, G₇.since, hoC', hCd', hW, fun s3 k1 k2 k3 => hkap .none s3 ?_⟩
          have G₈ := hres s3.heap k1 k2 k3
          refine seg_execs_nil ?_
          refine seg_execs_nil ?_
          refine seg_execs_nil ?_
          exact seg_again rfl (ihh _ _ _ false (by omega) hlt ⟨_, _, rfl⟩ G₈ p1 (fun h => nomatch h) ⟨pre ++ [(i, [c])], by rw [hpre]; simp⟩)
  have := loop x.cps.size 0 s'' ⟨h₄, s''.gens, s''.drawn, s''.toks + 1 + 1 + 1, s''.os⟩ m₄ false rfl (Nat.zero_le _) ⟨h₄, _, rfl⟩ G₄ q4 (fun h => nomatch h) ⟨[], rfl⟩
  exact this
end Mine

end

/- part ForG -/
section
open PySem PySem.W PySem.Calls PyProof.Rows
set_option maxRecDepth 100000
set_option maxHeartbeats 8000000
namespace Mine
local macro_rules | `(tactic| walk_at "nf") => `(tactic| try dsimp only at *)

theorem tupleGo_gen {M : Model} {A : Around} {E : Value → Shared → Prop} {s : Shared} {a T : Addr} {g : Nat} {elts : List Expr} {k : Nat} {pos : Pos} {Q : Unit → Shared → Prop} (hg : s.heap.IsGen a g) (h : Q () s) :
    wpAny M A (letOwnedTupleGo (.Tuple elts k pos) (.ref a) (.ref T)) Q E s := by
  obtain ⟨o, nm, qn, ho, hc, hd, _⟩ := hg
  show wpAny M A (load a >>= _) Q E s
  refine wpAny_bind (wpAny_load ho ?_)
  rw [hc, hd]
  exact wpAny_pure h

def GenO (g : Nat) (o : Obj) : Prop := ∃ nm qn, o.cls = .type "generator" ∧ o.data = .fields #[.int g 0, nm, qn] ∧ o.slots = #[]

theorem forG {w : World} {A : Around} {R : Result → Shared → Prop} {s s₁ : Shared} {env : Env} {L C a : Addr} {g : Nat} {its : List (Nat × List Nat)} {gs₁ : GenState} {oC₁ oa : Obj} {x1 x2 : Str} {p1 p2 pt : Pos} {kt : Nat} {body : List Stmt}
    {m₁ : Str → Option Value} {news₁ : List (Addr × Obj)} {h₁ : Heap} {tk₁ : Nat} {gns₁ : Array GenState}
    (hh : A.handled = none) (hroom : A.depth < recursionLimit) (hlim : s.heap.NoLimit) (hCL : C ≠ L) (hCb : s.heap.get? C = none) (hs₁ : s₁ = { s with heap := h₁, toks := tk₁, gens := gns₁ })
    (F₁ : Fr s.heap L h₁ m₁) (N₁ : News s.heap L h₁ (news₁ ++ [(a, oa), (C, oC₁)])) (hoa : GenO g oa) (hoC : ∃ es ep, oC₁.data = .dict es ep) (hgs : gns₁[g]? = some gs₁) (hGo : GenGo w A.in1 s.heap C its its.length gs₁ oC₁ [])
    (hb₁ : AllBare s.gens → AllBare gns₁)
    (J : Nat → (Str → Option Value) → List (Addr × Obj) → Prop) (hseq : ∀ j m news, J j m news → ∀ p ∈ news, ∃ ys n, p.2.data = .seq ys n) (h0 : J 0 m₁ news₁)
    (step : ∀ j item u1 u2 m news gw h tk gns, its[j]? = some item → J j m news → Fr s.heap L h (fun y => if y = x2 then some (.str ⟨item.2.toArray⟩ u2) else if y = x1 then some (.int (item.1 : Int) u1) else m y) → News s.heap L h (news ++ gw) →
      (∀ p ∈ gw, ∀ ys n, p.2.data ≠ .seq ys n) → (AllBare s.gens → AllBare gns) →
      wpAny (MM w) A (execs body env) (fun f s₃ => match f with
        | .next | .cont => ∃ h₃ tk₃ m₃ news₃, s₃ = { s with heap := h₃, toks := tk₃, gens := gns } ∧ Fr s.heap L h₃ m₃ ∧ News s.heap L h₃ (news₃ ++ gw) ∧ J (j + 1) m₃ news₃
        | .brk => R (.ok .next) s₃
        | .ret v => R (.ok (.ret v)) s₃) (fun _ _ => False) { s with heap := h, toks := tk, gens := gns })
    (fin : ∀ m news h tk gns, J its.length m news → Fr s.heap L h m → News s.heap L h news → (AllBare s.gens → AllBare gns) → R (.ok .next) { s with heap := h, toks := tk, gens := gns })
    (hL : env.locals = L := by rfl) (hk : env.scope.kind = .function := by rfl) (hl1 : env.kindOf x1 = some .local := by rfl) (hl2 : env.kindOf x2 = some .local := by rfl) :
    codeAny (MM w) A (.forLoop (.Tuple [.Name x1 p1, .Name x2 p2] kt pt) (.ref a) body [] env) R s₁ := by
  refine codeAny_forLoop_any (fun n s' => ∃ j h tk gns m news oC W gs, n = its.length - j ∧ j ≤ its.length ∧ s' = { s with heap := h, toks := tk, gens := gns } ∧ Fr s.heap L h m ∧ News s.heap L h (news ++ ((a, oa) :: (C, oC) :: W)) ∧ J j m news ∧
      (∃ es ep, oC.data = .dict es ep) ∧ gns[g]? = some gs ∧ GenGo w A.in1 s.heap C its (its.length - j) gs oC W ∧ (AllBare s.gens → AllBare gns)) ?_ its.length
      ⟨0, h₁, tk₁, gns₁, m₁, news₁, oC₁, [], gs₁, rfl, Nat.zero_le _, hs₁, F₁, N₁, h0, hoC, hgs, hGo, hb₁⟩
  rintro _ _ ⟨j, h, tk, gns, m, news, oC, W, gs, rfl, hj, rfl, F, N, hJ, hCd, hgs, hGo, hbare⟩
  have hNa : h.get? a = some oa := N.get (List.mem_append_right _ (.head _))
  have hNC : h.get? C = some oC := N.get (List.mem_append_right _ (.tail _ (.head _)))
  obtain ⟨nm, qn, ha1, ha2, ha3⟩ := hoa
  have hgen : h.IsGen a g := ⟨oa, nm, qn, hNa, ha1, ha2, ha3⟩
  have hngw : ¬ GW oa := fun q => by rcases q.2 with q | q | q <;> rw [ha1] at q <;> injection q with q <;> exact absurd q (by decide)
  -- what the wake leaves of the own heap
  have kept : ∀ h' : Heap, SinceH s.heap C h h' → Fr s.heap L h' m ∧ News s.heap L h' news ∧ h'.get? a = some oa := by
    intro h' S
    refine ⟨⟨F.ns.at' fun o e => ?_, fun b o e => S b o (fun q => by rw [q, hCb] at e; cases e) (.inl (Heap.lt_size e)) (F.keep b o e), F.above⟩, fun p hp => ⟨?_, (N p (List.mem_append_left _ hp)).2⟩, ?_⟩
    · refine S L o (Ne.symm hCL) (.inr fun q => ?_) e
      obtain ⟨o', es, ep, ho', hd, _⟩ := F.ns
      rw [ho'] at e
      cases e
      obtain ⟨⟨vs, hv⟩, _⟩ := q
      rw [hd] at hv; cases hv
    · obtain ⟨ys, n, hys⟩ := hseq j m news hJ p hp
      have e := (N p (List.mem_append_left _ hp)).1
      refine S p.1 p.2 (fun q => ?_) (.inr fun q => ?_) e
      · obtain ⟨es, ep, hd⟩ := hCd
        rw [q, hNC] at e
        cases e
        rw [hd] at hys; cases hys
      · obtain ⟨⟨vs, hv⟩, _⟩ := q
        rw [hys] at hv; cases hv
    · refine S a oa (fun q => ?_) (.inr hngw) hNa
      rw [q, hNC] at hNa
      cases hNa
      obtain ⟨es, ep, hd⟩ := hCd
      rw [hd] at ha2; cases ha2
  refine next_gen hh (hlim.keeps F.keep) hroom hgen hgs hGo F.keep hCb hNC (fun p hp => N.get (List.mem_append_right _ (.tail _ (.tail _ hp)))) ?_ ?_
  · intro n' hn' v item h' tk' gs' oC' W' gns' hit hiv S hC' hCd' hW' hGo' hgs' hQ
    obtain ⟨F', N', ha'⟩ := kept h' S
    have hidx : its.length - 1 - n' = j := by omega
    rw [hidx] at hit
    obtain ⟨T, u1, u2, rfl, htup⟩ := hiv
    have hgw : News s.heap L h' (news ++ ((a, oa) :: (C, oC') :: W')) := fun p hp => by
      rcases List.mem_append.mp hp with hp | hp
      · exact N' p hp
      · rcases List.mem_cons.mp hp with rfl | hp
        · exact ⟨ha', (N _ (List.mem_append_right _ (.head _))).2⟩
        · rcases List.mem_cons.mp hp with rfl | hp
          · exact ⟨hC', hCL, hCb⟩
          · refine ⟨hW' p hp, fun q => ?_, fresh_at (hGo'.1 p hp).1⟩
            obtain ⟨o', es, ep, ho', hd, _⟩ := F'.ns
            have e := hW' p hp
            rw [q, ho'] at e
            injection e with e
            obtain ⟨⟨vs, hv⟩, _⟩ := (hGo'.1 p hp).2
            rw [← e, hd] at hv; cases hv
    have hnseq : ∀ p ∈ ((a, oa) :: (C, oC') :: W'), ∀ ys n, p.2.data ≠ .seq ys n := fun p hp ys n q => by
      rcases List.mem_cons.mp hp with rfl | hp
      · rw [ha2] at q; cases q
      · rcases List.mem_cons.mp hp with rfl | hp
        · obtain ⟨es, ep, hd⟩ := hCd'
          rw [hd] at q; cases q
        · obtain ⟨⟨vs, hv⟩, _⟩ := (hGo'.1 p hp).2
          rw [hv] at q; cases q
    refine tupleGo_gen (g := g) ⟨oa, nm, qn, ha', ha1, ha2, ha3⟩ ?_
    refine unpackN_ F' hgw htup hh rfl rfl ?_
    intro h₂ F₂ N₂
    refine assignInOrder_cons (assign_Name (stE F₂ N₂ ?_ hL hk hl1))
    intro h₃ F₃ N₃
    refine assignInOrder_cons (assign_Name (stE F₃ N₃ ?_ hL hk hl2))
    intro h₄ F₄ N₄
    refine assignInOrder_nil ?_
    walk_at "nf"
    refine noted_false (env := env) (wpAny_mono (step j item u1 u2 m news _ h₄ _ gns' hit hJ F₄ N₄ hnseq fun hb => hQ.bare (hbare hb)) (fun f s₃ h₃ => ?_) fun _ _ e => e)
    have go : ∀ s₃ : Shared, (∃ h₃ tk₃ m₃ news₃, s₃ = { s with heap := h₃, toks := tk₃, gens := gns' } ∧ Fr s.heap L h₃ m₃ ∧ News s.heap L h₃ (news₃ ++ ((a, oa) :: (C, oC') :: W')) ∧ J (j + 1) m₃ news₃) →
        ∃ m', m' < its.length - j ∧ ∃ j h tk gns m news oC W gs, m' = its.length - j ∧ j ≤ its.length ∧ s₃ = { s with heap := h, toks := tk, gens := gns } ∧ Fr s.heap L h m ∧ News s.heap L h (news ++ ((a, oa) :: (C, oC) :: W)) ∧ J j m news ∧
      (∃ es ep, oC.data = .dict es ep) ∧ gns[g]? = some gs ∧ GenGo w A.in1 s.heap C its (its.length - j) gs oC W ∧ (AllBare s.gens → AllBare gns) := by
      rintro _ ⟨h₃, tk₃, m₃, news₃, rfl, F₅, N₅, hJ₅⟩
      have e : its.length - (j + 1) = n' := by omega
      exact ⟨its.length - (j + 1), by omega, j + 1, h₃, tk₃, gns', m₃, news₃, oC', W', gs', rfl, by omega, rfl, F₅, N₅, hJ₅, hCd', hgs', by rw [e]; exact hGo', fun hb => hQ.bare (hbare hb)⟩
    cases f with
    | next => exact go _ h₃
    | cont => exact go _ h₃
    | brk => exact h₃
    | ret v => exact h₃
  · intro hz h' tk' gns' S hQ
    obtain ⟨F', N', _⟩ := kept h' S
    have ej : j = its.length := by omega
    subst ej
    exact wpAny_execs_nil (fin m news h' tk' gns' hJ F' N' fun hb => hQ.bare (hbare hb))
end Mine

end

/- part Strip -/
section
open PySem PySem.W PySem.Calls PyProof.Rows PySem.Builtin PySem.Builtin.Str PySem.StrLaws
set_option maxRecDepth 100000
set_option maxHeartbeats 8000000
namespace Mine
local macro_rules | `(tactic| walk_at "nf") => `(tactic| try dsimp only at *)
local macro_rules | `(tactic| walk_at "lo") => `(tactic| refine ld (by assumption) (by first | assumption | rfl) ?_)

def qtS : Str := ⟨#[34]⟩
theorem qt_at (x : Str) (i : Nat) (h : i < x.cps.size) : subAt x qtS i = decide (x.cps.getD i 0 = 34) := by
  rw [subAt_eq, drop_at x.cps i h]
  show ((x.cps.getD i 0 :: x.cps.toList.drop (i + 1)).take 1 == [34]) = _
  rw [List.take_succ_cons, List.take_zero]
  generalize x.cps.getD i 0 = c
  by_cases h : c = 34 <;> simp [h]

theorem occ_some (x : Str) : ∀ (m cur : Nat) (st : Array Nat × Nat), st.snd ≤ cur → (1 ≤ st.fst.size ∨ ∃ i, cur ≤ i ∧ i < cur + m ∧ i < x.cps.size ∧ x.cps.getD i 0 = 34) →
    1 ≤ (forIn (List.range' cur m) st (occBody x qtS x.cps.size 1)).run.fst.size
  | 0, cur, st, _, h => by
    rcases h with h | ⟨i, h1, h2, _⟩
    · simpa using h
    · omega
  | m + 1, cur, st, hs, h => by
    rw [List.range'_succ, List.forIn_cons]
    by_cases hc : ((st.fst.size < 1 ∧ st.snd ≤ cur) ∧ cur + qtS.length ≤ x.cps.size) ∧ subAt x qtS cur = true
    · have hb : occBody x qtS x.cps.size 1 cur st = pure (.yield (st.fst.push cur, cur + 1)) := by
        unfold occBody
        rw [if_pos hc]; rfl
      rw [hb]
      exact occ_some x m (cur + 1) (st.fst.push cur, cur + 1) (Nat.le_refl _) (.inl (by show 1 ≤ (st.fst.push cur).size; rw [Array.size_push]; omega))
    · have hb : occBody x qtS x.cps.size 1 cur st = pure (.yield st) := by
        unfold occBody
        rw [if_neg hc]
      rw [hb]
      refine occ_some x m (cur + 1) st (by omega) ?_
      by_cases h1 : 1 ≤ st.fst.size
      · exact .inl h1
      · rcases h with h | ⟨i, h2, h3, h4, h5⟩
        · exact .inl h
        · refine .inr ⟨i, ?_, by omega, h4, h5⟩
          rcases Nat.lt_or_ge cur i with q | q
          · exact q
          · exfalso
            have e : i = cur := by omega
            subst e
            exact hc ⟨⟨⟨by omega, hs⟩, by show i + 1 ≤ _; omega⟩, by rw [qt_at x i h4]; simpa using h5⟩

theorem no_qt (x : Str) (h : Txt.contains x (Str.ofString "\"") = false) : 34 ∉ x.cps.toList := by
  intro hm
  rw [qt_str] at h
  obtain ⟨i, hi, he⟩ := List.mem_iff_getElem.mp hm
  rw [Array.length_toList] at hi
  have hg : x.cps.getD i 0 = 34 := by
    rw [← he]; simp [Array.getD, hi]
  have := occ_some x (x.cps.size + 1) 0 (#[], 0) (Nat.le_refl _) (.inr ⟨i, Nat.zero_le _, by omega, hi, hg⟩)
  unfold Txt.contains at h
  have e : occurrences x qtS 0 x.cps.size 1 = (forIn (List.range' 0 (x.cps.size + 1)) (#[], 0) (occBody x qtS x.cps.size 1)).run.fst.toList := by rw [occ_eq]; rfl
  have h' : (occurrences x qtS 0 x.cps.size 1).isEmpty = true := by
    have : (!(occurrences x qtS 0 x.cps.size 1).isEmpty) = false := h
    simpa using this
  rw [e, List.isEmpty_iff] at h'
  have hz : (forIn (List.range' 0 (x.cps.size + 1)) (#[], 0) (occBody x qtS x.cps.size 1)).run.fst.size = 0 := by
    rw [← Array.length_toList, h']; rfl
  omega

theorem slice_any (x : Str) (i j : Nat) (hj : j ≤ x.cps.size) (hi : i ≤ x.cps.size) : Txt.slice x (some (i : Int)) (some (j : Int)) = ⟨((x.cps.toList.take j).drop i).toArray⟩ := by
  by_cases hij : i ≤ j
  · rw [slice_mid' x i j hij hj, List.drop_take]
  · have : (x.cps.toList.take j).drop i = [] := by rw [List.drop_eq_nil_iff, List.length_take]; omega
    rw [this]
    unfold Txt.slice
    have hl : strSliceIndices (some (i : Int)) (some (j : Int)) 1 x.length = [] := by
      have e1 : ¬ ((i : Int) < 0) := by omega
      have e2 : ¬ ((j : Int) < 0) := by omega
      have e3 : max (0 : Int) (min (i : Int) (x.length : Int)) = i := by show max (0 : Int) (min (i : Int) (x.cps.size : Int)) = i; omega
      have e4 : max (0 : Int) (min (j : Int) (x.length : Int)) = j := by show max (0 : Int) (min (j : Int) (x.cps.size : Int)) = j; omega
      have e5 : ¬ ((i : Int) < (j : Int)) := by omega
      simp only [strSliceIndices, e1, e2, if_false, show (1 : Int) > 0 by decide, if_true, e3, e4, sliceRange, e5]
      rfl
    rw [hl]
    split
    · rename_i hz
      have : x.cps.size = 0 := by
        simp only [List.length_nil, Bool.and_eq_true, beq_iff_eq] at hz
        exact hz.2.symm
      have e : x.cps = #[] := Array.eq_empty_of_size_eq_zero this
      rw [show x = ⟨x.cps⟩ from rfl, e]
    · rfl

theorem itemsF_pos : ∀ (n : Nat) (i : Nat) (x : List Nat), x.length ≤ n → (∀ p ∈ itemsF i x, p.1 < i + x.length) ∧ (itemsF i x).length ≤ x.length
  | 0, i, x, h => by
    have : x = [] := List.length_eq_zero_iff.mp (by omega)
    subst this
    simp [itemsF]
  | n + 1, i, [], h => by simp [itemsF]
  | n + 1, i, [c], h => by simp [itemsF]
  | n + 1, i, c :: d :: r, h => by
    rw [itemsF]
    have h1 := itemsF_pos n (i + 2) r (by simp at h ⊢; omega)
    have h2 := itemsF_pos n (i + 1) (d :: r) (by simp at h ⊢; omega)
    split
    · refine ⟨fun p hp => ?_, by simp; have := h1.2; omega⟩
      rcases List.mem_cons.mp hp with rfl | hp
      · simp <;> omega
      · have := h1.1 p hp; simp at this ⊢; omega
    · refine ⟨fun p hp => ?_, by have := h2.2; simp at this ⊢; omega⟩
      rcases List.mem_cons.mp hp with rfl | hp
      · simp
      · have := h2.1 p hp; simp at this ⊢; omega

def KeepsG (s s' : Shared) : Prop := ∃ h' tk gns, s' = { s with heap := h', toks := tk, gens := gns } ∧ (AllBare s.gens → AllBare gns) ∧ ∀ b o, s.heap.get? b = some o → h'.get? b = some o

abbrev mkS (l : List Nat) : Str := ⟨l.toArray⟩
def opV (u : Tok) : Option Nat → Value
  | none => .none
  | some o => .int (o : Int) u
structure SI (x : Str) (t : Tok) (D : Addr) (j : Nat) (m : Str → Option Value) (news : List (Addr × Obj)) (ys : Array Value) (ne : Nat) (st : SQ) : Prop where
  run : ((itemsF 0 x.cps.toList).take j).foldl (sqStep x.cps.toList) ⟨0, none, []⟩ = st
  own : news = [(D, lstO ys ne)]
  addr : m (Str.ofString "addr") = some (.str x t)
  result : m (Str.ofString "result") = some (.ref D)
  start : ∃ u, m (Str.ofString "start") = some (.int (st.start : Int) u)
  op : ∃ u, m (Str.ofString "open_pos") = some (opV u st.op)
  texts : StrsAre ys.toList (st.res.map mkS)
  startLe : st.start ≤ x.cps.size
  opLt : ∀ o, st.op = some o → o < x.cps.size
  count : st.res.length ≤ j
  each : ∀ r ∈ st.res, r.length ≤ x.cps.size

theorem take_snocG {α : Type} (l : List α) (j : Nat) (a : α) (h : l[j]? = some a) : l.take (j + 1) = l.take j ++ [a] := by
  rw [List.take_add_one, h]; rfl

theorem sum_le : ∀ (l : List (List Nat)) (n : Nat), (∀ r ∈ l, r.length ≤ n) → ((l.map mkS).map (·.length)).sum ≤ l.length * n
  | [], n, _ => by simp
  | r :: l, n, h => by
    have h1 := sum_le l n fun r hr => h r (.tail _ hr)
    have h2 : (mkS r).length ≤ n := by show r.toArray.size ≤ n; simpa using h r (.head _)
    rw [List.map_cons, List.map_cons, List.sum_cons, List.length_cons, Nat.succ_mul]
    omega
theorem cat_mk : ∀ (l : List (List Nat)), cat (l.map mkS) = l.flatten
  | [] => rfl
  | r :: l => by
    have := cat_mk l
    unfold cat at this ⊢
    simp only [List.map_cons, List.flatten_cons] at this ⊢
    rw [this]

theorem strip_spec {w : World} {d : Nat} {fr gu un} {s : Shared} {x : Str} {t : Tok} {mean mg mb} (KX : (Kf w).In s.heap) (T : TopH mean mg mb s.heap)
   (hsz : x.cps.size ≤ 900) (hroom : d + 1 < recursionLimit) {R : Result → Shared → Prop} (hR : ∀ s' tk, KeepsG s s' → R (.ok (.ret (.str (mkS (stripT x.cps.toList)) tk))) s') :
   codeAny (MM w) ⟨none, d, fr, gu, un⟩ (.call (.ref 45) ⟨[.str x t], []⟩) R s := by
  refine call_plain_ret (binds := [(Str.ofString "addr", .str x t)]) (by show d < _; omega) (KX 45 _ rfl) rfl T.nolimit ⟨44, _, _, _, rfl, KX 44 _ rfl, rfl, rfl⟩ rfl (locs rfl) ?_
  intro h₁ F
  have TR := topRead_of T
  have N := News.nil (h₀ := s.heap) (L := s.heap.objs.size) (h := h₁)
  have hsl : x.length ≤ sizeLine := by rw [sizeLine_eq]; show x.cps.size ≤ _; omega
  refine wpAny_execs_cons (wpAny_If (wpAny_isTrue_Compare1 (Constant_str (ld F rfl (SB.notContains (wpAny_truthy_bool ?_))))))
  cases hc : Txt.contains x (Str.ofString "\"") with
  | false =>
    rw [if_pos (by decide)]
    refine wpAny_execs_cons (wpAny_Return_some (ld F rfl ?_))
    have e : mkS (stripT x.cps.toList) = x := by rw [strip_fast _ (no_qt x hc)]
    rw [e] at hR
    exact hR _ _ ⟨h₁, _, s.gens, rfl, fun h => h, F.keep⟩
  | true =>
    rw [if_neg (by decide)]
    refine wpAny_execs_nil ?_
    walk_at "nf"
    refine wpAny_execs_cons (wpAny_Assign_Name (wpAny_Constant_int (stN (s := ⟨_, _, _, _, _⟩) F N ?_)))
    intro h₂ F₂ N₂
    walk_at "nf"
    refine wpAny_execs_cons (wpAny_Assign_Name (wpAny_Constant_none (stN (s := ⟨_, _, _, _, _⟩) F₂ N₂ ?_)))
    intro h₃ F₃ N₃
    walk_at "nf"
    refine wpAny_execs_cons (wpAny_Assign_Name (List_ (spliced_none ?_)))
    refine newList_N' F₃ N₃ ?_ (by rw [sizeLine_eq]; simp)
    intro D h₄ _ F₄ N₄ _
    walk_at "nf"
    refine stN F₄ N₄ ?_
    intro h₅ F₅ N₅
    walk_at "nf"
    obtain ⟨m₅, F₅, q1, q2, q3, q4⟩ : ∃ m₅, Fr s.heap s.heap.objs.size h₅ m₅ ∧ m₅ (Str.ofString "addr") = some (.str x t) ∧ m₅ (Str.ofString "result") = some (.ref D) ∧ (∃ u, m₅ (Str.ofString "start") = some (.int ((0 : Nat) : Int) u)) ∧ m₅ (Str.ofString "open_pos") = some .none := ⟨_, F₅, rfl, rfl, ⟨_, rfl⟩, rfl⟩
    clear F N F₂ N₂ F₃ N₃ F₄ N₄
    refine wpAny_execs_cons (wpAny_For (Call_ (name_K F₅ KX TR (n_iter w) ?_)))
    refine callWith_K KX (by kernel_rfl) (spliced_more (ld F₅ q1 (spliced_none ⟨KX.keeps F₅.keep, wpAny_call ?_⟩)))
    refine iter_spec KX T F₅.keep (Nat.le_of_lt F₅.ns.lt) (by show d + 1 < _; omega) ?_
    intro h₆ tk₆ gs₆ oC₆ hba₆ hk₆ hC₆ hCd₆ hg₆ hGo₆
    obtain ⟨oa, nm, qn, hoa, ha1, ha2, ha3⟩ := hg₆
    walk_at "nf"
    refine wpAny_pyIter_gen (g := s.gens.size) ⟨oa, nm, qn, hoa, ha1, ha2, ha3⟩ ?_
    have hLC : s.heap.objs.size < h₅.objs.size := F₅.ns.lt
    have F₆ : Fr s.heap s.heap.objs.size h₆ m₅ := Fr.keeps' F₅ hk₆
    have N₆ : News s.heap s.heap.objs.size h₆ ([(D, lstO #[] 0)] ++ [(h₅.objs.size + 1, oa), (h₅.objs.size, oC₆)]) := fun p hp => by
      rcases List.mem_append.mp hp with hp | hp
      · exact News.keeps' N₅ hk₆ p hp
      · rcases List.mem_cons.mp hp with rfl | hp
        · exact ⟨hoa, by show h₅.objs.size + 1 ≠ _; omega, fresh_at (by show _ ≤ h₅.objs.size + 1; omega)⟩
        · rw [List.mem_singleton.mp hp]
          exact ⟨hC₆, by show h₅.objs.size ≠ _; omega, fresh_at (by show _ ≤ h₅.objs.size; omega)⟩
    have hlen : (itemsF 0 x.cps.toList).length ≤ x.cps.size := by rw [← Array.length_toList]; exact (itemsF_pos _ 0 x.cps.toList (Nat.le_refl _)).2
    have hpos : ∀ p ∈ itemsF 0 x.cps.toList, p.1 < x.cps.size := fun p hp => by
      have := (itemsF_pos _ 0 x.cps.toList (Nat.le_refl _)).1 p hp
      rw [Array.length_toList] at this; omega
    refine forG (s := s) (C := h₅.objs.size) (its := itemsF 0 x.cps.toList) rfl (by show d + 1 < _; omega) T.nolimit (Nat.ne_of_gt hLC) (fresh_at (Nat.le_of_lt hLC)) rfl F₆ N₆ ⟨nm, qn, ha1, ha2, ha3⟩ hCd₆ (by simp) (hGo₆ _ rfl)
      (fun hb => AllBare.push hb hba₆) (fun j m news => ∃ ys ne st, SI x t D j m news ys ne st) ?_ ?_ ?_ ?_
    · rintro j m news ⟨ys, ne, st, I⟩ p hp
      rw [I.own] at hp
      rw [List.mem_singleton.mp hp]
      exact ⟨ys, ne, rfl⟩
    · exact ⟨#[], 0, ⟨0, none, []⟩, rfl, rfl, q1, q2, q3, ⟨0, q4⟩, .nil, Nat.zero_le _, (fun _ h => nomatch h), Nat.le_refl _, (fun _ h => nomatch h)⟩
    · rintro j item u1 u2 m news gw h tk gns hit ⟨ys, ne, st, I⟩ F N hgw hbare
      have hrun := take_snocG _ j item hit
      have hrun' : ((itemsF 0 x.cps.toList).take (j + 1)).foldl (sqStep x.cps.toList) ⟨0, none, []⟩ = sqStep x.cps.toList st item := by
        rw [hrun, List.foldl_append, I.run]; rfl
      have hip : item.1 < x.cps.size := hpos item (List.mem_of_getElem? hit)
      have hjlt : j < (itemsF 0 x.cps.toList).length := (List.getElem?_eq_some_iff.mp hit).1
      obtain ⟨us, hus⟩ := I.start
      obtain ⟨uo, huo⟩ := I.op
      rw [I.own] at N
      have hDr : ∀ p ∈ gw, p.1 ≠ D := fun p hp e => by
        have h1 := (N p (List.mem_append_right _ hp)).1
        have h2 := (N _ (List.mem_append_left _ (.head _))).1
        rw [e, h2] at h1
        injection h1 with h1
        exact hgw p hp ys ne (by rw [← h1])
      have hys : ys.size ≤ sizeLine := by
        have := I.texts.len_eq
        rw [Array.length_toList, List.length_map] at this
        have := I.count
        rw [sizeLine_eq]; omega
      obtain ⟨m', F, p1, p2, p3, p4, p5, p6⟩ : ∃ m', Fr s.heap s.heap.objs.size h m' ∧ m' (Str.ofString "addr") = some (.str x t) ∧ m' (Str.ofString "result") = some (.ref D) ∧ m' (Str.ofString "start") = some (.int (st.start : Int) us) ∧ m' (Str.ofString "open_pos") = some (opV uo st.op) ∧
          m' (Str.ofString "ch") = some (.str ⟨item.2.toArray⟩ u2) ∧ m' (Str.ofString "pos") = some (.int (item.1 : Int) u1) := ⟨_, F, I.addr, I.result, hus, huo, rfl, rfl⟩
      refine wpAny_execs_cons (wpAny_If (wpAny_isTrue_Compare1 (ld F p5 (Constant_str (eq_str (wpAny_truthy_bool ?_))))))
      have hqq : ((⟨item.2.toArray⟩ : Str) == Str.ofString "\"") = decide (item.2 = [34]) := by
        rw [qt_str]
        by_cases h : item.2 = [34]
        · rw [h]; decide
        · rw [decide_eq_false h, beq_eq_false_iff_ne]
          intro e
          injection e with e
          exact h (by simpa using congrArg Array.toList e)
      rw [hqq]
      by_cases h34 : item.2 = [34]
      · rw [if_pos (by simpa using h34)]
        refine wpAny_execs_cons (wpAny_If (wpAny_isTrue_Compare1 (ld F p4 (wpAny_Constant_none ?_))))
        cases hop : st.op with
        | none =>
          rw [hop] at p4
          refine is_none_none (wpAny_truthy_bool ?_)
          rw [if_pos rfl]
          refine wpAny_execs_cons (wpAny_Assign_Name (ld F p6 (stN F N ?_)))
          intro h₇ F₇ N₇
          walk_at "nf"
          repeat refine wpAny_execs_nil ?_
          refine ⟨h₇, _, _, _, rfl, F₇, N₇, ys, ne, ⟨st.start, some item.1, st.res⟩, ?_, rfl, p1, p2, ⟨us, p3⟩, ⟨u1, rfl⟩, I.texts, I.startLe, ?_, Nat.le_succ_of_le I.count, I.each⟩
          · rw [hrun']; unfold sqStep; rw [if_pos h34, hop]
          · intro o ho; injection ho with ho; omega
        | some o =>
          rw [hop] at p4
          refine is_int_none (wpAny_truthy_bool ?_)
          rw [if_neg (by decide)]
          have ho := I.opLt o hop
          refine wpAny_execs_cons (wpAny_If (wpAny_isTrue_Compare1 (ld F p3 (ld F p4 (ne_int (wpAny_truthy_bool ?_))))))
          have hst' : sqStep x.cps.toList st item = ⟨item.1 + 1, none, if st.start ≠ o then st.res ++ [(x.cps.toList.take o).drop st.start] else st.res⟩ := by
            unfold sqStep; rw [if_pos h34, hop]
          by_cases hne : st.start ≠ o
          case' pos =>
            rw [if_pos (by simp; omega)]
            refine wpAny_execs_cons (wpAny_Expr (MethodCall_ (ld F p2 ?_)))
            refine getAppend (rest := gw) N (callWith_method1 (spliced_more (Subscript_ (ld F p1 ?_))))
            refine wpAny_Slice (evalPart_some_step (ld F p3 (evalPart_some_step (ld F p4 (evalPart_none_step ?_)))))
            refine slice_strN_ss (s := ⟨_, _, _, _, _⟩) F N ?_ (hsz := hsl)
            intro h₇ u₇ tk₇ F₇ N₇
            rw [slice_any x st.start o (by omega) I.startLe]
            refine spliced_none (app_step (rest := gw) F₇ N₇ hDr hys ?_)
            intro h₈ ne₈ F₈ N₈
            walk_at "nf"
            refine wpAny_execs_nil ?_
            have key : ∃ (ys' : Array Value) (ne' : Nat) (res' : List (List Nat)), Fr s.heap s.heap.objs.size h₈ m' ∧ News s.heap s.heap.objs.size h₈ ([(D, lstO ys' ne')] ++ gw) ∧ (if st.start ≠ o then st.res ++ [(x.cps.toList.take o).drop st.start] else st.res) = res' ∧
                StrsAre ys'.toList (res'.map mkS) ∧ res'.length ≤ j + 1 ∧ (∀ r ∈ res', r.length ≤ x.cps.size) := by
              refine ⟨_, ne₈, st.res ++ [(x.cps.toList.take o).drop st.start], F₈, N₈, if_pos hne, ?_, by have := I.count; simp; omega, fun r hr => ?_⟩
              · rw [Array.toList_push, List.map_append]; exact StrsAre.snoc I.texts _ _
              · rcases List.mem_append.mp hr with hr | hr
                · exact I.each r hr
                · rw [List.mem_singleton.mp hr, List.length_drop, List.length_take, Array.length_toList]; omega
          case' neg =>
            rw [if_neg (by simp; omega)]
            refine wpAny_execs_nil ?_
            have key : ∃ (ys' : Array Value) (ne' : Nat) (res' : List (List Nat)), Fr s.heap s.heap.objs.size h m' ∧ News s.heap s.heap.objs.size h ([(D, lstO ys' ne')] ++ gw) ∧ (if st.start ≠ o then st.res ++ [(x.cps.toList.take o).drop st.start] else st.res) = res' ∧
                StrsAre ys'.toList (res'.map mkS) ∧ res'.length ≤ j + 1 ∧ (∀ r ∈ res', r.length ≤ x.cps.size) :=
              ⟨ys, ne, st.res, F, N, if_neg hne, I.texts, Nat.le_succ_of_le I.count, I.each⟩
          all_goals
            obtain ⟨ys', ne', res', F', N', hres, hS', hc', he'⟩ := key
            refine wpAny_execs_cons (wpAny_Assign_Name (wpAny_BinOp (ld F' p6 (wpAny_Constant_int (add_int (stN (s := ⟨_, _, _, _, _⟩) F' N' ?_))))))
            intro h₉ F₉ N₉
            walk_at "nf"
            refine wpAny_execs_cons (wpAny_Assign_Name (wpAny_Constant_none (stN (s := ⟨_, _, _, _, _⟩) F₉ N₉ ?_)))
            intro h₁₀ F₁₀ N₁₀
            walk_at "nf"
            repeat refine wpAny_execs_nil ?_
            refine ⟨h₁₀, _, _, _, rfl, F₁₀, N₁₀, ys', ne', ⟨item.1 + 1, none, res'⟩, ?_, rfl, p1, p2, ⟨_, rfl⟩, ⟨0, rfl⟩, hS', by show item.1 + 1 ≤ _; omega, (fun _ h => nomatch h), hc', he'⟩
            rw [hrun', hst', hres]
      · rw [if_neg (by simpa using h34)]
        repeat refine wpAny_execs_nil ?_
        refine ⟨h, _, _, _, rfl, F, N, ys, ne, st, ?_, rfl, p1, p2, ⟨us, p3⟩, ⟨uo, p4⟩, I.texts, I.startLe, I.opLt, Nat.le_succ_of_le I.count, I.each⟩
        rw [hrun']; unfold sqStep; rw [if_neg h34]
    · rintro m news h tk gns ⟨ys, ne, st, I⟩ F N hbare
      have hrun := I.run
      rw [List.take_length] at hrun
      rw [I.own] at N
      obtain ⟨us, hus⟩ := I.start
      walk_at "nf"
      have hys : ys.size = st.res.length := by
        have := I.texts.len_eq
        rw [Array.length_toList, List.length_map] at this
        exact this
      have hcnt := I.count
      refine wpAny_execs_cons (wpAny_If (wpAny_isTrue_Compare1 (ld F hus ?_)))
      refine Call_ (name_B F KX TR (z_len w) b_len (by decide) ?_)
      refine callWith_builtin1 (spliced_more (ld F I.addr (spliced_none ?_)))
      refine len_str (by show ¬ ((x.cps.size : Int) ≥ 2 ^ 63); omega) ?_
      refine lt_int (wpAny_truthy_bool ?_)
      have hst : stripT x.cps.toList = (if st.start < x.cps.toList.length then st.res ++ [x.cps.toList.drop st.start] else st.res).flatten := by
        unfold stripT sqEnd; rw [hrun]
      by_cases hlt : st.start < x.cps.size
      case' pos =>
        rw [if_pos (by show decide ((st.start : Int) < (x.cps.size : Int)) = true; rw [decide_eq_true_iff]; omega)]
        refine wpAny_execs_cons (wpAny_Expr (MethodCall_ (ld F I.result ?_)))
        refine getAppend (rest := []) N (callWith_method1 (spliced_more (Subscript_ (ld F I.addr ?_))))
        refine wpAny_Slice (evalPart_some_step (ld F hus (evalPart_none_step (evalPart_none_step ?_))))
        refine slice_strN_sn (s := ⟨_, _, _, _, _⟩) F N ?_ (hsz := hsl)
        intro h₇ u₇ tk₇ F₇ N₇
        rw [slice_from' x st.start I.startLe]
        refine spliced_none (app_step (rest := []) F₇ N₇ (fun _ h => nomatch h) (by rw [sizeLine_eq]; omega) ?_)
        intro h₈ ne₈ F₈ N₈
        walk_at "nf"
        refine wpAny_execs_nil ?_
        have key : ∃ (ys' : Array Value) (ne' : Nat) (res' : List (List Nat)), Fr s.heap s.heap.objs.size h₈ m ∧ News s.heap s.heap.objs.size h₈ [(D, lstO ys' ne')] ∧ stripT x.cps.toList = res'.flatten ∧
            StrsAre ys'.toList (res'.map mkS) ∧ res'.length ≤ 901 ∧ (∀ r ∈ res', r.length ≤ x.cps.size) := by
          refine ⟨_, ne₈, st.res ++ [x.cps.toList.drop st.start], F₈, N₈, by rw [hst, if_pos (by rw [Array.length_toList]; exact hlt)], ?_, by simp; omega, fun r hr => ?_⟩
          · rw [Array.toList_push, List.map_append]; exact StrsAre.snoc I.texts _ _
          · rcases List.mem_append.mp hr with hr | hr
            · exact I.each r hr
            · rw [List.mem_singleton.mp hr, List.length_drop, Array.length_toList]; omega
      case' neg =>
        rw [if_neg (by show ¬ decide ((st.start : Int) < (x.cps.size : Int)) = true; rw [decide_eq_true_iff]; omega)]
        refine wpAny_execs_nil ?_
        have key : ∃ (ys' : Array Value) (ne' : Nat) (res' : List (List Nat)), Fr s.heap s.heap.objs.size h m ∧ News s.heap s.heap.objs.size h [(D, lstO ys' ne')] ∧ stripT x.cps.toList = res'.flatten ∧
            StrsAre ys'.toList (res'.map mkS) ∧ res'.length ≤ 901 ∧ (∀ r ∈ res', r.length ≤ x.cps.size) :=
          ⟨ys, ne, st.res, F, N, by rw [hst, if_neg (by rw [Array.length_toList]; exact hlt)], I.texts, by omega, I.each⟩
      all_goals
        obtain ⟨ys', ne', res', F', N', hres, hS', hc', he'⟩ := key
        refine wpAny_execs_cons (wpAny_Return_some (MethodCall_ (Constant_str (GM.join (callWith_method1 (spliced_more (ld F' I.result (spliced_none ?_))))))))
        have hwt : ((res'.map mkS).map (·.length)).sum + (res'.map mkS).length ≤ 1048576 := by
          have h1 := sum_le res' x.cps.size he'
          have h2 : res'.length * x.cps.size ≤ 901 * 900 := Nat.mul_le_mul hc' hsz
          rw [List.length_map]; omega
        refine join_listW (ys := res'.map mkS) ⟨_, (N' _ (.head _)).1, rfl, _, rfl⟩ hS' (by rw [empty_eq]; decide) hwt ?_
        intro t' k'
        rw [empty_eq, join_empty, cat_mk, ← hres]
        exact hR _ _ ⟨_, _, gns, rfl, hbare, F'.keep⟩
end Mine

end

/- part Check -/
section
open PySem PySem.W PySem.Calls PyProof.Rows
set_option maxRecDepth 100000
set_option maxHeartbeats 8000000
namespace Mine
local macro_rules | `(tactic| walk_at "nf") => `(tactic| try dsimp only at *)

theorem mk_beq (l : List Nat) (c : Nat) : ((⟨l.toArray⟩ : Str) == ⟨#[c]⟩) = decide (l = [c]) := by
  by_cases h : l = [c]
  · rw [h]; simp
  · rw [decide_eq_false h, beq_eq_false_iff_ne]
    intro e
    injection e with e
    exact h (by simpa using congrArg Array.toList e)

theorem check_spec {w : World} {d : Nat} {fr gu un} {s : Shared} {x : Str} {t : Tok} {mean mg mb} (KX : (Kf w).In s.heap) (T : TopH mean mg mb s.heap)
   (hsz : x.cps.size ≤ 900) (hroom : d + 2 < recursionLimit) {R : Result → Shared → Prop} (hR : ∀ s', KeepsG s s' → R (.ok (.ret (.bool (checkT (stripT x.cps.toList))))) s') :
   codeAny (MM w) ⟨none, d, fr, gu, un⟩ (.call (.ref 52) ⟨[.str x t], []⟩) R s := by
  refine call_plain_ret (binds := [(Str.ofString "addr", .str x t)]) (by show d < _; omega) (KX 52 _ rfl) rfl T.nolimit ⟨51, _, _, _, rfl, KX 51 _ rfl, rfl, rfl⟩ rfl (locs rfl) ?_
  intro h₁ F
  have TR := topRead_of T
  have N := News.nil (h₀ := s.heap) (L := s.heap.objs.size) (h := h₁)
  refine wpAny_execs_cons (wpAny_Assign_Name (Call_ (name_K F KX TR (n_strip w) ?_)))
  refine callWith_K KX (by kernel_rfl) (spliced_more (ld F rfl (spliced_none ⟨KX.keeps F.keep, wpAny_call ?_⟩)))
  refine strip_spec (KX.keeps F.keep) (T.keeps F.keep) hsz (by show d + 1 + 1 < _; omega) ?_
  rintro _ tk₂ ⟨h₂, tk₂', gns₂, rfl, hb₂, hk₂⟩
  walk_at "nf"
  have F₂ := Fr.keeps' F hk₂
  have N₂ := News.keeps' N hk₂
  generalize hy : stripT x.cps.toList = y at *
  refine stN F₂ N₂ ?_
  intro h₃ F₃ N₃
  walk_at "nf"
  refine wpAny_execs_cons (wpAny_Assign_Name (wpAny_Constant_int (stN (s := ⟨_, _, _, _, _⟩) F₃ N₃ ?_)))
  intro h₅ F₅ N₅
  walk_at "nf"
  obtain ⟨m₅, F₅, q1, q2⟩ : ∃ m₅, Fr s.heap s.heap.objs.size h₅ m₅ ∧ m₅ (Str.ofString "addr") = some (.str (mkS y) tk₂) ∧ (∃ u, m₅ (Str.ofString "opens") = some (.int 0 u)) := ⟨_, F₅, rfl, ⟨_, rfl⟩⟩
  clear F N F₂ N₂ F₃ N₃
  refine wpAny_execs_cons (wpAny_For (Call_ (name_K F₅ KX TR (n_iter w) ?_)))
  refine callWith_K KX (by kernel_rfl) (spliced_more (ld F₅ q1 (spliced_none ⟨KX.keeps F₅.keep, wpAny_call ?_⟩)))
  refine iter_spec KX T F₅.keep (Nat.le_of_lt F₅.ns.lt) (by show d + 1 < _; omega) ?_
  intro h₆ tk₆ gs₆ oC₆ hba₆ hk₆ hC₆ hCd₆ hg₆ hGo₆
  obtain ⟨oa, nm, qn, hoa, ha1, ha2, ha3⟩ := hg₆
  walk_at "nf"
  refine wpAny_pyIter_gen (g := gns₂.size) ⟨oa, nm, qn, hoa, ha1, ha2, ha3⟩ ?_
  have hLC : s.heap.objs.size < h₅.objs.size := F₅.ns.lt
  have F₆ : Fr s.heap s.heap.objs.size h₆ m₅ := Fr.keeps' F₅ hk₆
  have N₆ : News s.heap s.heap.objs.size h₆ ([] ++ [(h₅.objs.size + 1, oa), (h₅.objs.size, oC₆)]) := fun p hp => by
    rcases List.mem_cons.mp hp with rfl | hp
    · exact ⟨hoa, by show h₅.objs.size + 1 ≠ _; omega, fresh_at (by show _ ≤ h₅.objs.size + 1; omega)⟩
    · rw [List.mem_singleton.mp hp]
      exact ⟨hC₆, by show h₅.objs.size ≠ _; omega, fresh_at (by show _ ≤ h₅.objs.size; omega)⟩
  refine forG (s := s) (C := h₅.objs.size) (its := itemsF 0 y) rfl (by show d + 1 < _; omega) T.nolimit (Nat.ne_of_gt hLC) (fresh_at (Nat.le_of_lt hLC)) rfl F₆ N₆ ⟨nm, qn, ha1, ha2, ha3⟩ hCd₆ (by simp) (hGo₆ _ rfl)
    (fun hb => AllBare.push (hb₂ hb) hba₆) (fun j m news => news = [] ∧ ∃ o u, m (Str.ofString "opens") = some (.int o u) ∧ checkT y = ckF o ((itemsF 0 y).drop j)) ?_ ?_ ?_ ?_
  · rintro j m news ⟨rfl, _⟩ p hp
    cases hp
  · obtain ⟨u, q2⟩ := q2
    exact ⟨rfl, 0, u, q2, rfl⟩
  · rintro j item u1 u2 m news gw h tk gns hit ⟨rfl, o, u, ho, hck⟩ F N hgw hbare
    have hjlt : j < (itemsF 0 y).length := (List.getElem?_eq_some_iff.mp hit).1
    have hdr : (itemsF 0 y).drop j = item :: (itemsF 0 y).drop (j + 1) := by
      rw [List.drop_eq_getElem_cons hjlt]
      rw [List.getElem?_eq_getElem hjlt] at hit
      injection hit with hit
      rw [hit]
    rw [hdr, ckF] at hck
    obtain ⟨m', F, p1, p2⟩ : ∃ m', Fr s.heap s.heap.objs.size h m' ∧ m' (Str.ofString "ch") = some (.str ⟨item.2.toArray⟩ u2) ∧ m' (Str.ofString "opens") = some (.int o u) := ⟨_, F, rfl, ho⟩
    refine wpAny_execs_cons (wpAny_If (wpAny_isTrue_Compare1 (ld F p1 (Constant_str (eq_str (wpAny_truthy_bool ?_))))))
    have e40 : ((⟨item.2.toArray⟩ : Str) == Str.ofString "(") = decide (item.2 = [40]) := by rw [op_str, mk_beq]
    have e41 : ((⟨item.2.toArray⟩ : Str) == Str.ofString ")") = decide (item.2 = [41]) := by rw [cl_str, mk_beq]
    rw [e40]
    by_cases h40 : item.2 = [40]
    · rw [if_pos (by simpa using h40)]
      rw [if_pos h40] at hck
      refine wpAny_execs_cons (wpAny_AugAssign_Name (ldn F p2 (wpAny_Constant_int (PyProof.Rows.iadd_int ?_))))
      refine stN (s := ⟨_, _, _, _, _⟩) F N ?_
      intro h₇ F₇ N₇
      walk_at "nf"
      repeat refine wpAny_execs_nil ?_
      exact ⟨h₇, _, _, [], rfl, F₇, N₇, rfl, o + 1, _, rfl, hck⟩
    · rw [if_neg (by simpa using h40)]
      rw [if_neg h40] at hck
      refine wpAny_execs_cons (wpAny_If (wpAny_isTrue_Compare1 (ld F p1 (Constant_str (eq_str (wpAny_truthy_bool ?_))))))
      rw [e41]
      by_cases h41 : item.2 = [41]
      · rw [if_pos (by simpa using h41)]
        rw [if_pos h41] at hck
        refine wpAny_execs_cons (wpAny_AugAssign_Name (ldn F p2 (wpAny_Constant_int (isub_int ?_))))
        refine stN (s := ⟨_, _, _, _, _⟩) F N ?_
        intro h₇ F₇ N₇
        walk_at "nf"
        refine wpAny_execs_cons (wpAny_If (wpAny_isTrue_Compare1 (ld F₇ rfl ?_)))
        refine wpAny_Constant_int (lt_int (wpAny_truthy_bool ?_))
        by_cases hneg : o - 1 < 0
        · rw [if_pos (by simpa using hneg)]
          rw [if_pos hneg] at hck
          refine wpAny_execs_cons (wpAny_Return_some (wpAny_Constant_bool ?_))
          rw [hck] at hR
          exact hR _ ⟨h₇, _, gns, rfl, hbare, F₇.keep⟩
        · rw [if_neg (by simpa using hneg)]
          rw [if_neg hneg] at hck
          repeat refine wpAny_execs_nil ?_
          exact ⟨h₇, _, _, [], rfl, F₇, N₇, rfl, o - 1, _, rfl, hck⟩
      · rw [if_neg (by simpa using h41)]
        rw [if_neg h41] at hck
        repeat refine wpAny_execs_nil ?_
        exact ⟨h, _, _, [], rfl, F, N, rfl, o, _, p2, hck⟩
  · rintro m news h tk gns ⟨rfl, o, u, ho, hck⟩ F N hbare
    walk_at "nf"
    rw [List.drop_length, ckF] at hck
    refine wpAny_execs_cons (wpAny_Return_some (wpAny_Compare1 (ld F ho ?_)))
    refine wpAny_Constant_int (eq_int ?_)
    rw [hck] at hR
    exact hR _ ⟨h, _, gns, rfl, hbare, F.keep⟩
end Mine

end

/- part Pre -/
section
open PySem PySem.W PySem.Calls PyProof.Rows
set_option maxRecDepth 100000
set_option maxHeartbeats 8000000
namespace Mine
local macro_rules | `(tactic| walk_at "nf") => `(tactic| try dsimp only at *)

def nilS : Str := Str.ofString "('', '')"
def preS (x : Str) : Str := if checkT (stripT x.cps.toList) = true then x else nilS

theorem pre_spec {w : World} {d : Nat} {fr gu un} {s : Shared} {l : Addr} {vals : Array Value} {xs : List Str} {mean mg mb} (KX : (Kf w).In s.heap) (T : TopH mean mg mb s.heap)
   (hl : s.heap.IsList l vals) (hxs : StrsAre vals.toList xs) (hsz : ∀ x ∈ xs, x.cps.size ≤ 900) (hlen : xs.length ≤ 1000) (hroom : d + 3 < recursionLimit) {R : Result → Shared → Prop}
   (hR : ∀ s' D ys, KeepsG s s' → s.heap.get? D = none → s'.heap.PlainList D ys → StrsAre ys.toList (xs.map preS) → R (.ok (.ret (.ref D))) s') :
   codeAny (MM w) ⟨none, d, fr, gu, un⟩ (.call (.ref 59) ⟨[.ref l], []⟩) R s := by
  refine call_plain_ret (binds := [(Str.ofString "email_header_fields", .ref l)]) (by show d < _; omega) (KX 59 _ rfl) rfl T.nolimit ⟨58, _, _, _, rfl, KX 58 _ rfl, rfl, rfl⟩ rfl (locs rfl) ?_
  intro h₁ F
  have TR := topRead_of T
  have N := News.nil (h₀ := s.heap) (L := s.heap.objs.size) (h := h₁)
  have hvs : vals.size = xs.length := by rw [← Array.length_toList]; exact hxs.len_eq
  refine wpAny_execs_cons (wpAny_Assign_Name (List_ (spliced_none ?_)))
  refine newList_N' F N ?_ (by rw [sizeLine_eq]; simp)
  intro D h₂ _ F₂ N₂ _
  walk_at "nf"
  refine stN F₂ N₂ ?_
  intro h₃ F₃ N₃
  walk_at "nf"
  refine wpAny_execs_cons (wpAny_For (ld F₃ rfl (list_iter F₃ N₃ (Fr.lst F₃ hl) ?_)))
  intro I h₄ oI₀ hoI₀ F₄ N₄ hIL hIb hIn hlI _ _
  have hDI : D ≠ I := hIn _ (.head _)
  walk_at "nf"
  obtain ⟨m₄, F₄, q1⟩ : ∃ m₄, Fr s.heap s.heap.objs.size h₄ m₄ ∧ m₄ (Str.ofString "accepted_values") = some (.ref D) := ⟨_, F₄, rfl⟩
  clear F N F₂ N₂ F₃ N₃
  refine forW (Walks.list (A := Around.deeper ⟨none, d, fr, gu, un⟩ _) rfl I l hlI vals) (fun i s' => ∃ h tk gns m ys ne oI, s' = { s with heap := h, toks := tk, gens := gns } ∧ Fr s.heap s.heap.objs.size h m ∧
      News s.heap s.heap.objs.size h [(D, lstO ys ne), (I, oI)] ∧ LIt l i oI ∧ m (Str.ofString "accepted_values") = some (.ref D) ∧ StrsAre ys.toList ((xs.take i).map preS) ∧ (AllBare s.gens → AllBare gns)) ?_ ?_ ?_ ?_
  · rintro i _ ⟨h, tk, gns, m, ys, ne, oI, rfl, F, N, ho, _⟩
    exact ⟨⟨oI, N.get (.tail _ (.head _)), ho⟩, Fr.lst F hl⟩
  · rintro i _ v h' tk' hlt ⟨h, tk, gns, m, ys, ne, oI, rfl, F, N, ho, hm, hS, hbare⟩ hv ⟨⟨oI', hoI', ho'⟩, _⟩ hk
    have F' := Fr.walked F hk (by simpa using Ne.symm hIL) (by simpa using hIb)
    have N' : News s.heap s.heap.objs.size h' [(D, lstO ys ne), (I, oI')] := by
      intro p hp
      rcases List.mem_cons.mp hp with rfl | hp
      · exact ⟨hk _ _ (by simpa using hDI) (N _ (.head _)).1, (N _ (.head _)).2⟩
      · rw [List.mem_singleton.mp hp]
        exact ⟨hoI', hIL, hIb⟩
    clear F N hk
    obtain ⟨y, ty, hy, rfl⟩ := strs_get hxs i v (by rw [Array.getElem?_toList]; exact hv)
    have htk : (xs.take (i + 1)).map preS = (xs.take i).map preS ++ [preS y] := by rw [take_snocG _ _ _ hy, List.map_append]; rfl
    have hyz := hsz y (List.mem_of_getElem? hy)
    have hys : ys.size ≤ sizeLine := by
      have := hS.len_eq
      rw [Array.length_toList, List.length_map, List.length_take] at this
      rw [sizeLine_eq]; omega
    have hDr : ∀ p ∈ [(I, oI')], p.1 ≠ D := fun p hp => by rw [List.mem_singleton.mp hp]; exact Ne.symm hDI
    walk_at "nf"
    refine stN F' N' ?_
    intro h₅ F₅ N₅
    walk_at "nf"
    obtain ⟨m₅, F₅, p1, p2⟩ : ∃ m₅, Fr s.heap s.heap.objs.size h₅ m₅ ∧ m₅ (Str.ofString "v") = some (.str y ty) ∧ m₅ (Str.ofString "accepted_values") = some (.ref D) := ⟨_, F₅, rfl, hm⟩
    refine wpAny_execs_cons (wpAny_If (isTrue_not (isTrue_plain (Call_ (name_K F₅ KX TR (n_check w) ?_)))))
    refine callWith_K KX (by kernel_rfl) (spliced_more (ld F₅ p1 (spliced_none ⟨KX.keeps F₅.keep, wpAny_call ?_⟩)))
    refine check_spec (KX.keeps F₅.keep) (T.keeps F₅.keep) hyz (by show d + 1 + 2 < _; omega) ?_
    rintro _ ⟨h₆, tk₆, gns₆, rfl, hb₆, hk₆⟩
    walk_at "nf"
    have F₆ := Fr.keeps' F₅ hk₆
    have N₆ := News.keeps' N₅ hk₆
    refine wpAny_truthy_bool ?_
    have hbare₆ : AllBare s.gens → AllBare gns₆ := fun hb => hb₆ (hbare hb)
    cases hc : checkT (stripT y.cps.toList) with
    | false =>
      rw [if_pos (by decide)]
      refine wpAny_execs_cons (wpAny_Assign_Name (Constant_str (stN (s := ⟨_, _, _, _, _⟩) F₆ N₆ ?_)))
      intro h₇ F₇ N₇
      walk_at "nf"
      refine wpAny_execs_nil ?_
      refine wpAny_execs_cons (wpAny_Expr (MethodCall_ (ld F₇ p2 ?_)))
      refine getAppend N₇ (callWith_method1 (spliced_more (ld F₇ rfl ?_)))
      refine spliced_none (app_step F₇ N₇ hDr hys ?_)
      intro h₈ ne₈ F₈ N₈
      walk_at "nf"
      repeat refine wpAny_execs_nil ?_
      refine ⟨h₈, _, gns₆, _, _, ne₈, oI', rfl, F₈, N₈, ho', p2, ?_, hbare₆⟩
      rw [htk, Array.toList_push]
      have : preS y = nilS := by unfold preS; rw [hc, if_neg (by decide)]
      rw [this]
      exact StrsAre.snoc hS _ _
    | true =>
      rw [if_neg (by decide)]
      refine wpAny_execs_nil ?_
      refine wpAny_execs_cons (wpAny_Expr (MethodCall_ (ld F₆ p2 ?_)))
      refine getAppend N₆ (callWith_method1 (spliced_more (ld F₆ p1 ?_)))
      refine spliced_none (app_step F₆ N₆ hDr hys ?_)
      intro h₈ ne₈ F₈ N₈
      walk_at "nf"
      repeat refine wpAny_execs_nil ?_
      refine ⟨h₈, _, gns₆, _, _, ne₈, oI', rfl, F₈, N₈, ho', p2, ?_, hbare₆⟩
      rw [htk, Array.toList_push]
      have : preS y = y := by unfold preS; rw [hc, if_pos rfl]
      rw [this]
      exact StrsAre.snoc hS _ _
  · rintro _ h' tk' ⟨h, tk, gns, m, ys, ne, oI, rfl, F, N, ho, hm, hS, hbare⟩ hk
    have F' := Fr.walked F hk (by simpa using Ne.symm hIL) (by simpa using hIb)
    have hD : h'.get? D = some (lstO ys ne) := hk _ _ (by simpa using hDI) (N _ (.head _)).1
    walk_at "nf"
    refine wpAny_execs_cons (wpAny_Return_some (ld F' hm ?_))
    rw [hvs, List.take_length] at hS
    exact hR _ D ys ⟨h', _, gns, rfl, hbare, F'.keep⟩ (N _ (.head _)).2.2 ⟨ne, hD⟩ hS
  · exact ⟨h₄, _, _, m₄, #[], 0, oI₀, rfl, F₄, News.swap N₄, hoI₀, q1, .nil, fun h => h⟩
end Mine

end

/- part LawA -/
section
open PySem PySem.W PySem.Calls PyProof.Rows PySem.SeqAt
set_option maxRecDepth 100000
set_option maxHeartbeats 8000000
namespace Mine
local macro_rules | `(tactic| walk_at "nf") => `(tactic| try dsimp only at *)

section
variable {prog : Program} {w : World} {A : Around} {E : Value → Shared → Prop} {s : Shared}
theorem eqAt_str {B : Around} (x : Str) (t u : Tok) : EqAt B s (.str x t) (.str x u) true := by
  have := EqAt.str_str (A := B) (s := s) x t x u
  rwa [beq_self_eq_true] at this
theorem ne_strs {a b : Addr} {va vb : Array Value} {xs : List Str} {Q : Value → Shared → Prop} (ha : s.heap.IsList a va) (hb : s.heap.IsList b vb) (hxa : StrsAre va.toList xs) (hxb : StrsAre vb.toList xs) (hu : A.units < cLine)
    (h : Q (.bool false) s) : wpAny (model prog w) A (compareOp .NotEq (.ref a) (.ref b)) Q E s := by
  have e1 : va.size = xs.length := by rw [← Array.length_toList]; exact hxa.len_eq
  have e2 : vb.size = xs.length := by rw [← Array.length_toList]; exact hxb.len_eq
  have := RcNeAt.lists (A := A) (e := fun _ => true) ha hb (by omega) hu fun j h1 h2 => by
    obtain ⟨y, t, hy, hv⟩ := strs_get hxa j va[j] (by rw [Array.getElem?_toList]; exact Array.getElem?_eq_getElem h1)
    obtain ⟨y', t', hy', hv'⟩ := strs_get hxb j vb[j] (by rw [Array.getElem?_toList]; exact Array.getElem?_eq_getElem h2)
    rw [hy] at hy'
    cases hy'
    rw [hv, hv']
    exact eqAt_str y t t'
  have e : (!(List.range va.size).all fun _ => true) = false := by simp
  rw [e] at this
  exact this prog w E Q h
theorem ne_nns {a b : Addr} {x : Str} {ta tb : Tok} {Q : Value → Shared → Prop} (ha : IsTup s.heap a #[.none, .none, .str x ta]) (hb : IsTup s.heap b #[.none, .none, .str x tb]) (hu : A.units < cLine)
    (h : Q (.bool false) s) : wpAny (model prog w) A (compareOp .NotEq (.ref a) (.ref b)) Q E s := by
  have := RcNeAt.tuples (A := A) (e := fun _ => true) (l := a) (b := b) (items := #[.none, .none, .str x ta]) (items2 := #[.none, .none, .str x tb]) ha hb hu fun j h1 h2 => by
    match j, h1, h2 with
    | 0, _, _ => exact EqAt.same _
    | 1, _, _ => exact EqAt.same _
    | 2, _, _ => exact eqAt_str x ta tb
    | j + 3, h1, _ => exact absurd h1 (by simp)
  have e : (!((List.range (min (#[.none, .none, .str x ta] : Array Value).size (#[.none, .none, .str x tb] : Array Value).size)).all (fun _ => true) && (#[.none, .none, .str x ta] : Array Value).size == (#[.none, .none, .str x tb] : Array Value).size)) = false := by simp
  rw [e] at this
  exact this prog w E Q h
end

/- comprehensions over a list -/
section
variable {prog : Program} {w : World} {A : Around} {E : Value → Shared → Prop} {s : Shared} {h₀ : Heap} {L : Addr} {m : Str → Option Value} {news : List (Addr × Obj)} {env : Env}
theorem comp_assign {elt iter : Expr} {x y : Str} {px py : Pos} {scope : Scope} {pos spos : Pos} {Q : Flow → Shared → Prop} (F : Value → Value → Prop)
    (hsw : swapsWith (.ListComp elt [⟨.Name x px, iter, [], 0⟩] scope pos) (some (.Name y py)) spos.line env = pure true) (hL : env.locals = L)
    (hh : A.handled = none) (hclos : closureFor scope env = pure []) (hcell : ∀ z ∈ scope.names, z.2 ≠ .cell) (hkind : scope.kind = .function)
    (hnames : ∀ z ∈ scope.names, z.2 = .local → scope.names.lookup z.1 = some .local) (hx : scope.names.lookup x = some .local)
    (hy : env.kindOf y = some .local) (hp : (env.scope.kind == .class || (env.scope.kind == .module && env.locals != env.globals)) = false)
    (h : wpAny (model prog w) A (eval iter env) (fun xv s₁ => ∃ ax vs, xv = .ref ax ∧ s₁.heap.IsList ax vs ∧ vs.size ≤ sizeLine ∧ Fr h₀ L s₁.heap m ∧ News h₀ L s₁.heap news ∧
      (∀ C v s₂ m₂ E', v ∈ vs.toList → s₂.heap.Ns (compEnvC scope [] C env).locals m₂ → m₂ x = some v → (∀ b o, s₁.heap.get? b = some o → s₂.heap.get? b = some o) →
        wpAny (model prog w) A (eval elt (compEnvC scope [] C env)) (fun y s₃ => F v y ∧ Keeps s₂ s₃) E' s₂) ∧
      (∀ D ys ne h' tk, Fr h₀ L h' (fun z => if z = y then some (.ref D) else m z) → News h₀ L h' ((D, lstO ys ne) :: news) → (∀ p ∈ news, p.1 ≠ D) → Paired F vs.toList ys.toList → Q .next { s₁ with heap := h', toks := tk })) E s)
    (hs : ∀ x, foldedSetIterable iter env x = pure x) :
    wpAny (model prog w) A (exec (.Assign [.Name y py] (.ListComp elt [⟨.Name x px, iter, [], 0⟩] scope pos) spos) env) Q E s := by
  subst hL
  refine wpAny_Assign_ListComp_free (fun _ => true) F hsw hclos hcell hkind hnames hx hy hp (wpAny_mono h (fun xv s₁ h₁ => ?_) fun _ _ e => e) hs
  obtain ⟨ax, vs, rfl, hl, hsz, Fm, N, helt, hQ⟩ := h₁
  have hlt : ax < s₁.heap.objs.size := by obtain ⟨_, e, _⟩ := hl; exact Heap.lt_size e
  have up : ∀ (s₃ : Shared), (∀ b o, b ∉ [s₁.heap.objs.size] → (s₁.heap.push { cls := .type "list_iterator", data := .fields #[.ref ax, .int 0 0] }).get? b = some o → s₃.heap.get? b = some o) → ∀ b o, s₁.heap.get? b = some o → s₃.heap.get? b = some o :=
    fun s₃ hk b o e => hk b o (fun hm => Nat.lt_irrefl _ ((List.mem_singleton.mp hm) ▸ Heap.lt_size e)) (Heap.get?_push_of_some _ e)
  refine wpAny_pyIter_list hl ⟨s₁.heap.objs.size, [s₁.heap.objs.size, ax], [s₁.heap.objs.size], vs.size, _, _, m, rfl, Walks.list hh _ _ (Nat.ne_of_lt hlt) vs, hsz, ⟨⟨_, Heap.get?_push_size _ rfl, rfl, rfl⟩, hl.push _⟩, ?_, ?_, Fm.ns.push _, ⟨?_, ?_⟩, ?_⟩
  · intro b hb
    show b < (s₁.heap.push _).objs.size
    rw [Heap.size_push]
    rcases List.mem_cons.mp hb with rfl | hb
    · exact Nat.lt_succ_self _
    · rw [List.mem_singleton.mp hb]; exact Nat.lt_succ_of_lt hlt
  · intro hm
    exact Nat.lt_irrefl _ ((List.mem_singleton.mp hm) ▸ Fm.ns.lt)
  · intro C i v s₃ m₃ E' _ hP hn hm hk _
    exact wpAny_tests_nil ⟨rfl, s₃.heap, s₃.toks, rfl, fun _ _ e => e⟩
  · intro C i v s₃ m₃ E' _ hP hp' hn hm hk _
    exact helt C v s₃ m₃ E' (Array.mem_toList_iff.mpr (Array.mem_of_getElem? hP)) hn hm (up s₃ hk)
  · intro D h' tk ys vs' hnew hlD hpl hlen hP hF hn' hk
    have e : vs' = vs.toList := by simpa using list_of_places hlen hP
    subst e
    rw [filter_allG] at hF
    have keep : ∀ b o, b ≠ env.locals → s₁.heap.get? b = some o → h'.get? b = some o := fun b o hb e =>
      hk b o hb (fun hm => Nat.lt_irrefl _ ((List.mem_singleton.mp hm) ▸ Heap.lt_size e)) (Heap.get?_push_of_some _ e)
    obtain ⟨ne, hD⟩ := hpl
    have F' : Fr h₀ env.locals h' (fun z => if z = y then some (.ref D) else m z) := ⟨hn', fun b o e => keep b o (Nat.ne_of_lt (Nat.lt_of_lt_of_le (Heap.lt_size e) Fm.above)) (Fm.keep b o e), Fm.above⟩
    have hap : ∀ p ∈ news, p.1 ≠ D := fun p hp e => by rw [← e, Heap.get?_push_of_some _ (N p hp).1] at hnew; cases hnew
    refine hQ D ys ne h' tk F' (fun p hp => ?_) hap hF
    rcases List.mem_cons.mp hp with rfl | hp
    · refine ⟨hD, notFrame F' hD, ?_⟩
      cases e : h₀.get? D with
      | none => rfl
      | some o' => rw [Heap.get?_push_of_some _ (Fm.keep _ _ e)] at hnew; cases hnew
    · exact ⟨keep _ _ (N p hp).2.1 (N p hp).1, (N p hp).2⟩

theorem comp_eval {elt iter : Expr} {x : Str} {px : Pos} {scope : Scope} {pos : Pos} {Q : Value → Shared → Prop} (F : Value → Value → Prop)
    (hh : A.handled = none) (hclos : closureFor scope env = pure []) (hcell : ∀ z ∈ scope.names, z.2 ≠ .cell) (hkind : scope.kind = .function)
    (hnames : ∀ z ∈ scope.names, z.2 = .local → scope.names.lookup z.1 = some .local) (hx : scope.names.lookup x = some .local)
    (h : wpAny (model prog w) A (eval iter env) (fun xv s₁ => ∃ ax vs, xv = .ref ax ∧ s₁.heap.IsList ax vs ∧ vs.size ≤ sizeLine ∧ Fr h₀ L s₁.heap m ∧ News h₀ L s₁.heap news ∧
      (∀ C v s₂ m₂ E', v ∈ vs.toList → s₂.heap.Ns (compEnvC scope [] C env).locals m₂ → m₂ x = some v → (∀ b o, s₁.heap.get? b = some o → s₂.heap.get? b = some o) →
        wpAny (model prog w) A (eval elt (compEnvC scope [] C env)) (fun y s₃ => F v y ∧ Keeps s₂ s₃) E' s₂) ∧
      (∀ D ys ne h' tk, Fr h₀ L h' m → News h₀ L h' ((D, lstO ys ne) :: news) → (∀ p ∈ news, p.1 ≠ D) → Paired F vs.toList ys.toList → Q (.ref D) { s₁ with heap := h', toks := tk })) E s)
    (hs : ∀ x, foldedSetIterable iter env x = pure x) :
    wpAny (model prog w) A (eval (.ListComp elt [⟨.Name x px, iter, [], 0⟩] scope pos) env) Q E s := by
  refine wpAny_ListComp_free (fun _ => true) F hclos hcell hkind hnames hx (wpAny_mono h (fun xv s₁ h₁ => ?_) fun _ _ e => e) hs
  obtain ⟨ax, vs, rfl, hl, hsz, Fm, N, helt, hQ⟩ := h₁
  have hlt : ax < s₁.heap.objs.size := by obtain ⟨_, e, _⟩ := hl; exact Heap.lt_size e
  have up : ∀ (s₃ : Shared), (∀ b o, b ∉ [s₁.heap.objs.size] → (s₁.heap.push { cls := .type "list_iterator", data := .fields #[.ref ax, .int 0 0] }).get? b = some o → s₃.heap.get? b = some o) → ∀ b o, s₁.heap.get? b = some o → s₃.heap.get? b = some o :=
    fun s₃ hk b o e => hk b o (fun hm => Nat.lt_irrefl _ ((List.mem_singleton.mp hm) ▸ Heap.lt_size e)) (Heap.get?_push_of_some _ e)
  refine wpAny_pyIter_list hl ⟨s₁.heap.objs.size, [s₁.heap.objs.size, ax], [s₁.heap.objs.size], vs.size, _, _, rfl, Walks.list hh _ _ (Nat.ne_of_lt hlt) vs, hsz, ⟨⟨_, Heap.get?_push_size _ rfl, rfl, rfl⟩, hl.push _⟩, ?_, ⟨?_, ?_⟩, ?_⟩
  · intro b hb
    show b < (s₁.heap.push _).objs.size
    rw [Heap.size_push]
    rcases List.mem_cons.mp hb with rfl | hb
    · exact Nat.lt_succ_self _
    · rw [List.mem_singleton.mp hb]; exact Nat.lt_succ_of_lt hlt
  · intro C i v s₃ m₃ E' _ hP hn hm hk _
    exact wpAny_tests_nil ⟨rfl, s₃.heap, s₃.toks, rfl, fun _ _ e => e⟩
  · intro C i v s₃ m₃ E' _ hP hp' hn hm hk _
    exact helt C v s₃ m₃ E' (Array.mem_toList_iff.mpr (Array.mem_of_getElem? hP)) hn hm (up s₃ hk)
  · intro D h' tk ys vs' hnew hlD hpl hlen hP hF hk
    have e : vs' = vs.toList := by simpa using list_of_places hlen hP
    subst e
    rw [filter_allG] at hF
    have keep : ∀ b o, s₁.heap.get? b = some o → h'.get? b = some o := up { s₁ with heap := h' } hk
    obtain ⟨ne, hD⟩ := hpl
    have F' : Fr h₀ L h' m := Fr.keeps' Fm keep
    have hap : ∀ p ∈ news, p.1 ≠ D := fun p hp e => by rw [← e, Heap.get?_push_of_some _ (N p hp).1] at hnew; cases hnew
    refine hQ D ys ne h' tk F' (fun p hp => ?_) hap hF
    rcases List.mem_cons.mp hp with rfl | hp
    · refine ⟨hD, notFrame F' hD, ?_⟩
      cases e : h₀.get? D with
      | none => rfl
      | some o' => rw [Heap.get?_push_of_some _ (Fm.keep _ _ e)] at hnew; cases hnew
    · exact ⟨keep _ _ (N p hp).1, (N p hp).2⟩
end

/- the book -/
abbrev Ent := Str × Nat × Nat
def shownE (e : Ent) : Str := shownS e.1 e.2.1 e.2.2
def TupO (e : Ent) (o : Obj) : Prop := o.cls = .type "tuple" ∧ ∃ t0 t1 t2 n, o.data = .seq #[.str e.1 t0, .int (e.2.1 : Int) t1, .int (e.2.2 : Int) t2] n
def EntIs (tl : List (Addr × Obj)) (v : Value) (e : Ent) : Prop := ∃ a o, v = .ref a ∧ (a, o) ∈ tl ∧ TupO e o
inductive Ents (tl : List (Addr × Obj)) : List Value → List Ent → Prop
  | nil : Ents tl [] []
  | cons {v e vs es} : EntIs tl v e → Ents tl vs es → Ents tl (v :: vs) (e :: es)

theorem EntIs.mono {tl tl' : List (Addr × Obj)} (h : ∀ p ∈ tl, p ∈ tl') {v : Value} {e : Ent} (x : EntIs tl v e) : EntIs tl' v e := by
  obtain ⟨a, o, h1, h2, h3⟩ := x
  exact ⟨a, o, h1, h _ h2, h3⟩
section
variable {tl tl' : List (Addr × Obj)} {vs : List Value} {es : List Ent}
theorem Ents.mono (h : ∀ p ∈ tl, p ∈ tl') (x : Ents tl vs es) : Ents tl' vs es := by
  induction x with
  | nil => exact .nil
  | cons h1 _ ih => exact .cons (h1.mono h) ih
theorem Ents.len (x : Ents tl vs es) : vs.length = es.length := by
  induction x with
  | nil => rfl
  | cons _ _ ih => simp [ih]
theorem Ents.take (x : Ents tl vs es) : ∀ k, Ents tl (vs.take k) (es.take k) := by
  induction x with
  | nil => intro k; simp; exact .nil
  | cons h1 _ ih =>
    intro k
    cases k with
    | zero => exact .nil
    | succ k => exact .cons h1 (ih k)
theorem Ents.drop (x : Ents tl vs es) : ∀ k, Ents tl (vs.drop k) (es.drop k) := by
  induction x with
  | nil => intro k; simp; exact .nil
  | cons h1 h2 ih =>
    intro k
    cases k with
    | zero => exact .cons h1 h2
    | succ k => exact ih k
theorem Ents.append {vs' : List Value} {es' : List Ent} (x : Ents tl vs es) (y : Ents tl vs' es') : Ents tl (vs ++ vs') (es ++ es') := by
  induction x with
  | nil => exact y
  | cons h1 _ ih => exact .cons h1 ih
theorem Ents.get (x : Ents tl vs es) : ∀ (k : Nat) (v : Value), vs[k]? = some v → ∃ e, es[k]? = some e ∧ EntIs tl v e := by
  induction x with
  | nil => intro k v h; simp at h
  | cons h1 _ ih =>
    intro k v h
    cases k with
    | zero => simp at h; subst h; exact ⟨_, rfl, h1⟩
    | succ k => exact ih k v (by simpa using h)
theorem Ents.set {v : Value} {e : Ent} (x : Ents tl vs es) (hv : EntIs tl v e) : ∀ k, Ents tl (vs.set k v) (es.set k e) := by
  induction x with
  | nil => intro k; exact .nil
  | cons h1 h2 ih =>
    intro k
    cases k with
    | zero => exact .cons hv h2
    | succ k => exact .cons h1 (ih k)
end
theorem StrsAre.set' {vs : List Value} {ys : List Str} (h : StrsAre vs ys) (x : Str) (u : Tok) : ∀ k, StrsAre (vs.set k (.str x u)) (ys.set k x) := by
  induction h with
  | nil => intro k; exact .nil
  | cons y t h2 ih =>
    intro k
    cases k with
    | zero => exact .cons x u h2
    | succ k => exact .cons y t (ih k)
end Mine

end

/- part LawB0 -/
section
open PySem PySem.W PySem.Calls PyProof.Rows
set_option maxRecDepth 100000
set_option maxHeartbeats 16000000
namespace Mine

theorem shownL_zero : ∀ (x : List Nat) (p : Option Nat), shownL 0 0 p x = x
  | [], _ => rfl
  | c :: r, p => by
    rw [shownL, shownL_zero r (some c)]
    have : pieceL 0 0 p c = [c] := by
      unfold pieceL
      split
      · rename_i h; simp [h.1]
      · split
        · rename_i h; simp [h.1]
        · simp
    rw [this]; rfl
theorem shown_zero (x : Str) : shownS x 0 0 = x := by unfold shownS; rw [shownL_zero]

def LO (ys : Array Value) (o : Obj) : Prop := o.cls = .type "list" ∧ ∃ n, o.data = .seq ys n

theorem fmod_bound (a b : Int) (hb : 0 < b) : 0 ≤ a.fmod b ∧ a.fmod b < b := by
  rw [Int.fmod_eq_emod_of_nonneg _ (by omega)]
  exact ⟨Int.emod_nonneg _ (by omega), Int.emod_lt_of_pos _ hb⟩

theorem paired_ints {F : Value → Value → Prop} (hF : ∀ x t y, F (.int x t) y → ∃ u, y = .int (x.fmod 1000000) u) {vs ys : List Value} {ns : List Int} (hP : Paired F vs ys) (hi : IntsAre vs ns) : IntsAre ys (ns.map fun x => x.fmod 1000000) := by
  induction hi generalizing ys with
  | nil => cases hP; exact .nil
  | cons n t _ ih =>
    cases hP with
    | cons h1 h2 =>
      obtain ⟨u, rfl⟩ := hF n t _ h1
      exact .cons _ u (ih h2)
theorem paired_signs {F : Value → Value → Prop} (hF : ∀ v y, F v y → ∃ c u, y = .str (sgn c) u) : ∀ {vs ys : List Value}, Paired F vs ys → ∃ cs : List Nat, StrsAre ys (cs.map sgn) ∧ cs.length = vs.length
  | _, _, .nil => ⟨[], .nil, rfl⟩
  | _, _, .cons h1 h2 => by
    obtain ⟨c, u, rfl⟩ := hF _ _ h1
    obtain ⟨cs, h3, h4⟩ := paired_signs hF h2
    exact ⟨c :: cs, .cons _ u h3, by simp [h4]⟩
theorem cat_sgn (cs : List Nat) : cat (cs.map sgn) = cs := by
  unfold cat
  induction cs with
  | nil => rfl
  | cons c r ih => simp only [List.map_cons, List.flatten_cons, ih]; rfl
theorem sum_sgn (cs : List Nat) : ((cs.map sgn).map (·.length)).sum = cs.length := by
  induction cs with
  | nil => rfl
  | cons c r ih => simp only [List.map_cons, List.sum_cons, ih, List.length_cons]; show 1 + r.length = _; omega
theorem ints_mem {vs : List Value} {ns : List Int} (h : IntsAre vs ns) : ∀ v ∈ vs, ∃ n t, n ∈ ns ∧ v = .int n t := by
  induction h with
  | nil => intro v hv; cases hv
  | cons n t _ ih =>
    intro v hv
    rcases List.mem_cons.mp hv with rfl | hv
    · exact ⟨n, t, .head _, rfl⟩
    · obtain ⟨n', t', h1, h2⟩ := ih v hv
      exact ⟨n', t', .tail _ h1, h2⟩

structure LI (s : Shared) (Nn I : Addr) (oN : Obj) (i k : Nat) (h : Heap) (m : Str → Option Value) (Tr Bk : Addr) (oT oB : Obj) (tl : List (Addr × Obj)) (tv bv : Array Value) (es : List Ent) : Prop where
  fr : Fr s.heap s.heap.objs.size h m
  news : News s.heap s.heap.objs.size h ((Tr, oT) :: (Bk, oB) :: (Nn, oN) :: (I, rIt 6 i) :: tl)
  mN : m (Str.ofString "numbers") = some (.ref Nn)
  mT : m (Str.ofString "tray") = some (.ref Tr)
  mB : m (Str.ofString "book") = some (.ref Bk)
  lT : LO tv oT
  lB : LO bv oB
  tups : ∀ p ∈ tl, p.2.cls = .type "tuple"
  tb : Tr ≠ Bk
  tn : Tr ≠ Nn
  bn : Bk ≠ Nn
  ents : Ents tl bv.toList es
  texts : StrsAre tv.toList (es.map shownE)
  pos : 1 ≤ es.length
  len : es.length ≤ 1 + 2 * k
  bounds : ∀ e ∈ es, e.1.cps.size ≤ 64 ∧ e.2.1 ≤ k ∧ e.2.2 ≤ k

section
variable {s : Shared} {Nn I : Addr} {oN : Obj} {i k : Nat} {h h' : Heap} {m : Str → Option Value} {Tr Bk : Addr} {oT oB : Obj} {tl : List (Addr × Obj)} {tv bv : Array Value} {es : List Ent}
theorem rit_ne {o : Obj} {ys : Array Value} (h : LO ys o) (j : Nat) : o ≠ rIt 6 j := fun e => by
  obtain ⟨hc, _⟩ := h
  rw [e] at hc
  injection hc with hc
  exact absurd hc (by decide)
theorem LI.next (G : LI s Nn I oN i k h m Tr Bk oT oB tl tv bv es) (hst : h'.get? I = some (rIt 6 (i + 1))) (hk : ∀ b o, b ∉ [I] → h.get? b = some o → h'.get? b = some o) (hIL : I ≠ s.heap.objs.size) (hIb : s.heap.get? I = none) (hoN : ∃ ys, LO ys oN := by exact ⟨_, rfl, _, rfl⟩) :
    LI s Nn I oN (i + 1) k h' m Tr Bk oT oB tl tv bv es := by
  have hI : h.get? I = some (rIt 6 i) := G.news.get (.tail _ (.tail _ (.tail _ (.head _))))
  have keep : ∀ p, p ∈ ((Tr, oT) :: (Bk, oB) :: (Nn, oN) :: tl) → p.1 ≠ I := by
    intro p hp e
    have hp' : p ∈ ((Tr, oT) :: (Bk, oB) :: (Nn, oN) :: (I, rIt 6 i) :: tl) := by
      simp only [List.mem_cons] at hp ⊢
      rcases hp with hp | hp | hp | hp
      · exact .inl hp
      · exact .inr (.inl hp)
      · exact .inr (.inr (.inl hp))
      · exact .inr (.inr (.inr (.inr hp)))
    have h1 := (G.news p hp').1
    rw [e, hI] at h1
    injection h1 with h1
    simp only [List.mem_cons] at hp
    rcases hp with rfl | rfl | rfl | hp
    · exact rit_ne G.lT i h1.symm
    · exact rit_ne G.lB i h1.symm
    · obtain ⟨ys, hy⟩ := hoN
      exact rit_ne hy i h1.symm
    · have := G.tups p hp
      rw [← h1] at this
      injection this with this
      exact absurd this (by decide)
  refine ⟨Fr.walked G.fr hk (by simpa using Ne.symm hIL) (by simpa using hIb), fun p hp => ?_, G.mN, G.mT, G.mB, G.lT, G.lB, G.tups, G.tb, G.tn, G.bn, G.ents, G.texts, G.pos, G.len, G.bounds⟩
  have fin : p ∈ ((Tr, oT) :: (Bk, oB) :: (Nn, oN) :: tl) → p ∈ ((Tr, oT) :: (Bk, oB) :: (Nn, oN) :: (I, rIt 6 i) :: tl) → h'.get? p.1 = some p.2 ∧ p.1 ≠ s.heap.objs.size ∧ s.heap.get? p.1 = none := fun h1 h2 => ⟨hk _ _ (by simpa using keep p h1) (G.news p h2).1, (G.news p h2).2⟩
  simp only [List.mem_cons] at hp
  rcases hp with hp | hp | hp | hp | hp
  · exact fin (by simp [hp]) (by simp [hp])
  · exact fin (by simp [hp]) (by simp [hp])
  · exact fin (by simp [hp]) (by simp [hp])
  · subst hp; exact ⟨hst, hIL, hIb⟩
  · exact fin (by simp [hp]) (by simp [hp])
theorem LI.stored {y : Str} {v : Value} (G : LI s Nn I oN i k h m Tr Bk oT oB tl tv bv es) (F : Fr s.heap s.heap.objs.size h' (fun z => if z = y then some v else m z)) (N : News s.heap s.heap.objs.size h' ((Tr, oT) :: (Bk, oB) :: (Nn, oN) :: (I, rIt 6 i) :: tl))
    (h1 : Str.ofString "numbers" ≠ y) (h2 : Str.ofString "tray" ≠ y) (h3 : Str.ofString "book" ≠ y) : LI s Nn I oN i k h' (fun z => if z = y then some v else m z) Tr Bk oT oB tl tv bv es :=
  ⟨F, N, (if_neg h1).trans G.mN, (if_neg h2).trans G.mT, (if_neg h3).trans G.mB, G.lT, G.lB, G.tups, G.tb, G.tn, G.bn, G.ents, G.texts, G.pos, G.len, G.bounds⟩
theorem LI.keeps (G : LI s Nn I oN i k h m Tr Bk oT oB tl tv bv es) (hk : ∀ b o, h.get? b = some o → h'.get? b = some o) : LI s Nn I oN i k h' m Tr Bk oT oB tl tv bv es :=
  ⟨Fr.keeps' G.fr hk, News.keeps' G.news hk, G.mN, G.mT, G.mB, G.lT, G.lB, G.tups, G.tb, G.tn, G.bn, G.ents, G.texts, G.pos, G.len, G.bounds⟩
theorem LO.isList {o : Obj} {ys : Array Value} {D : Addr} (x : LO ys o) (hg : h.get? D = some o) : h.IsList D ys := ⟨o, hg, x.1, x.2⟩
theorem LI.isT (G : LI s Nn I oN i k h m Tr Bk oT oB tl tv bv es) : h.IsList Tr tv := G.lT.isList (G.news.get (.head _))
theorem LI.isB (G : LI s Nn I oN i k h m Tr Bk oT oB tl tv bv es) : h.IsList Bk bv := G.lB.isList (G.news.get (.tail _ (.head _)))
theorem LI.tvlen (G : LI s Nn I oN i k h m Tr Bk oT oB tl tv bv es) : tv.size = es.length := by rw [← Array.length_toList, G.texts.len_eq, List.length_map]
theorem LI.bvlen (G : LI s Nn I oN i k h m Tr Bk oT oB tl tv bv es) : bv.size = es.length := by rw [← Array.length_toList, G.ents.len]
end
def turnBody : List Stmt → List Stmt
  | [_, _, _, _, _, .For _ _ b _ _, _] => b
  | _ => []
end Mine

end

/- part CompT -/
section
open PySem PySem.W PySem.Calls PyProof.Rows
set_option maxRecDepth 100000
set_option maxHeartbeats 8000000
namespace Mine

def TAt (h₁ : Heap) (L C D : Addr) (wr : List Addr) (G : Value → Addr → Obj → Prop) (h : Heap) (v y : Value) : Prop :=
  ∃ T o, y = .ref T ∧ T ≠ L ∧ T ≠ C ∧ T ∉ wr ∧ T ≠ D ∧ (h₁.get? T = none ∨ h₁.get? T = some o) ∧ h.get? T = some o ∧ G v T o
def TIs (h₁ : Heap) (G : Value → Addr → Obj → Prop) (h : Heap) (v y : Value) : Prop :=
  ∃ T o, y = .ref T ∧ (h₁.get? T = none ∨ h₁.get? T = some o) ∧ h.get? T = some o ∧ G v T o

theorem TAt.keep {h₁ : Heap} {L C D : Addr} {wr : List Addr} {G : Value → Addr → Obj → Prop} {h h' : Heap} {v y : Value} (x : TAt h₁ L C D wr G h v y)
    (hk : ∀ b o, b ≠ C → b ∉ wr → b ≠ D → h.get? b = some o → h'.get? b = some o) : TAt h₁ L C D wr G h' v y := by
  obtain ⟨T, o, rfl, hL, hC, hw, hD, h1, hT, hG⟩ := x
  exact ⟨T, o, rfl, hL, hC, hw, hD, h1, hk T o hC hw hD hT, hG⟩

section
variable {prog : Program} {w : World} {A : Around} {R : Result → Shared → Prop} {s : Shared}
theorem compLoopT {elt iter : Expr} {x : Str} {px : Pos} {scope : Scope} {pos : Pos} {I D L : Addr} {fp wr : List Addr} {n : Nat} {P : Nat → Value → Prop} {St : Nat → Heap → Prop}
    {cenv : Env} {m : Str → Option Value} (W : Walks prog w A I fp wr n P St) (G : Value → Addr → Obj → Prop) (href : Heap)
    (hlive : ∀ i h, St i h → ∀ b ∈ wr, ∃ o, h.get? b = some o)
    (hx : cenv.kindOf x = some .local) (hp : (cenv.scope.kind == .class || (cenv.scope.kind == .module && cenv.locals != cenv.globals)) = false)
    (hDC : D ≠ cenv.locals) (hDf : D ∉ fp) (hCf : cenv.locals ∉ fp)
    (hrC : href.get? cenv.locals = none) (hrD : href.get? D = none) (hrw : ∀ b ∈ wr, href.get? b = none) (hrs : ∀ b o, href.get? b = some o → s.heap.get? b = some o)
    (hst : St 0 s.heap) (hacc : s.heap.PlainList D #[]) (hn : s.heap.Ns cenv.locals m)
    (helt : ∀ i v s₂ m₂, P i v → s₂.heap.Ns cenv.locals m₂ → m₂ x = some v → (∀ b o, href.get? b = some o → s₂.heap.get? b = some o) →
      wpAny (model prog w) A (eval elt cenv) (fun y s₃ => (∃ T o, y = .ref T ∧ T ≠ L ∧ (s₂.heap.get? T = none ∨ href.get? T = some o) ∧ s₃.heap.get? T = some o ∧ G v T o) ∧ Keeps s₂ s₃) (notedBy (model prog w) A cenv fun e s' => R (.error e) s') s₂)
    (hR : ∀ h' tk m' ys (vs : List Value), h'.Ns cenv.locals m' → h'.PlainList D ys → vs.length = n → (∀ j v, vs[j]? = some v → P j v) →
      Paired (TAt href L cenv.locals D wr G h') vs ys.toList →
      (∀ b o, b ≠ cenv.locals → b ∉ wr → b ≠ D → s.heap.get? b = some o → h'.get? b = some o) → R (.ok .next) { s with heap := h', toks := tk })
    (hsz : n ≤ sizeLine) :
    codeAny (model prog w) A (.compLoop (.ListComp elt [⟨.Name x px, iter, [], 0⟩] scope pos) 0 (.ref I) (.ref D) cenv) R s := by
  refine codeAny_compLoop_tests
    (fun k s' => ∃ h' tk m' ys, ∃ vs : List Value, s' = { s with heap := h', toks := tk } ∧ St vs.length h' ∧ h'.PlainList D ys ∧ h'.Ns cenv.locals m' ∧ (∀ j v, vs[j]? = some v → P j v) ∧
      Paired (TAt href L cenv.locals D wr G h') vs ys.toList ∧ vs.length ≤ n ∧ k = n + 1 - vs.length ∧
      (∀ b o, b ≠ cenv.locals → b ∉ wr → b ≠ D → s.heap.get? b = some o → h'.get? b = some o)) ?_ (n + 1)
    ⟨s.heap, s.toks, m, #[], [], rfl, hst, hacc, hn, by simp, by simpa using Paired.nil, Nat.zero_le _, rfl, fun _ _ _ _ _ e => e⟩
  rintro k s' ⟨H, tk, m', ys, vs, rfl, hst', hacc', hn', hP, hF, hi, rfl, hk⟩
  have hCw : cenv.locals ∉ wr := fun h => hCf (W.sub _ h)
  have hDw : D ∉ wr := fun h => hDf (W.sub _ h)
  have apart : ∀ b o, href.get? b = some o → b ≠ cenv.locals ∧ b ∉ wr ∧ b ≠ D := fun b o e =>
    ⟨(fun q => by rw [q, hrC] at e; cases e), (fun q => by rw [hrw b q] at e; cases e), (fun q => by rw [q, hrD] at e; cases e)⟩
  by_cases hlt : vs.length < n
  · refine W.item vs.length _ _ _ hlt hst' fun v h₁ tk₁ hPv hst₁ hk₁ => ?_
    refine wpAny_assign_Name (wpAny_storeName_local hx (hn'.at' fun o e => hk₁ _ o hCw e) (fun h₂ hn₂ hs₂ => ?_) hp)
    have up₂ : ∀ b o, b ≠ cenv.locals → b ∉ wr → H.get? b = some o → h₂.get? b = some o := fun b o hbC hbf e => hs₂.extBut b o hbC (hk₁ b o hbf e)
    have hst₂ : St (vs.length + 1) h₂ := W.frame _ _ _ hst₁ fun b hb o e => hs₂.extBut b o (fun h => hCf (h ▸ hb)) e
    refine wpAny_tests_nil ?_
    have hacc₂ : h₂.PlainList D ys := hacc'.at fun o e => up₂ D o hDC hDw e
    have hP' : ∀ j u, (vs ++ [v])[j]? = some u → P j u := fun j u hj => by
      rcases Nat.lt_trichotomy j vs.length with h | h | h
      · exact hP j u (by rwa [List.getElem?_append_left h] at hj)
      · subst h; simp at hj; subst hj; exact hPv
      · have hnone : (vs ++ [v])[j]? = none := List.getElem?_eq_none (by rw [List.length_append, List.length_singleton]; omega)
        rw [hnone] at hj; cases hj
    have hF₂ : Paired (TAt href L cenv.locals D wr G h₂) vs ys.toList := hF.mono fun _ _ hy => hy.keep fun b o hbC hbf _ e => up₂ b o hbC hbf e
    have hr₂ : ∀ b o, href.get? b = some o → h₂.get? b = some o := fun b o e => let ⟨q1, q2, q3⟩ := apart b o e; up₂ b o q1 q2 (hk b o q1 q2 q3 (hrs b o e))
    simp only [if_true]
    refine wpAny_mono (helt vs.length v _ _ hPv hn₂ (by simp) hr₂) (fun y s₄ h₄ => ?_) fun _ _ e => e
    obtain ⟨⟨T, o, rfl, hTL, hTn, hT, hG⟩, h₄, tk₄, rfl, hk₄⟩ := h₄
    have hTa : T ≠ cenv.locals ∧ T ∉ wr ∧ T ≠ D ∧ (href.get? T = none ∨ href.get? T = some o) := by
      rcases hTn with hTn | hTn
      · refine ⟨fun q => ?_, fun hm => ?_, fun q => ?_, ?_⟩
        · obtain ⟨_, _, _, ho, _⟩ := hn₂; rw [q] at hTn; rw [show h₂.get? cenv.locals = none from hTn] at ho; cases ho
        · obtain ⟨o', ho'⟩ := hlive _ _ hst₂ T hm; rw [show h₂.get? T = none from hTn] at ho'; cases ho'
        · obtain ⟨_, ho⟩ := hacc₂; rw [q] at hTn; rw [show h₂.get? D = none from hTn] at ho; cases ho
        · cases e : href.get? T with
          | none => exact .inl rfl
          | some o' => have := hr₂ T o' e; rw [show h₂.get? T = none from hTn] at this; cases this
      · obtain ⟨q1, q2, q3⟩ := apart T o hTn
        exact ⟨q1, q2, q3, .inr hTn⟩
    have hys : ys.size ≤ sizeLine := by
      have e1 := hF.length
      have e4 : ys.toList.length = ys.size := by simp
      omega
    refine wpAny_list_append_plain (hsz := hys) (hacc₂.at fun o e => hk₄ _ o e) fun h₅ hl₅ hs₅ => ?_
    refine ⟨n + 1 - (vs.length + 1), by omega, h₅, tk₄, _, ys.push (.ref T), vs ++ [v], rfl, ?_, hl₅, (hn₂.keeps hk₄).sameBut hs₅ (Ne.symm hDC), hP', ?_, (by rw [List.length_append, List.length_singleton]; exact hlt), (by rw [List.length_append, List.length_singleton]),
      fun b o hbC hbf hbD e => hs₅.extBut b o hbD (hk₄ b o (up₂ b o hbC hbf (hk b o hbC hbf hbD e)))⟩
    · have := W.frame _ _ h₅ hst₂ fun b hb o e => hs₅.extBut b o (fun h => hDf (h ▸ hb)) (hk₄ b o e)
      simpa using this
    · have hF₅ := hF₂.mono (F' := TAt href L cenv.locals D wr G h₅) fun _ _ hy => hy.keep fun b o _ _ hbD e => hs₅.extBut b o hbD (hk₄ b o e)
      have hy₅ : TAt href L cenv.locals D wr G h₅ v (.ref T) := ⟨T, o, rfl, hTL, hTa.1, hTa.2.1, hTa.2.2.1, hTa.2.2.2, hs₅.extBut T o hTa.2.2.1 hT, hG⟩
      simpa using Paired.snoc hF₅ hy₅
  · have hin : vs.length = n := by omega
    refine W.done _ _ _ (hin ▸ hst') fun h₁ tk₁ hk₁ => ?_
    exact hR h₁ tk₁ m' ys vs (hn'.at' fun o e => hk₁ _ o hCw e) (hacc'.at fun o e => hk₁ _ o hDw e) hin hP (hF.mono fun _ _ hy => hy.keep fun b o _ hbf _ e => hk₁ b o hbf e) fun b o hbC hbf hbD e => hk₁ b o hbf (hk b o hbC hbf hbD e)
end

section
variable {prog : Program} {w : World} {A : Around} {E : Value → Shared → Prop} {s : Shared} {h₀ : Heap} {L : Addr} {m : Str → Option Value} {news : List (Addr × Obj)} {env : Env}
theorem comp_assignT {elt iter : Expr} {x y : Str} {px py : Pos} {scope : Scope} {pos spos : Pos} {Q : Flow → Shared → Prop} (G : Value → Addr → Obj → Prop)
    (hsw : swapsWith (.ListComp elt [⟨.Name x px, iter, [], 0⟩] scope pos) (some (.Name y py)) spos.line env = pure true) (hL : env.locals = L)
    (hh : A.handled = none) (hclos : closureFor scope env = pure []) (hcell : ∀ z ∈ scope.names, z.2 ≠ .cell) (hkind : scope.kind = .function)
    (hnames : ∀ z ∈ scope.names, z.2 = .local → scope.names.lookup z.1 = some .local) (hx : scope.names.lookup x = some .local)
    (hy : env.kindOf y = some .local) (hp : (env.scope.kind == .class || (env.scope.kind == .module && env.locals != env.globals)) = false)
    (h : wpAny (model prog w) A (eval iter env) (fun xv s₁ => ∃ ax vs, xv = .ref ax ∧ s₁.heap.IsList ax vs ∧ vs.size ≤ sizeLine ∧ Fr h₀ L s₁.heap m ∧ News h₀ L s₁.heap news ∧
      (∀ C v s₂ m₂ E', v ∈ vs.toList → s₂.heap.Ns (compEnvC scope [] C env).locals m₂ → m₂ x = some v → (∀ b o, s₁.heap.get? b = some o → s₂.heap.get? b = some o) →
        wpAny (model prog w) A (eval elt (compEnvC scope [] C env)) (fun y s₃ => (∃ T o, y = .ref T ∧ T ≠ L ∧ (s₂.heap.get? T = none ∨ s₁.heap.get? T = some o) ∧ s₃.heap.get? T = some o ∧ G v T o) ∧ Keeps s₂ s₃) E' s₂) ∧
      (∀ D ys ne h' tk, Fr h₀ L h' (fun z => if z = y then some (.ref D) else m z) → News h₀ L h' ((D, lstO ys ne) :: news) → (∀ p ∈ news, p.1 ≠ D) → Paired (TIs s₁.heap G h') vs.toList ys.toList → Q .next { s₁ with heap := h', toks := tk })) E s)
    (hs : ∀ x, foldedSetIterable iter env x = pure x) :
    wpAny (model prog w) A (exec (.Assign [.Name y py] (.ListComp elt [⟨.Name x px, iter, [], 0⟩] scope pos) spos) env) Q E s := by
  subst hL
  rw [exec_Assign_Name_used _ _ _ _ hsw]
  refine wpAny_bind (wpAny_standAt (wpAny_bind ?_))
  show wpAny _ A (do let _ ← comprehension (.ListComp elt [⟨.Name x px, iter, [], 0⟩] scope pos) scope env _ (newList []) false (eval iter env) (some (assign (.Name y py) env))) _ _ s
  refine wpAny_bind (wpAny_mono (wpAny_comprehension_free (use := some (assign (.Name y py) env)) (Q := fun _ s' => Q .next s') rfl hs hclos hkind hnames
    (wpAny_mono h (fun xv s₁ h₁ => ?_) fun _ _ e => e)) (fun _ s' hq => wpAny_pure (wpAny_pure hq)) fun _ _ e => e)
  obtain ⟨ax, vs, rfl, hl, hsz, Fm, N, helt, hQ⟩ := h₁
  have hlt : ax < s₁.heap.objs.size := by obtain ⟨_, e, _⟩ := hl; exact Heap.lt_size e
  refine wpAny_pyIter_list hl ?_
  have hst₂ : (s₁.heap.push { cls := .type "list_iterator", data := .fields #[.ref ax, .int 0 0] }).IsListIter s₁.heap.objs.size ax 0 := ⟨_, Heap.get?_push_size _ rfl, rfl, rfl⟩
  have hl₂ := hl.push { cls := .type "list_iterator", data := .fields #[.ref ax, .int 0 0] }
  have hsz₂ : (s₁.heap.push { cls := .type "list_iterator", data := .fields #[.ref ax, .int 0 0] }).objs.size = s₁.heap.objs.size + 1 := Heap.size_push ..
  have up₂ : ∀ b o, s₁.heap.get? b = some o → (s₁.heap.push { cls := .type "list_iterator", data := .fields #[.ref ax, .int 0 0] }).get? b = some o := fun b o e => Heap.get?_push_of_some _ e
  generalize s₁.heap.push { cls := .type "list_iterator", data := .fields #[.ref ax, .int 0 0] } = H1 at hst₂ hl₂ hsz₂ up₂ ⊢
  refine wpAny_newObj_type (wpAny_newFunctionEnv hcell (by intro y hy; simp at hy) (fun h₁ hns₁ hsb₁ => ?_) hkind)
  dsimp only at hns₁ hsb₁ ⊢
  have hD0 : (H1.push { cls := .type "list", dict := none, data := .seq ([] : List Value).toArray }).get? H1.objs.size = some { cls := .type "list", dict := none, data := .seq ([] : List Value).toArray } := Heap.get?_push_size _ rfl
  have hsz₃ : (H1.push { cls := .type "list", dict := none, data := .seq ([] : List Value).toArray }).objs.size = H1.objs.size + 1 := Heap.size_push ..
  have up₃ : ∀ b o, H1.get? b = some o → (H1.push { cls := .type "list", dict := none, data := .seq ([] : List Value).toArray }).get? b = some o := fun b o e => Heap.get?_push_of_some _ e
  generalize H1.push { cls := .type "list", dict := none, data := .seq ([] : List Value).toArray } = H2 at hns₁ hsb₁ hD0 hsz₃ up₃ ⊢
  generalize hI : s₁.heap.objs.size = I at *
  generalize hDd : H1.objs.size = D at *
  generalize hCc : H2.objs.size = C at *
  have hne1 : I ≠ D := by omega
  have hne2 : D ≠ C := by omega
  have hne3 : I ≠ C := by omega
  have fresh : ∀ b, I ≤ b → s₁.heap.get? b = none := fun b hb => fresh_at (by rw [hI]; exact hb)
  have hID : I < D := by omega
  have hDC' : D < C := by omega
  have bel : ∀ b o, s₁.heap.get? b = some o → b < I := fun b o e => by rw [← hI]; exact Heap.lt_size e
  have apC : ∀ b o, s₁.heap.get? b = some o → b ≠ I ∧ b ≠ D ∧ b ≠ C := fun b o e =>
    ⟨Nat.ne_of_lt (bel b o e), Nat.ne_of_lt (Nat.lt_trans (bel b o e) hID), Nat.ne_of_lt (Nat.lt_trans (bel b o e) (Nat.lt_trans hID hDC'))⟩
  have old : ∀ b o, b ≠ C → H2.get? b = some o → h₁.get? b = some o := fun b o hb e => by
    refine hsb₁.extBut b o hb ?_
    exact Heap.get?_push_of_some _ e
  have oldR : ∀ b o, s₁.heap.get? b = some o → h₁.get? b = some o := fun b o e => old b o (apC b o e).2.2 (up₃ b o (up₂ b o e))
  have W := Walks.list (prog := prog) (w := w) (A := A) hh I ax (Nat.ne_of_lt hlt) vs
  have hstI : h₁.IsListIter I ax 0 := hst₂.at fun o e => old _ o hne3 (up₃ _ o e)
  have hlI : h₁.IsList ax vs := hl.at fun o e => oldR _ o e
  have loop : ∀ s₃ : Shared, s₃ = { s₁ with heap := h₁, toks := s₁.toks + ([] : List (Str × Value)).length } →
      codeAny (model prog w) A (.compLoop (.ListComp elt [⟨.Name x px, iter, [], 0⟩] scope pos) 0 (.ref I) (.ref D) (compEnvC scope [] C env))
        (compPost (model prog w) A E (some (assign (.Name y py) env)) (fun _ s' => Q .next s') (.ref D) C) s₃ := by
    rintro s₃ rfl
    refine compLoopT (L := env.locals) (cenv := compEnvC scope [] C env) W G s₁.heap ?_ (lookup_relabel_local hx) (by simp [compEnvC, relabel, hkind]) hne2 ?_ ?_ (fresh C (by omega)) (fresh D (by omega)) ?_ oldR ⟨hstI, hlI⟩
      ⟨_, old _ _ hne2 hD0⟩ hns₁ ?_ ?_ hsz
    · intro i h st b hb
      rw [List.mem_singleton.mp hb]
      obtain ⟨⟨o, ho, _⟩, _⟩ := st
      exact ⟨o, ho⟩
    · intro hm
      rcases List.mem_cons.mp hm with e | hm
      · exact hne1 e.symm
      · exact Nat.ne_of_gt (Nat.lt_trans hlt hID) (List.mem_singleton.mp hm)
    · intro hm
      rcases List.mem_cons.mp hm with e | hm
      · exact hne3 e.symm
      · exact Nat.ne_of_gt (Nat.lt_trans hlt (Nat.lt_trans hID hDC')) (List.mem_singleton.mp hm)
    · intro b hb; rw [List.mem_singleton.mp hb]; exact fresh I (Nat.le_refl _)
    · intro i v s₂ m₂ hP hn hm hk
      exact helt C v s₂ m₂ _ (Array.mem_toList_iff.mpr (Array.mem_of_getElem? hP)) hn hm hk
    · intro h' tk m' ys vs' hn' hpl hlen hP hF hk
      have e : vs' = vs.toList := by simpa using list_of_places hlen hP
      subst e
      have hLa : env.locals ≠ I ∧ env.locals ≠ D ∧ env.locals ≠ C := by obtain ⟨o, _, _, ho, _⟩ := Fm.ns; exact apC _ _ ho
      have keep : ∀ b o, s₁.heap.get? b = some o → h'.get? b = some o := fun b o e => by
        exact hk b o (apC b o e).2.2 (by rw [List.mem_singleton]; exact (apC b o e).1) (apC b o e).2.1 (oldR b o e)
      show wpAny _ A (assign (.Name y py) env (.ref D)) _ _ _
      refine wpAny_assign_Name (wpAny_storeName_local hy (Fm.ns.at' fun o e => keep _ o e) (fun h₂ hn₂ hs₂ => ?_) hp)
      refine ⟨m', Heap.Ns.sameBut hn' hs₂ (Ne.symm hLa.2.2), fun h₃ hs₃ => ?_⟩
      have keep3 : ∀ b o, b ≠ env.locals → b ≠ C → h'.get? b = some o → h₃.get? b = some o := fun b o q1 q2 e => hs₃.extBut b o q2 (hs₂.extBut b o q1 e)
      obtain ⟨ne, hD⟩ := hpl
      have hD3 : h₃.get? D = some (lstO ys ne) := keep3 _ _ (Ne.symm hLa.2.1) hne2 hD
      have F' : Fr h₀ env.locals h₃ (fun z => if z = y then some (.ref D) else m z) :=
        ⟨hn₂.sameBut hs₃ hLa.2.2, fun b o e => keep3 b o (Nat.ne_of_lt (Nat.lt_of_lt_of_le (Heap.lt_size e) Fm.above)) (apC b o (Fm.keep b o e)).2.2 (keep b o (Fm.keep b o e)), Fm.above⟩
      refine hQ D ys ne h₃ _ F' (fun p hp => ?_) (fun p hp e => ?_) (hF.mono fun v y hy => ?_)
      · rcases List.mem_cons.mp hp with rfl | hp
        · refine ⟨hD3, Ne.symm hLa.2.1, ?_⟩
          cases e : h₀.get? D with
          | none => rfl
          | some o' => exact absurd rfl (apC _ _ (Fm.keep _ _ e)).2.1
        · exact ⟨keep3 _ _ (N p hp).2.1 (apC _ _ (N p hp).1).2.2 (keep _ _ (N p hp).1), (N p hp).2⟩
      · exact (apC _ _ (N p hp).1).2.1 e
      · obtain ⟨T, o, rfl, hTL, hTC, _, _, h1, hT, hG⟩ := hy
        exact ⟨T, o, rfl, h1, keep3 T o hTL hTC hT, hG⟩
  exact codeAny_compStart_list (loop _ rfl) (W.self 0 _ _ _ ⟨hstI, hlI⟩ (loop _ rfl))
end
end Mine

end

/- part LawC0 -/
section
open PySem PySem.W PySem.Calls PyProof.Rows
set_option maxRecDepth 100000
set_option maxHeartbeats 16000000
namespace Mine
local macro_rules | `(tactic| walk_at "nf") => `(tactic| try dsimp only at *)

theorem ent_unique {h : Heap} {tl : List (Addr × Obj)} (ht : ∀ p ∈ tl, h.get? p.1 = some p.2) {v : Value} {e e' : Ent} (x : EntIs tl v e) (y : EntIs tl v e') : e = e' := by
  obtain ⟨a, o, rfl, hm, hc, t0, t1, t2, n, hd⟩ := x
  obtain ⟨a', o', ha, hm', hc', t0', t1', t2', n', hd'⟩ := y
  cases ha
  have h1 := ht _ hm
  have h2 := ht _ hm'
  rw [show h.get? a = some o from h1] at h2
  injection h2 with h2
  subst h2
  rw [hd] at hd'
  injection hd' with hd' _
  obtain ⟨s1, n1, f1⟩ := e
  obtain ⟨s2, n2, f2⟩ := e'
  simp only [Array.mk.injEq, List.cons.injEq, Value.str.injEq, Value.int.injEq, and_true] at hd'
  obtain ⟨⟨rfl, _⟩, ⟨h3, _⟩, ⟨h4, _⟩⟩ := hd'
  have : n1 = n2 := by omega
  have : f1 = f2 := by omega
  subst_vars
  rfl
theorem paired_shown {h : Heap} {tl : List (Addr × Obj)} (ht : ∀ p ∈ tl, h.get? p.1 = some p.2) {vs ys : List Value} {es : List Ent} (hP : Paired (fun v y => ∃ e u, EntIs tl v e ∧ y = .str (shownE e) u) vs ys) (hE : Ents tl vs es) : StrsAre ys (es.map shownE) := by
  induction hE generalizing ys with
  | nil => cases hP; exact .nil
  | cons h1 _ ih =>
    cases hP with
    | cons k1 k2 =>
      obtain ⟨e, u, k3, rfl⟩ := k1
      rw [ent_unique ht k3 h1]
      exact .cons _ u (ih k2)
theorem ents_mem {tl : List (Addr × Obj)} {vs : List Value} {es : List Ent} (hE : Ents tl vs es) : ∀ v ∈ vs, ∃ e, e ∈ es ∧ EntIs tl v e := by
  induction hE with
  | nil => intro v hv; cases hv
  | cons h1 _ ih =>
    intro v hv
    rcases List.mem_cons.mp hv with rfl | hv
    · exact ⟨_, .head _, h1⟩
    · obtain ⟨e, h2, h3⟩ := ih v hv
      exact ⟨e, .tail _ h2, h3⟩
theorem EntIs.tup {tl : List (Addr × Obj)} {h : Heap} (ht : ∀ p ∈ tl, h.get? p.1 = some p.2) {v : Value} {e : Ent} (x : EntIs tl v e) : ∃ a t0 t1 t2, v = .ref a ∧ IsTup h a #[.str e.1 t0, .int (e.2.1 : Int) t1, .int (e.2.2 : Int) t2] := by
  obtain ⟨a, o, rfl, hm, hc, t0, t1, t2, n, hd⟩ := x
  exact ⟨a, t0, t1, t2, rfl, o, ht _ hm, hc, n, hd⟩

def TurnEnd (s : Shared) (Nn I : Addr) (oN : Obj) (i k : Nat) (s' : Shared) : Prop :=
  ∃ h tk gns m Tr Bk oT oB tl tv bv es, s' = { s with heap := h, toks := tk, gens := gns } ∧ (AllBare s.gens → AllBare gns) ∧ LI s Nn I oN i k h m Tr Bk oT oB tl tv bv es

section
variable {s : Shared} {Nn I : Addr} {oN : Obj} {i k : Nat} {h h' : Heap} {m : Str → Option Value} {Tr Bk : Addr} {oT oB : Obj} {tl : List (Addr × Obj)} {tv bv : Array Value} {es : List Ent}
theorem LI.at' {m' : Str → Option Value} (G : LI s Nn I oN i k h m Tr Bk oT oB tl tv bv es) (F : Fr s.heap s.heap.objs.size h' m') (N : News s.heap s.heap.objs.size h' ((Tr, oT) :: (Bk, oB) :: (Nn, oN) :: (I, rIt 6 i) :: tl))
    (h1 : m' (Str.ofString "numbers") = m (Str.ofString "numbers")) (h2 : m' (Str.ofString "tray") = m (Str.ofString "tray")) (h3 : m' (Str.ofString "book") = m (Str.ofString "book")) : LI s Nn I oN i k h' m' Tr Bk oT oB tl tv bv es :=
  ⟨F, N, h1.trans G.mN, h2.trans G.mT, h3.trans G.mB, G.lT, G.lB, G.tups, G.tb, G.tn, G.bn, G.ents, G.texts, G.pos, G.len, G.bounds⟩
theorem LI.inTl (G : LI s Nn I oN i k h m Tr Bk oT oB tl tv bv es) : ∀ p ∈ tl, h.get? p.1 = some p.2 := fun p hp => (G.news p (.tail _ (.tail _ (.tail _ (.tail _ hp))))).1
theorem LI.apT (G : LI s Nn I oN i k h m Tr Bk oT oB tl tv bv es) : ∀ p ∈ ((Bk, oB) :: (Nn, oN) :: (I, rIt 6 i) :: tl), p.1 ≠ Tr := by
  intro p hp e
  have hT := (G.news _ (.head _)).1
  rcases List.mem_cons.mp hp with rfl | hp
  · exact G.tb e.symm
  · rcases List.mem_cons.mp hp with rfl | hp
    · exact G.tn e.symm
    · rcases List.mem_cons.mp hp with rfl | hp
      · have h1 := (G.news _ (.tail _ (.tail _ (.tail _ (.head _))))).1
        rw [show I = Tr from e] at h1
        rw [show h.get? Tr = some oT from hT] at h1
        injection h1 with h1
        exact rit_ne G.lT i h1
      · have h1 := G.inTl p hp
        rw [e, show h.get? Tr = some oT from hT] at h1
        injection h1 with h1
        have h2 := G.tups p hp
        rw [← h1, G.lT.1] at h2
        injection h2 with h2
        exact absurd h2 (by decide)
theorem LI.apB (G : LI s Nn I oN i k h m Tr Bk oT oB tl tv bv es) : ∀ p ∈ ((Nn, oN) :: (I, rIt 6 i) :: tl), p.1 ≠ Bk := by
  intro p hp e
  have hB := (G.news _ (.tail _ (.head _))).1
  rcases List.mem_cons.mp hp with rfl | hp
  · exact G.bn e.symm
  · rcases List.mem_cons.mp hp with rfl | hp
    · have h1 := (G.news _ (.tail _ (.tail _ (.tail _ (.head _))))).1
      rw [show I = Bk from e] at h1
      rw [show h.get? Bk = some oB from hB] at h1
      injection h1 with h1
      exact rit_ne G.lB i h1
    · have h1 := G.inTl p hp
      rw [e, show h.get? Bk = some oB from hB] at h1
      injection h1 with h1
      have h2 := G.tups p hp
      rw [← h1, G.lB.1] at h2
      injection h2 with h2
      exact absurd h2 (by decide)
end

theorem quote_E (e : Ent) : quoteS (shownE e) = shownE (e.1, e.2.1 + 1, e.2.2 + 1) := by
  show (⟨(dotsT true (crlfT false (shownL e.2.1 e.2.2 none e.1.cps.toList))).toArray⟩ : Str) = ⟨(shownL (e.2.1 + 1) (e.2.2 + 1) none e.1.cps.toList).toArray⟩
  rw [quote_shown]
def closE (e : Ent) : Ent := if closesL e.1.cps.toList = true then e else (nilS, 0, 0)
theorem pre_E (e : Ent) : preS (shownE e) = shownE (closE e) := by
  unfold preS closE
  have : checkT (stripT (shownE e).cps.toList) = closesL e.1.cps.toList := by
    show checkT (stripT (shownL e.2.1 e.2.2 none e.1.cps.toList)) = _
    rw [check_shown]
  rw [this]
  by_cases h : closesL e.1.cps.toList = true
  · rw [if_pos h, if_pos h]
  · rw [if_neg h, if_neg h]; exact (shown_zero nilS).symm
theorem shownE_size (e : Ent) (k : Nat) (h : e.1.cps.size ≤ 64 ∧ e.2.1 ≤ k ∧ e.2.2 ≤ k) (hk : k ≤ 6) : (shownE e).cps.size ≤ 900 := by
  show (shownL e.2.1 e.2.2 none e.1.cps.toList).toArray.size ≤ 900
  rw [List.size_toArray]
  have h1 := shownL_len e.2.1 e.2.2 e.1.cps.toList none
  have h2 : (2 + e.2.1 + e.2.2) * e.1.cps.toList.length ≤ 14 * 64 := Nat.mul_le_mul (by omega) (by rw [Array.length_toList]; exact h.1)
  omega
theorem made_ents {L : Addr} {h₁ h : Heap} {tl : List (Addr × Obj)} {s : Shared} (ht : ∀ p ∈ tl, h₁.get? p.1 = some p.2) {vs ys : List Value} {es : List Ent}
    (hP : Paired (TIs h₁ (fun v T o => T ≠ L ∧ s.heap.get? T = none ∧ ∃ e, EntIs tl v e ∧ TupO (closE e) o) h) vs ys) (hE : Ents tl vs es) :
    ∃ tl', (∀ p ∈ tl', h.get? p.1 = some p.2 ∧ p.1 ≠ L ∧ s.heap.get? p.1 = none) ∧ (∀ p ∈ tl', p.2.cls = .type "tuple") ∧ Ents tl' ys (es.map closE) := by
  induction hE generalizing ys with
  | nil => cases hP; exact ⟨[], (fun _ h => nomatch h), (fun _ h => nomatch h), .nil⟩
  | cons h1 _ ih =>
    cases hP with
    | cons k1 k2 =>
      obtain ⟨T, o, rfl, _, hT, hL, hs, e, he, hto⟩ := k1
      obtain ⟨tl', a1, a2, a3⟩ := ih k2
      rw [ent_unique ht he h1] at hto
      refine ⟨(T, o) :: tl', fun p hp => ?_, fun p hp => ?_, .cons ⟨T, o, rfl, .head _, hto⟩ (a3.mono fun p hp => .tail _ hp)⟩
      · rcases List.mem_cons.mp hp with rfl | hp
        · exact ⟨hT, hL, hs⟩
        · exact a1 p hp
      · rcases List.mem_cons.mp hp with rfl | hp
        · exact hto.1
        · exact a2 p hp

/- the entries that _law_parts makes -/
def partsE (e : Ent) : List Ent := match parts3 e.1.cps.toList with
  | none => [e]
  | some (a, b, c) => [(⟨a.toArray⟩, e.2.1, e.2.2), (⟨b.toArray⟩, e.2.1, 0), (⟨c.toArray⟩, e.2.1, 0)]
theorem parts_ents {s : Shared} {h₆ h₇ : Heap} {L : Addr} {tl : List (Addr × Obj)} {e : Ent} {ad : Addr} {pv : Array Value} (hE : EntIs tl (.ref ad) e) (htl : ∀ q ∈ tl, h₇.get? q.1 = some q.2 ∧ q.1 ≠ L ∧ s.heap.get? q.1 = none) (htt : ∀ q ∈ tl, q.2.cls = .type "tuple")
    (hL : ∃ o, h₆.get? L = some o) (hb : ∀ b o, s.heap.get? b = some o → h₆.get? b = some o) (hp : PartsOf e.1 e.2.1 e.2.2 ad h₆ h₇ pv) :
    ∃ tl', (∀ q ∈ tl, q ∈ tl') ∧ (∀ q ∈ tl', h₇.get? q.1 = some q.2 ∧ q.1 ≠ L ∧ s.heap.get? q.1 = none) ∧ (∀ q ∈ tl', q.2.cls = .type "tuple") ∧ Ents tl' pv.toList (partsE e) := by
  unfold PartsOf at hp
  unfold partsE
  cases h3 : parts3 e.1.cps.toList with
  | none =>
    rw [h3] at hp
    simp only at hp
    subst hp
    exact ⟨tl, fun _ h => h, htl, htt, .cons hE .nil⟩
  | some abc =>
    obtain ⟨a, b, c⟩ := abc
    rw [h3] at hp
    obtain ⟨e1, e2, e3, u1, u2, u3, u4, u5, u6, u7, u8, u9, rfl, f1, f2, f3, ⟨o1, g1, c1, n1, d1⟩, ⟨o2, g2, c2, n2, d2⟩, ⟨o3, g3, c3, n3, d3⟩⟩ := hp
    obtain ⟨oL, hoL⟩ := hL
    have fr : ∀ x, h₆.get? x = none → x ≠ L ∧ s.heap.get? x = none := by
      intro x hx
      constructor
      · intro q; rw [q, hoL] at hx; cases hx
      · cases q : s.heap.get? x with
        | none => rfl
        | some o' => rw [hb _ _ q] at hx; cases hx
    refine ⟨(e1, o1) :: (e2, o2) :: (e3, o3) :: tl, fun q hq => .tail _ (.tail _ (.tail _ hq)), fun q hq => ?_, fun q hq => ?_, ?_⟩
    · rcases List.mem_cons.mp hq with rfl | hq
      · exact ⟨g1, fr _ f1⟩
      · rcases List.mem_cons.mp hq with rfl | hq
        · exact ⟨g2, fr _ f2⟩
        · rcases List.mem_cons.mp hq with rfl | hq
          · exact ⟨g3, fr _ f3⟩
          · exact htl q hq
    · rcases List.mem_cons.mp hq with rfl | hq
      · exact c1
      · rcases List.mem_cons.mp hq with rfl | hq
        · exact c2
        · rcases List.mem_cons.mp hq with rfl | hq
          · exact c3
          · exact htt q hq
    · exact .cons ⟨e1, o1, rfl, .head _, c1, u1, u2, u3, n1, d1⟩ (.cons ⟨e2, o2, rfl, .tail _ (.head _), c2, u4, u5, u6, n2, d2⟩ (.cons ⟨e3, o3, rfl, .tail _ (.tail _ (.head _)), c3, u7, u8, u9, n3, d3⟩ .nil))
theorem partsE_bounds {e : Ent} {k : Nat} (h : e.1.cps.size ≤ 64 ∧ e.2.1 ≤ k ∧ e.2.2 ≤ k) : ∀ e2 ∈ partsE e, e2.1.cps.size ≤ 64 ∧ e2.2.1 ≤ k ∧ e2.2.2 ≤ k := by
  intro e2 he2
  unfold partsE at he2
  cases h3 : parts3 e.1.cps.toList with
  | none => rw [h3] at he2; rw [List.mem_singleton.mp he2]; exact h
  | some abc =>
    obtain ⟨a, b, c⟩ := abc
    rw [h3] at he2
    obtain ⟨hx, _⟩ := cutsF_some h3
    have hl : e.1.cps.size = a.length + 1 + b.length + 1 + c.length := by rw [← Array.length_toList, hx]; simp; omega
    simp only [List.mem_cons, List.not_mem_nil, or_false] at he2
    rcases he2 with rfl | rfl | rfl
    · exact ⟨by show a.toArray.size ≤ _; rw [List.size_toArray]; omega, h.2⟩
    · exact ⟨by show b.toArray.size ≤ _; rw [List.size_toArray]; omega, h.2.1, Nat.zero_le _⟩
    · exact ⟨by show c.toArray.size ≤ _; rw [List.size_toArray]; omega, h.2.1, Nat.zero_le _⟩
theorem partsE_len (e : Ent) : (parts3 e.1.cps.toList = none ∧ (partsE e).length = 1) ∨ ((∃ a b c, parts3 e.1.cps.toList = some (a, b, c)) ∧ (partsE e).length = 3) := by
  unfold partsE
  cases h3 : parts3 e.1.cps.toList with
  | none => exact .inl ⟨rfl, rfl⟩
  | some abc => obtain ⟨a, b, c⟩ := abc; exact .inr ⟨⟨a, b, c, rfl⟩, rfl⟩

theorem part_end {s : Shared} {Nn I T2 B2 Du P Tr Bk : Addr} {oN oT oB oD oP : Obj} {i p : Nat} {h h' : Heap} {tk : Nat} {gns : Array GenState} {m m' : Str → Option Value} {tl tl' : List (Addr × Obj)} {tv bv dv pv : Array Value} {es : List Ent} {e : Ent}
    (G : LI s Nn I oN (i + 1) i h m Tr Bk oT oB tl tv bv es) (hpl : p < es.length) (hE : Ents tl' pv.toList (partsE e)) (hsub : ∀ q ∈ tl, q ∈ tl') (htt : ∀ q ∈ tl', q.2.cls = .type "tuple") (hdS : StrsAre dv.toList ((partsE e).map shownE))
    (hbe : e.1.cps.size ≤ 64 ∧ e.2.1 ≤ i ∧ e.2.2 ≤ i) (hpel : (partsE e).length ≤ 3) (hpe1 : 1 ≤ (partsE e).length) (hbare : AllBare s.gens → AllBare gns) (F : Fr s.heap s.heap.objs.size h' m')
    (N : News s.heap s.heap.objs.size h' ((B2, lstO (bv.toList.take p ++ pv.toList ++ bv.toList.drop (p + 1)).toArray 0) :: (T2, lstO (tv.toList.take p ++ dv.toList ++ tv.toList.drop (p + 1)).toArray 0) :: (Du, oD) :: (P, oP) :: (Tr, oT) :: (Bk, oB) :: (Nn, oN) :: (I, rIt 6 (i + 1)) :: tl'))
    (hn1 : ∀ q ∈ ((Du, oD) :: (P, oP) :: (Tr, oT) :: (Bk, oB) :: (Nn, oN) :: (I, rIt 6 (i + 1)) :: tl'), q.1 ≠ T2)
    (hn2 : ∀ q ∈ ((T2, lstO (tv.toList.take p ++ dv.toList ++ tv.toList.drop (p + 1)).toArray 0) :: (Du, oD) :: (P, oP) :: (Tr, oT) :: (Bk, oB) :: (Nn, oN) :: (I, rIt 6 (i + 1)) :: tl'), q.1 ≠ B2)
    (r1 : m' (Str.ofString "numbers") = some (.ref Nn)) (r2 : m' (Str.ofString "tray") = some (.ref T2)) (r3 : m' (Str.ofString "book") = some (.ref B2)) :
    TurnEnd s Nn I oN (i + 1) (i + 1) { s with heap := h', toks := tk, gens := gns } := by
  have hl := G.len
  refine ⟨h', tk, gns, m', T2, B2, lstO (tv.toList.take p ++ dv.toList ++ tv.toList.drop (p + 1)).toArray 0, lstO (bv.toList.take p ++ pv.toList ++ bv.toList.drop (p + 1)).toArray 0, tl', (tv.toList.take p ++ dv.toList ++ tv.toList.drop (p + 1)).toArray, (bv.toList.take p ++ pv.toList ++ bv.toList.drop (p + 1)).toArray, es.take p ++ partsE e ++ es.drop (p + 1), rfl, hbare, F, ?_, r1, r2, r3, ⟨rfl, _, rfl⟩, ⟨rfl, _, rfl⟩, htt, hn2 _ (.head _), Ne.symm (hn1 _ (.tail _ (.tail _ (.tail _ (.tail _ (.head _)))))), Ne.symm (hn2 _ (.tail _ (.tail _ (.tail _ (.tail _ (.tail _ (.head _))))))), ?_, ?_, ?_, ?_, ?_⟩
  · intro q hq
    rcases List.mem_cons.mp hq with rfl | hq
    · exact N _ (.tail _ (.head _))
    · rcases List.mem_cons.mp hq with rfl | hq
      · exact N _ (.head _)
      · exact N _ (.tail _ (.tail _ (.tail _ (.tail _ (.tail _ (.tail _ hq))))))
  · have E0 := G.ents.mono hsub
    exact ((E0.take p).append hE).append (E0.drop (p + 1))
  · have E0 := G.texts
    rw [List.map_append, List.map_append, List.map_take, List.map_drop]
    exact StrsAre.append' (StrsAre.append' (StrsAre.take' E0 p) hdS) (StrsAre.drop' E0 (p + 1))
  · rw [List.length_append, List.length_append]; omega
  · rw [List.length_append, List.length_append, List.length_take, List.length_drop]; omega
  · intro e2 he2
    rcases List.mem_append.mp he2 with he2 | he2
    · rcases List.mem_append.mp he2 with he2 | he2
      · have := G.bounds e2 (List.mem_of_mem_take he2); exact ⟨this.1, by omega, by omega⟩
      · have := partsE_bounds hbe e2 he2; exact ⟨this.1, by omega, by omega⟩
    · have := G.bounds e2 (List.mem_of_mem_drop he2); exact ⟨this.1, by omega, by omega⟩

section
variable {M : Model} {A : Around} {E : Value → Shared → Prop} {s : Shared} {h₀ : Heap} {L : Addr} {m : Str → Option Value} {news : List (Addr × Obj)} {env : Env}
theorem stS {x : Str} {v : Value} {Q : Unit → Shared → Prop} (F : Fr h₀ L s.heap m) (N : News h₀ L s.heap news)
    (h : ∀ h', Heap.SameBut L s.heap h' → Fr h₀ L h' (fun y => if y = x then some v else m y) → News h₀ L h' news → Q () { s with heap := h', toks := s.toks + 1 })
    (hL : env.locals = L := by rfl) (hk : env.scope.kind = .function := by rfl) (hl : env.kindOf x = some .local := by rfl) :
    wpAny M A (storeName env x v) Q E s := by
  subst hL
  exact wpAny_storeName_local hl F.ns (fun h' hn hs => h h' hs (F.set hn hs) (N.set hs)) (by rw [hk]; rfl)
end
theorem notFrame' {h₀ h : Heap} {L D : Addr} {m : Str → Option Value} {o : Obj} {ys : Array Value} {n : Nat} (F : Fr h₀ L h m) (hg : h.get? D = some o) (hd : o.data = .seq ys n) : D ≠ L := by
  rintro rfl
  obtain ⟨o', _, _, ho, hdd, _⟩ := F.ns
  rw [hg] at ho
  cases ho
  rw [hd] at hdd
  cases hdd

end Mine

end

/- part LawC -/
section
open PySem PySem.W PySem.Calls PyProof.Rows
set_option maxRecDepth 100000
set_option maxHeartbeats 16000000
namespace Mine
local macro_rules | `(tactic| walk_at "nf") => `(tactic| try dsimp only at *)

theorem turn_run {w : World} {d : Nat} {fr gu un} {s : Shared} {nm : Str} {sc : Scope} {body : List Stmt} {a : Addr} {cd : Value} {mean mg mb} (KX : (Kf w).In s.heap) (T : TopH mean mg mb s.heap)
    (hlaw : ∃ oc od name params pm cdv doc osl, (Kf w).lookup 107 = some ⟨oc, od, .func (Calls.docDef name params body sc pm cdv doc), osl⟩)
    (hu : un < cLine) (hroom : d + 10 < recursionLimit) {nv : Array Value} {ks : List Int} {neN : Nat} (hnv : IntsAre nv.toList ks) (hnl : nv.size ≤ 8) {i : Nat} (hi : i < 6)
    {Nn I : Addr} {h : Heap} {tk : Nat} {gns : Array GenState} {m : Str → Option Value} {Tr Bk : Addr} {oT oB : Obj} {tl : List (Addr × Obj)} {tv bv : Array Value} {es : List Ent}
    (G : LI s Nn I (lstO nv neN) (i + 1) i h m Tr Bk oT oB tl tv bv es) {tt : Tok} (hm : m (Str.ofString "turn") = some (.int (i : Int) tt)) (hbare : AllBare s.gens → AllBare gns) :
    wpAny (MM w) ⟨none, d, fr, gu, un⟩ (execs (turnBody body) (envOf nm sc s.heap.objs.size a cd)) (fun f s' => f = .next ∧ TurnEnd s Nn I (lstO nv neN) (i + 1) (i + 1) s') (fun _ _ => False) { s with heap := h, toks := tk, gens := gns } := by
  obtain ⟨oc, od, name, params, pm, cdv, doc, osl, hlk⟩ := hlaw
  have e0 : (Kf w).lookup 107 = some _ := rfl
  rw [e0] at hlk
  cases hlk
  have TR := topRead_of T
  have hlN : h.IsList Nn nv := News.isList G.news (.tail _ (.tail _ (.head _)))
  -- deed
  refine wpAny_execs_cons (wpAny_Assign_Name (wpAny_BinOp (Subscript_ ?_)))
  refine Tuple_ (spliced_more (wpAny_Constant_int (spliced_more (wpAny_Constant_int (spliced_more (wpAny_Constant_int (spliced_more (wpAny_Constant_int (spliced_more (wpAny_Constant_int (spliced_more (wpAny_Constant_int (spliced_none ?_)))))))))))))
  refine newTuple_N' (s := ⟨_, _, _, _, _⟩) G.fr G.news ?_ (by rw [sizeLine_eq]; simp)
  intro Tt h₂ _ F₂ N₂ hk₂
  walk_at "nf"
  refine ldE F₂ hm ?_
  refine item_anyT (ns := [0, 1, 6, 2, 7, 3]) ⟨_, N₂.get (.head _), rfl, 0, rfl⟩ (.cons _ _ (.cons _ _ (.cons _ _ (.cons _ _ (.cons _ _ (.cons _ _ .nil)))))) (by omega) (by show (i : Int) < 6; omega) (by omega) ?_
  intro tq
  generalize ([0, 1, 6, 2, 7, 3] : List Int).getD (i : Int).toNat 0 = c0
  replace N₂ := News.tail N₂
  have hlN₂ : h₂.IsList Nn nv := News.isList N₂ (.tail _ (.tail _ (.head _)))
  refine Call_ (name_B F₂ KX TR (z_sum w) b_sum (by decide) ?_)
  refine callWith_builtin1 (spliced_more (Subscript_ (ldE F₂ G.mN ?_)))
  refine wpAny_Slice (evalPart_some_step (ldE F₂ hm (evalPart_none_step (evalPart_some_step (wpAny_Constant_int ?_)))))
  refine slice_list3 (s := ⟨_, _, _, _, _⟩) F₂ N₂ hlN₂ (.int _ _) .none (.int _ _) (by decide) ?_ (hsz := by rw [sizeLine_eq]; omega)
  intro h₃ F₃ N₃
  walk_at "nf"
  refine spliced_none ?_
  have hpk := (IntsAre.pick (vs := nv.toList) hnv (some (i : Int)) none (some 6)).allInts.items
  obtain ⟨xs, hxs⟩ := hpk
  have hl₃ : h₃.IsList (h₂.objs.size + 1) (intItems xs) := by
    rw [← hxs]
    have := News.isList N₃ (.head _)
    simpa using this
  refine sum_intListG rfl hl₃ ?_
  intro h₄ tk₄ tsum hk₄
  walk_at "nf"
  have F₄ := Fr.keeps' F₃ hk₄
  have N₄ := News.keeps' (News.tail N₃) hk₄
  refine add_int ?_
  refine stE (s := ⟨_, _, _, _, _⟩) F₄ N₄ ?_
  intro h₅ F₅ N₅
  walk_at "nf"
  generalize c0 + preSum (numAt xs) xs.size = deed at F₅
  have G₅ := G.at' F₅ N₅ rfl rfl rfl
  -- place
  refine wpAny_execs_cons (wpAny_Assign_Name (wpAny_BinOp (wpAny_BinOp (ldE F₅ rfl (wpAny_Constant_int (floordiv_int (by decide) ?_))))))
  refine Call_ (name_B F₅ KX TR (z_len w) b_len (by decide) ?_)
  refine callWith_builtin1 (spliced_more (ldE F₅ G₅.mT (spliced_none ?_)))
  have htv := G₅.tvlen
  have hpos := G₅.pos
  have hle := G₅.len
  refine call_len_list G₅.isT (by omega) ?_
  refine mod_int (by omega) ?_
  obtain ⟨p, hp, hpl⟩ : ∃ p : Nat, (deed.fdiv 3).fmod (tv.size : Int) = (p : Int) ∧ p < es.length := by
    have := fmod_bound (deed.fdiv 3) (tv.size : Int) (by omega)
    exact ⟨((deed.fdiv 3).fmod (tv.size : Int)).toNat, by omega, by omega⟩
  rw [hp]
  refine stE (s := ⟨_, _, _, _, _⟩) F₅ N₅ ?_
  intro h₆ F₆ N₆
  walk_at "nf"
  obtain ⟨m₆, td, tp, G₆, qd, qp⟩ : ∃ m₆ td tp, LI s Nn I (lstO nv neN) (i + 1) i h₆ m₆ Tr Bk oT oB tl tv bv es ∧ m₆ (Str.ofString "deed") = some (.int deed td) ∧ m₆ (Str.ofString "place") = some (.int (p : Int) tp) := ⟨_, _, _, G.at' F₆ N₆ rfl rfl rfl, rfl, rfl⟩
  clear F₂ N₂ F₃ N₃ F₄ N₄ F₅ N₅ F₆ N₆ G₅ hl₃ hlN hlN₂ hk₂ hk₄ G hm
  refine wpAny_execs_cons (wpAny_mono (?_ : wpAny _ _ _ (fun f s' => f = .next ∧ TurnEnd s Nn I (lstO nv neN) (i + 1) (i + 1) s') (fun _ _ => False) _) (fun f s' hf => ?_) (fun _ _ e => e))
  · have hle6 : es.length ≤ 13 := by omega
    have hbv := G₆.bvlen
    have hpb : p < bv.size := by omega
    have hpt : p < tv.size := by omega
    obtain ⟨v, hv⟩ : ∃ v, bv[p]? = some v := ⟨_, Array.getElem?_eq_getElem hpb⟩
    obtain ⟨e, hee, hEe⟩ := G₆.ents.get p v (by rw [Array.getElem?_toList]; exact hv)
    obtain ⟨x', ux, hx', htvx⟩ : ∃ x' ux, (es.map shownE)[p]? = some x' ∧ tv[p]? = some (.str x' ux) := by
      obtain ⟨x', ux, h1, h2⟩ := strs_get G₆.texts p tv[p] (by rw [Array.getElem?_toList]; exact Array.getElem?_eq_getElem hpt)
      exact ⟨x', ux, h1, by rw [Array.getElem?_eq_getElem hpt, h2]⟩
    obtain rfl : shownE e = x' := by
      rw [List.getElem?_map, hee] at hx'
      simpa using hx'
    obtain ⟨ad, t0, t1, t2, rfl, htup⟩ := hEe.tup G₆.inTl
    have hbe := G₆.bounds e (List.mem_of_getElem? hee)
    have hpn : ((p : Int)).toNat = p := by omega
    refine wpAny_If (wpAny_isTrue_Compare1 (wpAny_BinOp (ldE G₆.fr qd (wpAny_Constant_int (mod_int (by decide) (wpAny_Constant_int (eq_int (wpAny_truthy_bool ?_))))))))
    by_cases h0 : deed.fmod 3 = 0
    · rw [if_pos (by simp [h0])]
      -- quotedata
      refine wpAny_execs_cons (Assign_Tuple (Subscript_ (ldE (s := ⟨_, _, _, _, _⟩) G₆.fr G₆.mB (ldE (s := ⟨_, _, _, _, _⟩) G₆.fr qp ?_))))
      refine item_list (s := ⟨_, _, _, _, _⟩) G₆.isB (by omega) (by omega) (by rw [hpn]; exact hv) ?_
      refine unpackN_ (s := ⟨_, _, _, _, _⟩) G₆.fr G₆.news htup rfl rfl rfl ?_
      intro h₇ F₇ N₇
      refine assignInOrder_cons (assign_Name (stE (s := ⟨_, _, _, _, _⟩) F₇ N₇ ?_))
      intro h₈ F₈ N₈
      refine assignInOrder_cons (assign_Name (stE (s := ⟨_, _, _, _, _⟩) F₈ N₈ ?_))
      intro h₉ F₉ N₉
      refine assignInOrder_cons (assign_Name (stE (s := ⟨_, _, _, _, _⟩) F₉ N₉ ?_))
      intro h₁₀ F₁₀ N₁₀
      refine assignInOrder_nil ?_
      walk_at "nf"
      obtain ⟨m₇, G₇, qp, r1, r2, r3⟩ : ∃ m₇, LI s Nn I (lstO nv neN) (i + 1) i h₁₀ m₇ Tr Bk oT oB tl tv bv es ∧ m₇ (Str.ofString "place") = some (.int (p : Int) tp) ∧ m₇ (Str.ofString "source") = some (.str e.1 t0) ∧ m₇ (Str.ofString "sends") = some (.int (e.2.1 : Int) t1) ∧ m₇ (Str.ofString "first") = some (.int (e.2.2 : Int) t2) :=
        ⟨_, G₆.at' F₁₀ N₁₀ rfl rfl rfl, qp, rfl, rfl, rfl⟩
      clear F₇ N₇ F₈ N₈ F₉ N₉ F₁₀ N₁₀
      refine wpAny_execs_cons (wpAny_Assign_Subscript (Call_ (name_K G₇.fr KX TR (n_quote w) ?_)))
      refine callWith_K KX (by kernel_rfl) (spliced_more (Subscript_ (ldE G₇.fr G₇.mT (ldE G₇.fr qp ?_))))
      refine item_list G₇.isT (by omega) (by omega) (by rw [hpn]; exact htvx) ?_
      refine spliced_none ⟨KX.keeps G₇.fr.keep, wpAny_call ?_⟩
      refine quote_spec (KX.keeps G₇.fr.keep) (T.keeps G₇.fr.keep) (by show d < _; omega) (by have := shownE_size e i hbe (by omega); omega) ?_
      rintro _ tkq ⟨h₁₁, tk₁₁, rfl, hk₁₁⟩
      walk_at "nf"
      have G₈ := G₇.keeps hk₁₁
      refine ldE G₈.fr G₈.mT (ldE G₈.fr qp ?_)
      refine wpAny_setItem_list G₈.isT (by omega) (by omega) (by omega) ?_
      intro h₁₂ hl₁₂ hs₁₂
      obtain ⟨oT', hoT', hcT', hdT'⟩ := hl₁₂
      walk_at "nf"
      have N₁₂ := News.put G₈.news hs₁₂ hoT' G₈.apT
      have F₁₂ := Fr.changed G₈.fr hs₁₂ (G₈.news _ (.head _)).2.1 (G₈.news _ (.head _)).2.2
      refine wpAny_execs_cons (wpAny_Assign_Subscript (Tuple_ (spliced_more (ldE F₁₂ r1 (spliced_more (wpAny_BinOp (ldE F₁₂ r2 (wpAny_Constant_int (add_int (spliced_more (wpAny_BinOp (ldE (s := ⟨_, _, _, _, _⟩) F₁₂ r3 (wpAny_Constant_int (add_int (spliced_none ?_)))))))))))))))
      refine newTuple_N' (s := ⟨_, _, _, _, _⟩) F₁₂ N₁₂ ?_ (by rw [sizeLine_eq]; simp)
      intro e' h₁₃ _ F₁₃ N₁₃ hk₁₃
      have heB : Bk ≠ e' := (hk₁₃ _ _ (N₁₂ _ (.tail _ (.head _))).1).2
      obtain ⟨oE, hoE, N₁₃⟩ : ∃ oE, TupO (e.1, e.2.1 + 1, e.2.2 + 1) oE ∧ News s.heap s.heap.objs.size h₁₃ ((e', oE) :: (Tr, oT') :: (Bk, oB) :: (Nn, lstO nv neN) :: (I, rIt 6 (i + 1)) :: tl) := ⟨_, ⟨rfl, t0, _, _, 0, rfl⟩, N₁₃⟩
      walk_at "nf"
      refine ldE F₁₃ G₈.mB (ldE F₁₃ qp ?_)
      refine wpAny_setItem_list (G₈.lB.isList (N₁₃.get (.tail _ (.tail _ (.head _))))) (by omega) (by omega) (by omega) ?_
      intro h₁₄ hl₁₄ hs₁₄
      obtain ⟨oB', hoB', hcB', hdB'⟩ := hl₁₄
      walk_at "nf"
      repeat refine wpAny_execs_nil ?_
      have F₁₄ := Fr.changed F₁₃ hs₁₄ (N₁₃ _ (.tail _ (.tail _ (.head _)))).2.1 (N₁₃ _ (.tail _ (.tail _ (.head _)))).2.2
      refine ⟨rfl, h₁₄, _, gns, m₇, Tr, Bk, oT', oB', (e', oE) :: tl, _, _, es.set p (e.1, e.2.1 + 1, e.2.2 + 1), rfl, hbare, F₁₄, ?_, G₈.mN, G₈.mT, G₈.mB, ⟨hcT', hdT'⟩, ⟨hcB', hdB'⟩, ?_, G₈.tb, G₈.tn, G₈.bn, ?_, ?_, ?_, ?_, ?_⟩
      · intro q hq
        have go : q ∈ ((e', oE) :: (Tr, oT') :: (Bk, oB) :: (Nn, lstO nv neN) :: (I, rIt 6 (i + 1)) :: tl) → q.1 ≠ Bk → h₁₄.get? q.1 = some q.2 ∧ q.1 ≠ s.heap.objs.size ∧ s.heap.get? q.1 = none := fun h1 h2 => ⟨hs₁₄.extBut _ _ h2 (N₁₃ q h1).1, (N₁₃ q h1).2⟩
        simp only [List.mem_cons] at hq
        rcases hq with hq | hq | hq | hq | hq | hq
        · subst hq; exact go (by simp) G₈.tb
        · subst hq; exact ⟨hoB', (N₁₃ _ (.tail _ (.tail _ (.head _)))).2⟩
        · subst hq; exact go (by simp) (Ne.symm G₈.bn)
        · subst hq; exact go (by simp) (G₈.apB _ (.tail _ (.head _)))
        · subst hq; exact go (by simp) (Ne.symm heB)
        · exact go (by simp [hq]) (G₈.apB _ (.tail _ (.tail _ hq)))
      · intro q hq
        rcases List.mem_cons.mp hq with rfl | hq
        · exact hoE.1
        · exact G₈.tups q hq
      · rw [Array.toList_setIfInBounds, hpn]
        exact (G₈.ents.mono fun q hq => .tail _ hq).set ⟨e', oE, rfl, .head _, hoE⟩ p
      · rw [Array.toList_setIfInBounds, hpn, List.map_set, ← quote_E]
        exact StrsAre.set' G₈.texts _ _ p
      · rw [List.length_set]; exact G₈.pos
      · rw [List.length_set]; have := G₈.len; omega
      · intro e2 he2
        rcases List.mem_or_eq_of_mem_set he2 with he2 | rfl
        · have := G₈.bounds e2 he2; exact ⟨this.1, by omega, by omega⟩
        · exact ⟨hbe.1, by show e.2.1 + 1 ≤ _; omega, by show e.2.2 + 1 ≤ _; omega⟩
    · rw [if_neg (by simp [h0])]
      refine wpAny_execs_cons (wpAny_If (wpAny_isTrue_Compare1 (wpAny_BinOp (ldE (s := ⟨_, _, _, _, _⟩) G₆.fr qd (wpAny_Constant_int (mod_int (by decide) (wpAny_Constant_int (eq_int (wpAny_truthy_bool ?_)))))))))
      by_cases h1 : deed.fmod 3 = 1
      · rw [if_pos (by simp [h1])]
        -- _law_parts
        refine wpAny_execs_cons (wpAny_Assign_Name (Call_ (name_K (s := ⟨_, _, _, _, _⟩) G₆.fr KX TR (n_parts w) ?_)))
        refine callWith_K KX (by kernel_rfl) (spliced_more (Subscript_ (ldE (s := ⟨_, _, _, _, _⟩) G₆.fr G₆.mB (ldE (s := ⟨_, _, _, _, _⟩) G₆.fr qp ?_))))
        refine item_list (s := ⟨_, _, _, _, _⟩) G₆.isB (by omega) (by omega) (by rw [hpn]; exact hv) ?_
        refine spliced_none ⟨KX.keeps G₆.fr.keep, wpAny_call ?_⟩
        refine parts_spec (s := ⟨_, _, _, _, _⟩) (KX.keeps G₆.fr.keep) (T.keeps G₆.fr.keep) htup (Nat.le_trans hbe.1 (by decide)) (by show d < _; omega) ?_
        rintro _ P pv ⟨h₇, tk₇, rfl, hk₇⟩ hPn ⟨neP, hP⟩ hparts
        walk_at "nf"
        have G₇ := G₆.keeps hk₇
        have hap : ∀ b o, h₆.get? b = some o → b ≠ P := fun b o q q2 => by rw [q2, hPn] at q; cases q
        obtain ⟨tl', hsub, htl', htt', hE'⟩ := parts_ents (s := s) (L := s.heap.objs.size) (h₆ := h₆) (h₇ := h₇) hEe (fun q hq => G₇.news q (.tail _ (.tail _ (.tail _ (.tail _ hq))))) G₇.tups (by obtain ⟨o, _, _, ho, _⟩ := G₆.fr.ns; exact ⟨o, ho⟩) G₆.fr.keep hparts
        have NP : News s.heap s.heap.objs.size h₇ ((P, lstO pv neP) :: (Tr, oT) :: (Bk, oB) :: (Nn, lstO nv neN) :: (I, rIt 6 (i + 1)) :: tl') := fun q hq => by
          simp only [List.mem_cons] at hq
          rcases hq with rfl | rfl | rfl | rfl | rfl | hq
          · refine ⟨hP, notFrame G₇.fr hP, ?_⟩
            cases q2 : s.heap.get? P with
            | none => rfl
            | some o' => exact absurd rfl (hap _ _ (G₆.fr.keep _ _ q2))
          · exact G₇.news _ (.head _)
          · exact G₇.news _ (.tail _ (.head _))
          · exact G₇.news _ (.tail _ (.tail _ (.head _)))
          · exact G₇.news _ (.tail _ (.tail _ (.tail _ (.head _))))
          · exact htl' q hq
        have hpvl : pv.size = (partsE e).length := by rw [← Array.length_toList]; exact hE'.len
        have hpel : (partsE e).length ≤ 3 := by rcases partsE_len e with h | h <;> omega
        refine stE (s := ⟨_, _, _, _, _⟩) G₇.fr NP ?_
        intro h₈ F₈ N₈
        walk_at "nf"
        obtain ⟨m₈, F₈, r1, r2, r3, r4, r5⟩ : ∃ m₈, Fr s.heap s.heap.objs.size h₈ m₈ ∧ m₈ (Str.ofString "numbers") = some (.ref Nn) ∧ m₈ (Str.ofString "tray") = some (.ref Tr) ∧ m₈ (Str.ofString "book") = some (.ref Bk) ∧ m₈ (Str.ofString "parts") = some (.ref P) ∧ m₈ (Str.ofString "place") = some (.int (p : Int) tp) := ⟨_, F₈, G₇.mN, G₇.mT, G₇.mB, rfl, qp⟩
        have htl₈ : ∀ q ∈ tl', h₈.get? q.1 = some q.2 := fun q hq => (N₈ q (.tail _ (.tail _ (.tail _ (.tail _ (.tail _ hq)))))).1
        -- due
        refine wpAny_execs_cons (comp_assign (h₀ := s.heap) (L := s.heap.objs.size) (m := m₈) (news := ((P, lstO pv neP) :: (Tr, oT) :: (Bk, oB) :: (Nn, lstO nv neN) :: (I, rIt 6 (i + 1)) :: tl')) (fun v y => ∃ e u, EntIs tl' v e ∧ y = .str (shownE e) u) rfl rfl rfl rfl (by decide) rfl (by decide) rfl rfl rfl ?_ (fun _ => rfl))
        refine ldE F₈ r4 ?_
        refine ⟨P, pv, rfl, News.isList N₈ (.head _), by rw [sizeLine_eq]; omega, F₈, N₈, ?_, ?_⟩
        · intro C v s₂ m₂ E' hv hns hm₂ hk₂
          obtain ⟨e2, hee2, hEe2⟩ := ents_mem hE' v hv
          obtain ⟨ad2, u0, u1, u2, rfl, htup2⟩ := hEe2.tup htl₈
          have hb2 := partsE_bounds hbe e2 hee2
          have hks : ∀ b o, s.heap.get? b = some o → s₂.heap.get? b = some o := fun b o q => hk₂ b o (F₈.keep b o q)
          refine Call_ (nameK_E (h₀ := s.heap) hks KX TR (n_shown w) ?_)
          refine callWith_K KX (by kernel_rfl) (spliced_more (ldNs hns hm₂ (spliced_none ⟨KX.keeps hks, wpAny_call ?_⟩)))
          refine shown_spec (KX.keeps hks) (T.keeps hks) (htup2.keeps hk₂) (by omega) (by omega) (by omega) (by omega) ?_
          intro s' tk' hK
          exact ⟨⟨e2, tk', hEe2, rfl⟩, hK⟩
        intro Du dv neDu h₉ tk₉ F₉ N₉ hap₉ hPd
        have hdS := paired_shown htl₈ hPd hE'
        walk_at "nf"
        obtain ⟨m₉, F₉, r1, r2, r3, r4, r5, r6⟩ : ∃ m₈, Fr s.heap s.heap.objs.size h₉ m₈ ∧ m₈ (Str.ofString "numbers") = some (.ref Nn) ∧ m₈ (Str.ofString "tray") = some (.ref Tr) ∧ m₈ (Str.ofString "book") = some (.ref Bk) ∧ m₈ (Str.ofString "parts") = some (.ref P) ∧ m₈ (Str.ofString "place") = some (.int (p : Int) tp) ∧ m₈ (Str.ofString "due") = some (.ref Du) := ⟨_, F₉, r1, r2, r3, r4, r5, rfl⟩
        -- parted
        have hTx : h₉.IsList Tr tv := G₇.lT.isList (N₉.get (.tail _ (.tail _ (.head _))))
        refine wpAny_execs_cons (wpAny_Assign_Name (Call_ (name_K F₉ KX TR (n_decode w) ?_)))
        refine callWith_K KX (by kernel_rfl) (spliced_more (Subscript_ (ldE F₉ r2 (ldE F₉ r5 ?_))))
        refine item_list hTx (by omega) (by omega) (by rw [hpn]; exact htvx) ?_
        refine spliced_none ⟨KX.keeps F₉.keep, wpAny_call ?_⟩
        refine decode_spec (KX.keeps F₉.keep) (T.keeps F₉.keep) (by show d < _; omega) (by have := shownE_size e i hbe (by omega); omega) ?_
        rintro _ vp ⟨h₁₀, tk₁₀, rfl, hk₁₀⟩ hdec
        walk_at "nf"
        have F₁₀ := Fr.keeps' F₉ hk₁₀
        have N₁₀ := News.keeps' N₉ hk₁₀
        have hdec' : (parts3 e.1.cps.toList = none ∧ ∃ Dp t, vp = .ref Dp ∧ IsTup h₁₀ Dp #[.none, .none, .str (shownE e) t]) ∨ ((∃ a b c, parts3 e.1.cps.toList = some (a, b, c)) ∧ ∃ Dp ys ne, vp = .ref Dp ∧ h₁₀.get? Dp = some (lstO ys ne) ∧ StrsAre ys.toList ((partsE e).map shownE)) := by
          unfold Decoded at hdec
          have h3 : parts3 (shownE e).cps.toList = (parts3 e.1.cps.toList).map fun t => (shownL e.2.1 e.2.2 none t.1, shownL e.2.1 0 none t.2.1, shownL e.2.1 0 none t.2.2) := parts3_shown e.2.1 e.2.2 none e.1.cps.toList
          rw [h3] at hdec
          unfold partsE
          cases hq : parts3 e.1.cps.toList with
          | none =>
            rw [hq] at hdec
            obtain ⟨Dp, t, rfl, hg⟩ := hdec
            exact .inl ⟨rfl, Dp, t, rfl, _, hg, rfl, 0, rfl⟩
          | some abc =>
            obtain ⟨a, b, c⟩ := abc
            rw [hq] at hdec
            obtain ⟨Dp, u1, u2, u3, rfl, ne, hg⟩ := hdec
            exact .inr ⟨⟨a, b, c, rfl⟩, Dp, _, ne, rfl, hg, .cons _ _ (.cons _ _ (.cons _ _ .nil))⟩
        refine stS (s := ⟨_, _, _, _, _⟩) F₁₀ N₁₀ ?_
        intro h₁₁ hs₁₁ Fa N₁₁
        walk_at "nf"
        obtain ⟨m₁₁, F₁₁, r1, r2, r3, r4, r5, r6, r7⟩ : ∃ m₈, Fr s.heap s.heap.objs.size h₁₁ m₈ ∧ m₈ (Str.ofString "numbers") = some (.ref Nn) ∧ m₈ (Str.ofString "tray") = some (.ref Tr) ∧ m₈ (Str.ofString "book") = some (.ref Bk) ∧ m₈ (Str.ofString "parts") = some (.ref P) ∧ m₈ (Str.ofString "place") = some (.int (p : Int) tp) ∧ m₈ (Str.ofString "due") = some (.ref Du) ∧ m₈ (Str.ofString "parted") = some vp := ⟨_, Fa, r1, r2, r3, r4, r5, r6, rfl⟩
        clear Fa
        refine wpAny_execs_cons (wpAny_mono (?_ : wpAny _ _ _ (fun f s' => f = .next ∧ ∃ h tk, s' = { s with heap := h, toks := tk, gens := gns } ∧ Fr s.heap s.heap.objs.size h m₁₁ ∧ News s.heap s.heap.objs.size h ((Du, lstO dv neDu) :: (P, lstO pv neP) :: (Tr, oT) :: (Bk, oB) :: (Nn, lstO nv neN) :: (I, rIt 6 (i + 1)) :: tl')) (fun _ _ => False) _) (fun f s' hf => ?_) (fun _ _ e => e))
        · refine wpAny_If (wpAny_isTrue_Compare1 (ldE F₁₁ r7 (IfExp_ (wpAny_isTrue_Compare1 (Call_ (name_B F₁₁ KX TR (z_len w) b_len (by decide) ?_))))))
          refine callWith_builtin1 (spliced_more (ldE F₁₁ r4 (spliced_none ?_)))
          refine call_len_list (News.isList N₁₁ (.tail _ (.head _))) (by omega) ?_
          refine wpAny_Constant_int (eq_int (wpAny_truthy_bool ?_))
          rcases hdec' with ⟨hnone, Dp, t, rfl, hDp⟩ | ⟨hsome, Dp, ys, ne, rfl, hDp, hSp⟩
          · have hlen1 : (partsE e).length = 1 := by rcases partsE_len e with h | h; exact h.2; obtain ⟨⟨a, b, c, h⟩, _⟩ := h; rw [hnone] at h; cases h
            have hpe : partsE e = [e] := by unfold partsE; rw [hnone]
            rw [if_neg (by simp; omega)]
            rw [hpe] at hdS
            obtain ⟨ud, hud⟩ : ∃ ud, dv[0]? = some (.str (shownE e) ud) := by
              have : dv.toList[0]? = some (dv.toList[0]'(by rw [hdS.len_eq]; simp)) := List.getElem?_eq_getElem _
              obtain ⟨y, t', h1, h2⟩ := strs_get hdS 0 _ this
              simp at h1
              refine ⟨t', ?_⟩
              rw [← Array.getElem?_toList, this, h2, ← h1]
            have hDp' : IsTup h₁₁ Dp #[.none, .none, .str (shownE e) t] := by
              obtain ⟨o, ho, hc, n, hd⟩ := hDp
              exact ⟨o, hs₁₁.extBut _ _ (notFrame' F₁₀ ho hd) ho, hc, n, hd⟩
            refine Tuple_ (spliced_more (wpAny_Constant_none (spliced_more (wpAny_Constant_none (spliced_more (Subscript_ (ldE (s := ⟨_, _, _, _, _⟩) F₁₁ r6 (wpAny_Constant_int ?_))))))))
            refine item_list (s := ⟨_, _, _, _, _⟩) (News.isList N₁₁ (.head _)) (by decide) (by decide) hud ?_
            refine spliced_none ?_
            refine newTuple_N' (s := ⟨_, _, _, _, _⟩) F₁₁ N₁₁ ?_ (by rw [sizeLine_eq]; simp)
            intro Tn h₁₂ _ F₁₂ N₁₂ hk₁₂
            refine ne_nns (hDp'.keeps fun b o q => (hk₁₂ b o q).1) ⟨_, N₁₂.get (.head _), rfl, 0, rfl⟩ hu (wpAny_truthy_bool ?_)
            rw [if_neg (by decide)]
            walk_at "nf"
            repeat refine wpAny_execs_nil ?_
            exact ⟨rfl, h₁₂, _, rfl, F₁₂, News.tail N₁₂⟩
          · have hlen3 : (partsE e).length = 3 := by rcases partsE_len e with h | h; (obtain ⟨a, b, c, hh⟩ := hsome; rw [h.1] at hh; cases hh); exact h.2
            rw [if_pos (by simp; omega)]
            refine ldE (s := ⟨_, _, _, _, _⟩) F₁₁ r6 ?_
            refine ne_strs (s := ⟨_, _, _, _, _⟩) ⟨_, hs₁₁.extBut _ _ (notFrame F₁₀ hDp) hDp, rfl, _, rfl⟩ (News.isList N₁₁ (.head _)) hSp hdS hu (wpAny_truthy_bool ?_)
            rw [if_neg (by decide)]
            walk_at "nf"
            repeat refine wpAny_execs_nil ?_
            exact ⟨rfl, h₁₁, _, rfl, F₁₁, N₁₁⟩
        · obtain ⟨rfl, h₁₂, tk₁₂, rfl, F₁₂, N₁₂⟩ := hf
          have hdl : dv.size = (partsE e).length := by rw [← Array.length_toList, hdS.len_eq, List.length_map]
          refine wpAny_execs_cons (splice_assign (oa := oT) (ob := lstO dv neDu) (av := tv) (bv := dv) F₁₂ N₁₂ r2 r6 r5 (.tail _ (.tail _ (.head _))) (.head _) G₇.lT ⟨rfl, _, rfl⟩ (by rw [sizeLine_eq]; omega) ?_)
          intro T2 h₁₇ tk₁₇ F₁₇ N₁₇ hap₁₇
          walk_at "nf"
          obtain ⟨m₁₇, F₁₇, r1, r2, r3, r4, r5⟩ : ∃ m₈, Fr s.heap s.heap.objs.size h₁₇ m₈ ∧ m₈ (Str.ofString "numbers") = some (.ref Nn) ∧ m₈ (Str.ofString "tray") = some (.ref T2) ∧ m₈ (Str.ofString "book") = some (.ref Bk) ∧ m₈ (Str.ofString "parts") = some (.ref P) ∧ m₈ (Str.ofString "place") = some (.int (p : Int) tp) := ⟨_, F₁₇, r1, rfl, r3, r4, r5⟩
          refine wpAny_execs_cons (splice_assign (oa := oB) (ob := lstO pv neP) (av := bv) (bv := pv) F₁₇ N₁₇ r3 r4 r5 (.tail _ (.tail _ (.tail _ (.tail _ (.head _))))) (.tail _ (.tail _ (.head _))) G₇.lB ⟨rfl, _, rfl⟩ (by rw [sizeLine_eq]; omega) ?_)
          intro B2 h₁₈ tk₁₈ F₁₈ N₁₈ hap₁₈
          walk_at "nf"
          repeat refine wpAny_execs_nil ?_
          exact ⟨rfl, part_end G₇ hpl hE' hsub htt' hdS hbe hpel (by rcases partsE_len e with h | h <;> omega) hbare F₁₈ N₁₈ hap₁₇ hap₁₈ r1 r2 rfl⟩
      · rw [if_neg (by simp [h1])]
        -- _pre_parse_validation
        refine wpAny_execs_cons (wpAny_Assign_Name (Call_ (name_K (s := ⟨_, _, _, _, _⟩) G₆.fr KX TR (n_pre w) ?_)))
        refine callWith_K KX (by kernel_rfl) (spliced_more (ldE (s := ⟨_, _, _, _, _⟩) G₆.fr G₆.mT (spliced_none ⟨KX.keeps G₆.fr.keep, wpAny_call ?_⟩)))
        refine pre_spec (s := ⟨_, _, _, _, _⟩) (KX.keeps G₆.fr.keep) (T.keeps G₆.fr.keep) G₆.isT G₆.texts (fun x hx => ?_) (by rw [List.length_map]; omega) (by show d + 3 < _; omega) ?_
        · obtain ⟨e2, he2, rfl⟩ := List.mem_map.mp hx
          exact shownE_size e2 i (G₆.bounds e2 he2) (by omega)
        rintro _ D ys ⟨h₇, tk₇, gns₇, rfl, hb₇, hk₇⟩ hDn ⟨neD, hD⟩ hS
        walk_at "nf"
        have hbare₇ : AllBare s.gens → AllBare gns₇ := fun hb => hb₇ (hbare hb)
        have G₇ := G₆.keeps hk₇
        have hap : ∀ b o, h₆.get? b = some o → b ≠ D := fun b o q q2 => by rw [q2, hDn] at q; cases q
        have hDT : ∀ p ∈ ((Tr, oT) :: (Bk, oB) :: (Nn, lstO nv neN) :: (I, rIt 6 (i + 1)) :: tl), p.1 ≠ D := fun q hq => hap _ _ (G₆.news q hq).1
        have ND : News s.heap s.heap.objs.size h₇ ((D, lstO ys neD) :: (Tr, oT) :: (Bk, oB) :: (Nn, lstO nv neN) :: (I, rIt 6 (i + 1)) :: tl) := fun q hq => by
          rcases List.mem_cons.mp hq with rfl | hq
          · refine ⟨hD, notFrame G₇.fr hD, ?_⟩
            cases q2 : s.heap.get? D with
            | none => rfl
            | some o' => exact absurd rfl (hap _ _ (G₆.fr.keep _ _ q2))
          · exact G₇.news q hq
        refine stE (s := ⟨_, _, _, _, _⟩) G₇.fr ND ?_
        intro h₈ F₈ N₈
        walk_at "nf"
        obtain ⟨m₈, F₈, r1, r2, r3⟩ : ∃ m₈, Fr s.heap s.heap.objs.size h₈ m₈ ∧ m₈ (Str.ofString "numbers") = some (.ref Nn) ∧ m₈ (Str.ofString "tray") = some (.ref D) ∧ m₈ (Str.ofString "book") = some (.ref Bk) := ⟨_, F₈, G₇.mN, rfl, G₇.mB⟩
        have htl₈ : ∀ p ∈ tl, h₈.get? p.1 = some p.2 := fun q hq => (N₈ q (.tail _ (.tail _ (.tail _ (.tail _ (.tail _ hq)))))).1
        refine wpAny_execs_cons (comp_assignT (h₀ := s.heap) (L := s.heap.objs.size) (m := m₈) (news := ((D, lstO ys neD) :: (Tr, oT) :: (Bk, oB) :: (Nn, lstO nv neN) :: (I, rIt 6 (i + 1)) :: tl)) (fun v T o => T ≠ s.heap.objs.size ∧ s.heap.get? T = none ∧ ∃ e, EntIs tl v e ∧ TupO (closE e) o) rfl rfl rfl rfl (by decide) rfl (by decide) rfl rfl rfl ?_ (fun _ => rfl))
        refine ldE F₈ r3 ?_
        refine ⟨Bk, bv, rfl, G₇.lB.isList (N₈.get (.tail _ (.tail _ (.head _)))), by rw [sizeLine_eq]; omega, F₈, N₈, ?_, ?_⟩
        · intro C v s₂ m₂ E' hv hns hm₂ hk₂
          obtain ⟨e2, hee2, hEe2⟩ := ents_mem G₇.ents v hv
          obtain ⟨a2, o2, rfl, hmem2, hto2⟩ := id hEe2
          obtain ⟨a2', u0, u1, u2, ha2, htup2⟩ := hEe2.tup htl₈
          cases ha2
          have hb2 := G₇.bounds e2 hee2
          have hks : ∀ b o, s.heap.get? b = some o → s₂.heap.get? b = some o := fun b o q => hk₂ b o (F₈.keep b o q)
          refine IfExp_ (isTrue_plain (Call_ (nameK_E (h₀ := s.heap) hks KX TR (n_closes w) ?_)))
          refine callWith_K KX (by kernel_rfl) (spliced_more (Subscript_ (ldNs hns hm₂ (wpAny_Constant_int ?_))))
          refine item_tuple (j := 0) (x := .str e2.1 u0) (htup2.keeps hk₂) (by decide) (by decide) rfl rfl ?_
          refine spliced_none ⟨KX.keeps hks, wpAny_call ?_⟩
          refine closes_spec (s := { s₂ with toks := s₂.toks + 1 }) (src := e2.1) (KX.keeps hks) (T.keeps hks) (Nat.le_trans hb2.1 (by decide)) (by show d < _; omega) ?_
          rintro _ ⟨h₉, tk₉, rfl, hk₉⟩
          refine wpAny_truthy_bool ?_
          have hn2 := N₈ _ (.tail _ (.tail _ (.tail _ (.tail _ (.tail _ hmem2)))))
          cases hcl : closesL e2.1.cps.toList with
          | true =>
            rw [if_pos rfl]
            refine ldNs (s := ⟨_, _, _, _, _⟩) (hns.keeps hk₉) hm₂ ⟨⟨a2, o2, rfl, hn2.2.1, .inr hn2.1, hk₉ _ _ (hk₂ _ _ hn2.1), hn2.2.1, hn2.2.2, e2, hEe2, ?_⟩, h₉, _, rfl, hk₉⟩
            unfold closE; rw [hcl, if_pos rfl]; exact hto2
          | false =>
            rw [if_neg (by decide)]
            refine Tuple_ (spliced_more (Constant_str (spliced_more (wpAny_Constant_int (spliced_more (wpAny_Constant_int (spliced_none ?_)))))))
            refine wpAny_newObj_type ?_ (by size_fits)
            walk_at "nf"
            have hfr : ∀ b, b = h₉.objs.size → s₂.heap.get? b = none := fun b hb => by
              cases q : s₂.heap.get? b with
              | none => rfl
              | some o' => rw [hb] at q; exact absurd (Heap.lt_size (hk₉ _ _ q)) (Nat.lt_irrefl _)
            have hL : s.heap.objs.size < h₉.objs.size := by
              obtain ⟨oL, _, _, hoL, _⟩ := F₈.ns
              exact Heap.lt_size (hk₉ _ _ (hk₂ _ _ hoL))
            refine ⟨⟨h₉.objs.size, _, rfl, Nat.ne_of_gt hL, .inl (hfr _ rfl), Heap.get?_push_size _ rfl, Nat.ne_of_gt hL, fresh_at (Nat.le_of_lt hL), e2, hEe2, ?_⟩, _, _, rfl, fun b o q => Heap.get?_push_of_some _ (hk₉ b o q)⟩
            unfold closE; rw [hcl, if_neg (by decide)]
            exact ⟨rfl, _, _, _, _, rfl⟩
        intro B2 bv2 ne2 h₉ tk₉ F₉ N₉ hap₉ hP
        obtain ⟨tl', htl', htup', hE'⟩ := made_ents (s := s) htl₈ hP G₇.ents
        walk_at "nf"
        repeat refine wpAny_execs_nil ?_
        refine ⟨rfl, h₉, _, gns₇, _, D, B2, lstO ys neD, lstO bv2 ne2, tl', ys, bv2, es.map closE, rfl, hbare₇, F₉, ?_, r1, r2, rfl, ⟨rfl, _, rfl⟩, ⟨rfl, _, rfl⟩, htup', ?_, ?_, ?_, hE', ?_, ?_, ?_, ?_⟩
        · intro q hq
          simp only [List.mem_cons] at hq
          rcases hq with hq | hq | hq | hq | hq
          · subst hq; exact N₉ _ (.tail _ (.head _))
          · subst hq; exact N₉ _ (.head _)
          · subst hq; exact N₉ _ (.tail _ (.tail _ (.tail _ (.tail _ (.head _)))))
          · subst hq; exact N₉ _ (.tail _ (.tail _ (.tail _ (.tail _ (.tail _ (.head _))))))
          · exact htl' q hq
        · exact hap₉ _ (.head _)
        · exact Ne.symm (hDT _ (.tail _ (.tail _ (.head _))))
        · exact Ne.symm (hap₉ _ (.tail _ (.tail _ (.tail _ (.head _)))))
        · have : (es.map closE).map shownE = (es.map shownE).map preS := by
            rw [List.map_map, List.map_map]
            apply List.map_congr_left
            intro e2 _
            exact (pre_E e2).symm
          rw [this]; exact hS
        · rw [List.length_map]; exact G₇.pos
        · rw [List.length_map]; have := G₇.len; omega
        · intro e2 he2
          obtain ⟨e3, he3, rfl⟩ := List.mem_map.mp he2
          unfold closE
          by_cases hcl : closesL e3.1.cps.toList = true
          · rw [if_pos hcl]; have := G₇.bounds e3 he3; exact ⟨this.1, by omega, by omega⟩
          · rw [if_neg hcl]; exact ⟨by decide +kernel, Nat.zero_le _, Nat.zero_le _⟩
  · obtain ⟨rfl, h, tk, gns, m, Tr, Bk, oT, oB, tl, tv, bv, es, rfl, hbare, G⟩ := hf
    have hle := G.len
    refine wpAny_execs_cons (wpAny_If (wpAny_isTrue_Compare1 (ldE G.fr G.mT ?_)))
    refine comp_eval (h₀ := s.heap) (L := s.heap.objs.size) (m := m) (news := ((Tr, oT) :: (Bk, oB) :: (Nn, lstO nv neN) :: (I, rIt 6 (i + 1)) :: tl)) (fun v y => ∃ e u, EntIs tl v e ∧ y = .str (shownE e) u) rfl rfl (by decide) rfl (by decide) rfl ?_ (fun _ => rfl)
    refine ldE G.fr G.mB ?_
    refine ⟨Bk, bv, rfl, G.isB, by rw [sizeLine_eq, G.bvlen]; omega, G.fr, G.news, ?_, ?_⟩
    · intro C v s₂ m₂ E' hv hns hm₂ hk₂
      obtain ⟨e, hee, hEe⟩ := ents_mem G.ents v hv
      obtain ⟨ad, t0, t1, t2, rfl, htup⟩ := hEe.tup G.inTl
      have hb := G.bounds e hee
      have hks : ∀ b o, s.heap.get? b = some o → s₂.heap.get? b = some o := fun b o q => hk₂ b o (G.fr.keep b o q)
      refine Call_ (nameK_E (h₀ := s.heap) hks KX TR (n_shown w) ?_)
      refine callWith_K KX (by kernel_rfl) (spliced_more (ldNs hns hm₂ (spliced_none ⟨KX.keeps hks, wpAny_call ?_⟩)))
      refine shown_spec (KX.keeps hks) (T.keeps hks) (htup.keeps hk₂) (by omega) (by omega) (by omega) (by omega) ?_
      intro s' tk' hK
      exact ⟨⟨e, tk', hEe, rfl⟩, hK⟩
    · intro D ys ne h' tk' F' N' hap hP
      have hS := paired_shown G.inTl hP G.ents
      refine ne_strs (G.lT.isList (N'.get (.tail _ (.head _)))) (News.isList N' (.head _)) G.texts hS hu (wpAny_truthy_bool ?_)
      rw [if_neg (by decide)]
      walk_at "nf"
      repeat refine wpAny_execs_nil ?_
      exact ⟨rfl, h', _, gns, m, Tr, Bk, oT, oB, tl, tv, bv, es, rfl, hbare, G.at' F' (News.tail N') rfl rfl rfl⟩
end Mine

end

/- part LawB -/
section
open PySem PySem.W PySem.Calls PyProof.Rows
set_option maxRecDepth 100000
set_option maxHeartbeats 16000000
namespace Mine
local macro_rules | `(tactic| walk_at "nf") => `(tactic| try dsimp only at *)

theorem law_run {w : World} {d : Nat} {fr gu un} {s : Shared} {nm : Str} {sc : Scope} {body : List Stmt} {a : Addr} {cd : Value} {h₁ : Heap} {tk₁ : Nat} {m₀ : Str → Option Value} {l : Addr} {vs : List Value} {ns : List Int} {mean mg mb} (KX : (Kf w).In s.heap) (T : TopH mean mg mb s.heap)
    (hlaw : ∃ oc od name params pm cdv doc osl, (Kf w).lookup 107 = some ⟨oc, od, .func (Calls.docDef name params body sc pm cdv doc), osl⟩)
    (hu : un < cLine) (hroom : d + 10 < recursionLimit) (F : Fr s.heap s.heap.objs.size h₁ m₀) (hm : m₀ (Str.ofString "script") = some (.ref l)) (hl : s.heap.IsList l vs.toArray) (hi : IntsAre vs ns) (hlen : ns.length ≤ 63)
    {Q : Flow → Shared → Prop} (hQ : ∀ s', KeepsG s s' → Q (.ret (.bool true)) s') :
    wpAny (MM w) ⟨none, d, fr, gu, un⟩ (execs body (envOf nm sc s.heap.objs.size a cd)) Q (fun _ _ => False) { s with heap := h₁, toks := tk₁ } := by
  obtain ⟨oc, od, name, params, pm, cdv, doc, osl, hlk⟩ := hlaw
  have e0 : (Kf w).lookup 107 = some _ := rfl
  rw [e0] at hlk
  cases hlk
  have TR := topRead_of T
  have N := News.nil (h₀ := s.heap) (L := s.heap.objs.size) (h := h₁)
  -- numbers
  refine wpAny_execs_cons (comp_assign (h₀ := s.heap) (m := m₀) (news := []) (fun v y => ∀ x t, v = .int x t → ∃ u, y = .int (x.fmod 1000000) u) rfl rfl rfl rfl (by decide) rfl (by decide) rfl rfl rfl ?_ (fun _ => rfl))
  refine Subscript_ (ldE F hm (wpAny_Slice (evalPart_none_step (evalPart_some_step (wpAny_Constant_int (evalPart_none_step ?_))))))
  refine slice_list (s := ⟨_, _, _, _, _⟩) F N (Fr.lst F hl) .none (.int _ _) ?_ (hsz := by rw [sizeLine_eq, List.size_toArray, hi.length]; omega)
  intro h₂ F₂ N₂
  walk_at "nf"
  rw [show (some (8 : Int)) = some ((8 : Nat) : Int) from rfl, slicePick_upto'] at N₂
  refine ⟨_, _, rfl, News.isList N₂ (.head _), by rw [sizeLine_eq, List.size_toArray, List.length_take]; omega, F₂, News.nil, ?_, ?_⟩
  · intro C v s₂ m₂ E' hv hns hm₂ _
    obtain ⟨n, t, _, rfl⟩ := ints_mem (IntsAre.take hi 8) v hv
    refine wpAny_BinOp (ldNs hns hm₂ (wpAny_Constant_int (mod_int (by decide) ⟨?_, _, _, rfl, fun _ _ e => e⟩)))
    intro x t' hx
    cases hx
    exact ⟨_, rfl⟩
  intro Nn nv neN h₃ tk₃ F₃ N₃ _ hP
  have hnv : IntsAre nv.toList ((ns.take 8).map fun x => x.fmod 1000000) := paired_ints (fun x t y h => h x t rfl) hP (IntsAre.take hi 8)
  have hnl : nv.size ≤ 8 := by
    rw [← Array.length_toList, hnv.length, List.length_map, List.length_take]; omega
  have hnb : ∀ n ∈ ((ns.take 8).map fun x => x.fmod 1000000), 0 ≤ n ∧ n < 1000000 := fun n hn => by
    obtain ⟨x, _, rfl⟩ := List.mem_map.mp hn
    exact fmod_bound x 1000000 (by decide)
  generalize (ns.take 8).map (fun x => x.fmod 1000000) = ks at hnv hnb
  clear N₂ F₂ hP F N
  walk_at "nf"
  obtain ⟨m₃, F₃, q1⟩ : ∃ m₃, Fr s.heap s.heap.objs.size h₃ m₃ ∧ m₃ (Str.ofString "numbers") = some (.ref Nn) := ⟨_, F₃, rfl⟩
  -- drawn
  refine wpAny_execs_cons (comp_assign (h₀ := s.heap) (m := m₃) (news := [(Nn, lstO nv neN)]) (fun v y => ∃ c u, y = .str (sgn c) u) rfl rfl rfl rfl (by decide) rfl (by decide) rfl rfl rfl ?_ (fun _ => rfl))
  refine ldE F₃ q1 ?_
  refine ⟨Nn, nv, rfl, News.isList N₃ (.head _), by rw [sizeLine_eq]; omega, F₃, N₃, ?_, ?_⟩
  · intro C v s₂ m₂ E' hv hns hm₂ hk₂
    obtain ⟨n, t, hn, rfl⟩ := ints_mem hnv v hv
    refine IfExp_ (wpAny_isTrue_Compare1 (wpAny_BinOp (ldNs hns hm₂ (wpAny_Constant_int (mod_int (by decide) ?_)))))
    refine wpAny_Constant_int (lt_int (wpAny_truthy_bool ?_))
    have hb10 := fmod_bound n 10 (by decide)
    by_cases h9 : n.fmod 10 < 9
    · rw [if_pos (by simpa using h9)]
      refine Subscript_ (Constant_str (wpAny_BinOp (ldNs (s := ⟨_, _, _, _, _⟩) hns hm₂ (wpAny_Constant_int (mod_int (by decide) ?_)))))
      obtain ⟨j, hj⟩ : ∃ j : Nat, n.fmod 10 = (j : Int) := ⟨(n.fmod 10).toNat, by omega⟩
      rw [hj]
      refine item_str (fitsSsize_of (N := 9223372036854775808) (by omega) (by omega) (Int.le_refl _)) (by omega) ?_ (fun _ => ?_)
      · have : (Str.ofString "'.\r\n()\"\\a").cps.size = 9 := by decide +kernel
        show (j : Int) < ((Str.ofString _).cps.size : Int)
        rw [this]; omega
      · rw [item_at _ j (by have : (Str.ofString "'.\r\n()\"\\a").cps.size = 9 := by decide +kernel
                            rw [this]; omega)]
        exact ⟨⟨_, _, rfl⟩, _, _, rfl, fun _ _ e => e⟩
    · rw [if_neg (by simpa using h9)]
      refine Call_ (nameB_E (h₀ := s.heap) (fun b o e => hk₂ b o (F₃.keep b o e)) KX TR (z_chr w) b_chr (by decide) ?_)
      refine callWith_builtin1 (spliced_more (wpAny_BinOp (wpAny_BinOp (ldNs (s := ⟨_, _, _, _, _⟩) hns hm₂ (wpAny_Constant_int (floordiv_int (by decide) (wpAny_Constant_int (mod_int (by decide) ?_))))))))
      refine spliced_none ?_
      have hb := fmod_bound (n.fdiv 10) 55296 (by decide)
      refine chr_of_range hb.1 (by omega) ⟨⟨_, _, rfl⟩, _, _, rfl, fun _ _ e => e⟩
  intro Dd dv neD h₄ tk₄ F₄ N₄ _ hP
  obtain ⟨cs, hcs, hcl⟩ := paired_signs (fun v y h => h) hP
  have hc8 : cs.length ≤ 8 := by rw [hcl, Array.length_toList]; exact hnl
  walk_at "nf"
  obtain ⟨m₄, F₄, q1, q2⟩ : ∃ m₄, Fr s.heap s.heap.objs.size h₄ m₄ ∧ m₄ (Str.ofString "numbers") = some (.ref Nn) ∧ m₄ (Str.ofString "drawn") = some (.ref Dd) := ⟨_, F₄, q1, rfl⟩
  clear F₃ N₃ hP
  -- built
  refine wpAny_execs_cons (wpAny_Assign_Name (wpAny_BinOp (MethodCall_ (Constant_str (GM.join (callWith_method1 (spliced_more (ldE F₄ q2 (spliced_none ?_)))))))))
  refine join_listW (ys := cs.map sgn) ⟨_, (N₄ _ (.head _)).1, rfl, _, rfl⟩ hcs (by rw [empty_eq]; decide) (by rw [sum_sgn, List.length_map]; omega) ?_
  intro tj kj
  rw [empty_eq, join_empty, cat_sgn]
  refine Constant_str (SB.add ?_ ?_)
  case refine_2 =>
    have : (Str.ofString ".\n.('\r.)\"(\"'.\r\n.\\(x'\n\")\"'.").length = 26 := by decide +kernel
    rw [this, sizeLine_eq]
    show cs.toArray.size + 26 ≤ _
    rw [List.size_toArray]; omega
  intro tb kb
  have hbz : ((⟨cs.toArray⟩ : Str) ++ Str.ofString ".\n.('\r.)\"(\"'.\r\n.\\(x'\n\")\"'.").cps.size ≤ 64 := by
    have e : (Str.ofString ".\n.('\r.)\"(\"'.\r\n.\\(x'\n\")\"'.").cps.size = 26 := by decide +kernel
    rw [Str.cps_append, Array.size_append, e, List.size_toArray]; omega
  generalize ((⟨cs.toArray⟩ : Str) ++ Str.ofString ".\n.('\r.)\"(\"'.\r\n.\\(x'\n\")\"'.") = built at hbz ⊢
  replace N₄ : News s.heap s.heap.objs.size h₄ [(Nn, lstO nv neN)] := News.tail N₄
  refine stE (s := ⟨_, _, _, _, _⟩) F₄ N₄ ?_
  intro h₅ F₅ N₅
  walk_at "nf"
  -- tray
  refine wpAny_execs_cons (wpAny_Assign_Name (List_ (spliced_more (ldE F₅ rfl (spliced_none ?_)))))
  refine newList_N' F₅ N₅ ?_ (by rw [sizeLine_eq]; simp)
  intro Tr h₆ _ F₆ N₆ hk₆
  have hTN : Tr ≠ Nn := fun e => (hk₆ _ _ (N₅ _ (.head _)).1).2 e.symm
  walk_at "nf"
  refine stE F₆ N₆ ?_
  intro h₇ F₇ N₇
  walk_at "nf"
  -- book
  refine wpAny_execs_cons (wpAny_Assign_Name (List_ (spliced_more ?_)))
  refine Tuple_ (spliced_more (ldE F₇ rfl (spliced_more (wpAny_Constant_int (spliced_more (wpAny_Constant_int (spliced_none ?_)))))))
  refine newTuple_N' (s := ⟨_, _, _, _, _⟩) F₇ N₇ ?_ (by rw [sizeLine_eq]; simp)
  intro e1 h₈ _ F₈ N₈ _
  walk_at "nf"
  refine spliced_none ?_
  refine newList_N' (s := ⟨_, _, _, _, _⟩) F₈ N₈ ?_ (by rw [sizeLine_eq]; simp)
  intro Bk h₉ _ F₉ N₉ hk₉
  have hTB : Tr ≠ Bk := (hk₉ _ _ (N₈ _ (.tail _ (.head _))).1).2
  have hNB : Nn ≠ Bk := (hk₉ _ _ (N₈ _ (.tail _ (.tail _ (.head _)))).1).2
  walk_at "nf"
  refine stE F₉ N₉ ?_
  intro h₁₀ F₁₀ N₁₀
  walk_at "nf"
  obtain ⟨m₁₀, F₁₀, q1, q2, q3⟩ : ∃ m₄, Fr s.heap s.heap.objs.size h₁₀ m₄ ∧ m₄ (Str.ofString "numbers") = some (.ref Nn) ∧ m₄ (Str.ofString "tray") = some (.ref Tr) ∧ m₄ (Str.ofString "book") = some (.ref Bk) := ⟨_, F₁₀, q1, rfl, rfl⟩
  clear F₄ N₄ F₅ N₅ F₆ N₆ F₇ N₇ F₈ N₈ F₉ N₉ hk₆ hk₉
  -- the turns
  refine wpAny_execs_cons (wpAny_For (Call_ (name_B F₁₀ KX TR (z_range w) b_range (by decide) ?_)))
  refine PyProof.Rows.callWith_type1 (spliced_more (wpAny_Constant_int (spliced_none ?_)))
  refine range_iter (n := 6) F₁₀ N₁₀ (by decide) ?_
  intro I h₁₁ tk₁₁ F₁₁ N₁₁ hIL hIb hIn _
  walk_at "nf"
  refine forW (Walks.range (A := ⟨none, d, fr, gu, un⟩) rfl I 0 1 6) (fun i s' => ∃ h tk gns m Tr Bk oT oB tl tv bv es, s' = { s with heap := h, toks := tk, gens := gns } ∧ (AllBare s.gens → AllBare gns) ∧ LI s Nn I (lstO nv neN) i i h m Tr Bk oT oB tl tv bv es) ?_ ?_ ?_ ?_
  · rintro i _ ⟨h, tk, gns, m, Tr, Bk, oT, oB, tl, tv, bv, es, rfl, _, G⟩
    exact G.news.get (.tail _ (.tail _ (.tail _ (.head _))))
  · rintro i _ v h' tk' hlt ⟨h, tk, gns, m, Tr, Bk, oT, oB, tl, tv, bv, es, rfl, hbare, G⟩ ⟨t, rfl⟩ hst hk
    have e0' : (0 + (i : Int) * 1) = (i : Int) := by omega
    rw [e0']
    have G' := G.next hst hk hIL hIb
    walk_at "nf"
    refine stE G'.fr G'.news ?_
    intro h₂ F₂ N₂
    walk_at "nf"
    have G₂ := G'.stored F₂ N₂ (by decide) (by decide) (by decide)
    exact wpAny_mono (turn_run KX T ⟨_, _, _, _, _, _, _, _, e0⟩ hu hroom hnv hnl hlt G₂ rfl hbare) (fun f s' hf => by
      obtain ⟨rfl, hf⟩ := hf
      exact hf) fun _ _ e => e
  · rintro _ h' tk' ⟨h, tk, gns, m, Tr, Bk, oT, oB, tl, tv, bv, es, rfl, hbare, G⟩ hk
    have F' := Fr.walked G.fr hk (by simpa using Ne.symm hIL) (by simpa using hIb)
    walk_at "nf"
    refine wpAny_execs_cons (wpAny_Return_some (wpAny_Constant_bool ?_))
    exact hQ _ ⟨h', _, gns, rfl, hbare, F'.keep⟩
  · obtain ⟨tT, t0, t1, t2, N₁₁⟩ : ∃ tT t0 t1 t2, News s.heap s.heap.objs.size h₁₁ [(I, rIt 6 0), (Bk, lstO #[.ref e1] 0), (e1, tupO #[.str built t0, .int 0 t1, .int 0 t2]), (Tr, lstO #[.str built tT] 0), (Nn, lstO nv neN)] := ⟨_, _, _, _, N₁₁⟩
    refine ⟨h₁₁, tk₁₁, s.gens, m₁₀, Tr, Bk, lstO #[.str built tT] 0, lstO #[.ref e1] 0, [(e1, tupO #[.str built t0, .int 0 t1, .int 0 t2])], _, _, [(built, 0, 0)], rfl, fun h => h, F₁₁, ?_, q1, q2, q3, ⟨rfl, 0, rfl⟩, ⟨rfl, 0, rfl⟩, ?_, hTB, hTN, Ne.symm hNB, ?_, ?_, Nat.le_refl _, Nat.le_refl _, ?_⟩
    · intro p hp
      simp only [List.mem_cons, List.not_mem_nil, or_false] at hp
      rcases hp with rfl | rfl | rfl | rfl | rfl
      · exact N₁₁ _ (.tail _ (.tail _ (.tail _ (.head _))))
      · exact N₁₁ _ (.tail _ (.head _))
      · exact N₁₁ _ (.tail _ (.tail _ (.tail _ (.tail _ (.head _)))))
      · exact N₁₁ _ (.head _)
      · exact N₁₁ _ (.tail _ (.tail _ (.head _)))
    · intro p hp; rw [List.mem_singleton.mp hp]
    · exact .cons ⟨e1, _, rfl, .head _, rfl, _, _, _, 0, rfl⟩ .nil
    · show StrsAre _ [shownS built 0 0]
      rw [shown_zero]
      exact .cons _ _ .nil
    · intro e he
      rw [List.mem_singleton.mp he]
      exact ⟨hbz, Nat.le_refl _, Nat.le_refl _⟩
end Mine

end

/- part W3 -/
section
open PySem PySem.W PySem.Calls PyProof.Rows
set_option maxRecDepth 100000
set_option maxHeartbeats 8000000
namespace Mine
theorem good_end {s s₁ : Shared} {cl : Str → Option Addr} {mean : ExcName → Option Value} {args : List WData} (hg : s₁.gens = #[]) (hk : KeepsG s₁ s) :
    GoodWG Challenge.rw_pe0075_01.row.claim cl mean args s₁ (.ok (.ret (.bool true))) s := by
  obtain ⟨h', tk, gns, rfl, hb, hkeep⟩ := hk
  exact ⟨.inl ⟨.bool true, .bool true, [], rfl, raisesW_false (fun _ h => nomatch h), .bool true, postW_of (r := Challenge.rw_pe0075_01.row.toRowW) (X := true) (by decide +kernel) (by first | rfl | wtm_val) rfl, unshared_nil⟩, .of_keep hkeep, rfl, hb (.of_eq hg)⟩
end Mine
open Mine
theorem PySem.Challenge.cw_pe0075_01_holds : PySem.Challenge.rw_pe0075_01.Holds := by
  refine hd ?_
  intro w s₀ s₁ mg mb G Y fa o pm cd doc dV kV ho hdd hcd hD hmg hg args vals as hpre hlay hrd hwl hlo
  have KX := kIn_of Y
  refine Ground.open G ?_
  intro T B D TE TW
  clear D TE TW B hmg
  w_on
  w_strict (wrow_args hpre hlay hrd hwl hlo; (rename (IntsAre _ _) => hI); (rename (Heap.IsList _ _ _) => hL); (rename (¬ (_ < _)) => hC); (refine enter_call ?_); (w_call ret ho hdd hcd hD T F); (refine law_run KX T ⟨_, _, _, _, _, _, _, _, rfl⟩ (by decide) (by decide) F rfl hL hI ?_ (fun s' hK => good_end hg hK)); omega)
end
