import PyProof.Rows.All
import Wide.All
import OpenK.AllK
import Wide.FinOn
import PySem.Challenge.RW_ah6018_01
open PySem PySem.W PyProof.Rows PySem.Calls PySem.Spec
set_option Elab.async false
namespace Mine
set_option maxRecDepth 100000 in
set_option maxHeartbeats 8000000 in
open_top hd for PySem.Challenge.rw_ah6018_01
/-! # the plain part: what the four functions of the project reckon, over lists of code points -/

/-- one sign as a text -/
def sg (c : Nat) : Str := ⟨#[c]⟩
/-- the sign at a place -/
def sgAt (x : Str) (i : Int) : Nat := x.cps.toList.getD i.toNat 0
/-- the rest of a text from a place on -/
def sfx (x : Str) (i : Int) : List Nat := x.cps.toList.drop i.toNat

theorem len_toList (x : Str) : x.length = x.cps.toList.length := by
  show x.cps.size = _
  rw [Array.length_toList]
theorem sfx_cons {x : Str} {i : Int} (h0 : 0 ≤ i) (h1 : i < (x.length : Int)) : sfx x i = sgAt x i :: sfx x (i + 1) := by
  have hl := len_toList x
  have h2 : i.toNat < x.cps.toList.length := by omega
  unfold sfx sgAt
  rw [List.drop_eq_getElem_cons h2, List.getD_eq_getElem?_getD, List.getElem?_eq_getElem h2, Option.getD_some]
  have e : (i + 1).toNat = i.toNat + 1 := by omega
  rw [e]
theorem sfx_nil {x : Str} {i : Int} (h1 : (x.length : Int) ≤ i) : sfx x i = [] := by
  have hl := len_toList x
  unfold sfx
  exact List.drop_eq_nil_of_le (by omega)
theorem item_sg {x : Str} {i : Int} (h0 : 0 ≤ i) (h1 : i < (x.length : Int)) : Txt.item x i = sg (sgAt x i) := by
  have hl := len_toList x
  have h2 : i.toNat < x.cps.toList.length := by omega
  unfold Txt.item Txt.charAt sg sgAt
  rw [PySem.seqIndex_of h0 h1]
  show Str.mk #[(x.cps[i.toNat]?).getD 0] = _
  rw [← Array.getElem?_toList, List.getD_eq_getElem?_getD]

/-! ## the four scans -/
def blank (c : Nat) : Bool := decide (c ∈ (Str.ofString " \t").cps.toList)
def newline (c : Nat) : Bool := decide (c ∈ (Str.ofString "\n\r").cps.toList)
def white (c : Nat) : Bool := decide (c ∈ (Str.ofString " \t\n\r\x0c").cps.toList)
def punct (c : Nat) : Bool := decide (c ∈ (Str.ofString "!\"#$%&'()*+,-./:;<=>?@\x5b\\]^_`{|}~").cps.toList)
def spoil (c : Nat) : Bool := decide (c ∈ (Str.ofString "<\n\r\x00").cps.toList)

def span : List Nat → Int → Int
  | [], k => k
  | c :: r, k => if blank c = true then span r (k + 1) else k
/-- from the first sign that is no blank on -/
def skipNl : List Nat → Int → Int
  | [], k => k
  | c :: r, k => if newline c = true then
      (if c = 13 ∧ r.head? = some 10 then span r.tail (k + 2) else span r (k + 1))
    else k
def skipLead : List Nat → Int → Int
  | [], k => k
  | c :: r, k => if blank c = true then skipLead r (k + 1) else skipNl (c :: r) k
/-- all ASCII white space, up to a limit -/
def skipTo (mx : Int) : List Nat → Int → Int
  | [], k => k
  | c :: r, k => if k < mx ∧ white c = true then skipTo mx r (k + 1) else k
/-- where the closing angle stands -/
def angle : List Nat → Int → Option Int
  | [], _ => none
  | [c], k => if c = 62 then some k else none
  | c :: d :: r, k =>
    if c = 62 then some k
    else if c = 92 ∧ punct d = true then angle r (k + 2)
    else if spoil c = true then none
    else angle (d :: r) (k + 1)
/-- the bare destination: the depth and the place at which the run ends, no depth where it is refused -/
def scan (lim : Int) : List Nat → Int → Int → Option Int × Int
  | [], lev, k => (some lev, k)
  | c :: r, lev, k =>
    if white c = true then (some lev, k)
    else if c < 32 ∨ c = 127 then (none, k)
    else if c = 40 then (if lev + 1 > lim then (none, k) else scan lim r (lev + 1) (k + 1))
    else if c = 41 then (if lev = 0 then (some lev, k) else scan lim r (lev - 1) (k + 1))
    else match r with
      | [] => scan lim [] lev (k + 1)
      | d :: r' => if c = 92 ∧ punct d = true then scan lim r' lev (k + 2) else scan lim (d :: r') lev (k + 1)
/-! # steps of the walk for texts of one sign -/
section
variable {prog : Program} {w : World} {A : Around} {E : Value → Shared → Prop} {s : Shared}
theorem st_item {value slice : PySem.Expr} {x : Str} {t u : Tok} {i : Int} {Q : Value → Shared → Prop} (h0 : 0 ≤ i) (h1 : i < (x.length : Int)) (hn : x.length ≤ 16777216)
    (h : Q (.str (sg (sgAt x i)) s.toks) { s with toks := s.toks + 1 })
    (hs : subscripted slice false (.str x t) (.int i u) = operate [.str x t, .int i u] (getItem (.str x t) (.int i u)) := by with_unfolding_all rfl)
    (ht : ∀ r, letTemporaryGo value (.str x t) r = pure () := by intro _; with_unfolding_all rfl) :
    wpAny (model prog w) A (subscriptTail value slice (.str x t) (.int i u)) Q E s :=
  item_str (fitsSsize_of (N := 9223372036854775808) (by omega) (by omega) (Int.le_refl _)) (by omega) h1 (fun _ => by rw [item_sg h0 h1]; exact h) hs ht
theorem st_in {c : Nat} {y : Str} {t u : Tok} {Q : Value → Shared → Prop} (h : Q (.bool (decide (c ∈ y.cps.toList))) s) :
    wpAny (model prog w) A (compareOp .In (.str (sg c) u) (.str y t)) Q E s := by
  refine in_str ?_
  have e := StrLaws.found_one y c
  unfold sg
  rw [e]
  exact h
theorem st_eq {c : Nat} {y : Str} {t u : Tok} {Q : Value → Shared → Prop} (h : Q (.bool (decide (y.cps.toList = [c]))) s) :
    wpAny (model prog w) A (compareOp .Eq (.str (sg c) u) (.str y t)) Q E s := by
  refine eq_str ?_
  have e : (sg c == y) = decide (y.cps.toList = [c]) := by
    rw [Bool.eq_iff_iff, beq_iff_eq, decide_eq_true_eq]
    constructor
    · intro q
      rw [← q]
      rfl
    · intro q
      obtain ⟨a⟩ := y
      unfold sg
      congr 1
      exact Array.toList_inj.mp q.symm
  rw [e]
  exact h
theorem st_ord {c : Nat} {t : Tok} {Q : Value → Shared → Prop} (h : Q (.int c s.toks) { s with toks := s.toks + 1 }) :
    wpAny (model prog w) A (call (.builtin "ord") [.str (sg c) t]) Q E s := ord_of_one rfl h
end
/-! # the form of a contract of a def: what every call of it may lean on -/
def Ctr (w : World) (f : Addr) (D U : Nat) (news : List (Addr × Obj)) (vs : List Value) (kw : List (Str × Value)) (Pre : Heap → Prop)
    (Ret : Heap → Addr → (Str → Option Value) → Shared → (Value → Shared → Prop) → Prop) : Prop :=
  ∀ (mean : ExcName → Option Value) (mg mb : Str → Option Value) (dp un : Nat) (gd : Option (List Code)) (cn : Str) (cs : Scope) (a : Addr) (ccd : Value) (cl : List (Str × Addr)) (outer : List Env) (A₀ : Around) (base h₀ : Heap) (L : Addr)
    (m : Str → Option Value) (s : Shared) (Q E : Value → Shared → Prop),
    Below A₀ base outer h₀ → Fr h₀ L s.heap m → (Mine.hd.heap_39 w.params).In h₀ → News h₀ L s.heap news →
    Top Mine.hd.view_39 (looseW Mine.hd.view_39 [Str.ofString "_parse_link_href", Str.ofString "_skip_ascii_whitespace", Str.ofString "_law_leads", Str.ofString "_law_units", Str.ofString "_law_ends", Str.ofString "_law_bad", Str.ofString "_law_angled", Str.ofString "_law_spoils"]) mean mg mb h₀ →
    cs.kind = .function → dp + D < recursionLimit → un + U < cLine → Pre base → Ret h₀ L m s Q →
    wpAny (model PySem.Challenge.rw_ah6018_01.row.prog w) (ktrTop dp un gd cn cs L a ccd cl outer) (call (.ref f) vs kw) Q E s
/-- it gives back this int and leaves the ledger as it was -/
abbrev RetInt (news : List (Addr × Obj)) (i : Int) : Heap → Addr → (Str → Option Value) → Shared → (Value → Shared → Prop) → Prop :=
  fun h₀ L m s Q => ∀ (r : Int) (t : Tok) (h' : Heap) (tk' : Nat), r = i → Fr h₀ L h' m → News h₀ L h' news → Q (.int r t) { s with heap := h', toks := tk' }

/-- the walk stands still here -/
def Halt (P : Prop) : Prop := P
theorem Halt.mk {P : Prop} (h : Halt P) : P := h

theorem Ctr.use {w : World} {f : Addr} {D U : Nat} {news : List (Addr × Obj)} {vs : List Value} {kw : List (Str × Value)} {Pre : Heap → Prop} {Ret : Heap → Addr → (Str → Option Value) → Shared → (Value → Shared → Prop) → Prop} (C : Ctr w f D U news vs kw Pre Ret)
    {mean : ExcName → Option Value} {mg mb : Str → Option Value} {dp un : Nat} {gd : Option (List Code)} {cn : Str} {cs : Scope} {a : Addr} {ccd : Value} {cl : List (Str × Addr)} {outer : List Env} {A₀ : Around} {base h₀ : Heap} {L : Addr}
    {m : Str → Option Value} {s : Shared} {Q E : Value → Shared → Prop}
    (B : Below A₀ base outer h₀) (F : Fr h₀ L s.heap m) (X : (Mine.hd.heap_39 w.params).In h₀) (N : News h₀ L s.heap news)
    (T : Top Mine.hd.view_39 (looseW Mine.hd.view_39 [Str.ofString "_parse_link_href", Str.ofString "_skip_ascii_whitespace", Str.ofString "_law_leads", Str.ofString "_law_units", Str.ofString "_law_ends", Str.ofString "_law_bad", Str.ofString "_law_angled", Str.ofString "_law_spoils"]) mean mg mb h₀)
    (hk : cs.kind = .function) (hd : dp + D < recursionLimit) (hu : un + U < cLine) (hp : Pre base) (hr : Ret h₀ L m s Q) :
    wpAny (model PySem.Challenge.rw_ah6018_01.row.prog w) (ktrTop dp un gd cn cs L a ccd cl outer) (call (.ref f) vs kw) Q E s :=
  C _ _ _ _ _ _ _ _ _ _ _ _ _ _ _ _ _ _ _ _ B F X N T hk hd hu hp hr

theorem news_drop2 {h₀ h : Heap} {L : Addr} {a b : Addr × Obj} {r : List (Addr × Obj)} (N : News h₀ L h (a :: b :: r)) : News h₀ L h (a :: r) := fun p hp => N p (by
  rcases List.mem_cons.mp hp with e | e
  · rw [e]; exact .head _
  · exact .tail _ (.tail _ e))
theorem lit_cr : (Str.ofString "\r").cps.toList = [13] := by decide +kernel
theorem lit_lf : (Str.ofString "\n").cps.toList = [10] := by decide +kernel
section
variable {x : Str} {k : Int}
theorem lead_blank (h0 : 0 ≤ k) (h : k < (x.length : Int)) (b : sgAt x k ∈ (Str.ofString " \t").cps.toList) : skipLead (sfx x k) k = skipLead (sfx x (k + 1)) (k + 1) := by
  rw [sfx_cons h0 h, skipLead, if_pos (by unfold blank; exact decide_eq_true b)]
theorem lead_end (h : (x.length : Int) ≤ k) : skipLead (sfx x k) k = k := by rw [sfx_nil h, skipLead]
theorem lead_stop (h0 : 0 ≤ k) (h : k < (x.length : Int)) (b : ¬ sgAt x k ∈ (Str.ofString " \t").cps.toList) (n : ¬ sgAt x k ∈ (Str.ofString "\n\r").cps.toList) : skipLead (sfx x k) k = k := by
  rw [sfx_cons h0 h, skipLead, if_neg (by unfold blank; simpa using b), skipNl, if_neg (by unfold newline; simpa using n)]
theorem lead_nl (h0 : 0 ≤ k) (h : k < (x.length : Int)) (b : ¬ sgAt x k ∈ (Str.ofString " \t").cps.toList) (n : sgAt x k ∈ (Str.ofString "\n\r").cps.toList)
    (c : ¬ ((Str.ofString "\r").cps.toList = [sgAt x k] ∧ k + 1 < (x.length : Int) ∧ (Str.ofString "\n").cps.toList = [sgAt x (k + 1)])) : skipLead (sfx x k) k = span (sfx x (k + 1)) (k + 1) := by
  rw [sfx_cons h0 h, skipLead, if_neg (by unfold blank; simpa using b), skipNl, if_pos (by unfold newline; simpa using n), if_neg]
  rintro ⟨e1, e2⟩
  refine c ⟨by rw [lit_cr, e1], ?_, ?_⟩
  · refine Int.not_le.mp fun q => ?_
    rw [sfx_nil q] at e2
    cases e2
  · have q : k + 1 < (x.length : Int) := by
      refine Int.not_le.mp fun q => ?_
      rw [sfx_nil q] at e2
      cases e2
    rw [sfx_cons (by omega) q, List.head?_cons] at e2
    rw [lit_lf, Option.some.inj e2]
theorem lead_crlf (h0 : 0 ≤ k) (h : k < (x.length : Int)) (b : ¬ sgAt x k ∈ (Str.ofString " \t").cps.toList) (n : sgAt x k ∈ (Str.ofString "\n\r").cps.toList)
    (c : (Str.ofString "\r").cps.toList = [sgAt x k]) (q : k + 1 < (x.length : Int)) (d : (Str.ofString "\n").cps.toList = [sgAt x (k + 1)]) : skipLead (sfx x k) k = span (sfx x (k + 2)) (k + 2) := by
  have e1 : sgAt x k = 13 := by rw [lit_cr] at c; exact (List.cons.inj c).1.symm
  have e2 : sgAt x (k + 1) = 10 := by rw [lit_lf] at d; exact (List.cons.inj d).1.symm
  have e3 : sfx x (k + 1) = sgAt x (k + 1) :: sfx x (k + 2) := by
    rw [sfx_cons (by omega) q]
    have : k + 1 + 1 = k + 2 := by omega
    rw [this]
  rw [sfx_cons h0 h, skipLead, if_neg (by unfold blank; simpa using b), skipNl, if_pos (by unfold newline; simpa using n), if_pos ⟨e1, by rw [e3, List.head?_cons, e2]⟩, e3, List.tail_cons]
theorem span_blank (h0 : 0 ≤ k) (h : k < (x.length : Int)) (b : sgAt x k ∈ (Str.ofString " \t").cps.toList) : span (sfx x k) k = span (sfx x (k + 1)) (k + 1) := by
  rw [sfx_cons h0 h, span, if_pos (by unfold blank; exact decide_eq_true b)]
theorem span_end (h : (x.length : Int) ≤ k) : span (sfx x k) k = k := by rw [sfx_nil h, span]
theorem span_stop (h0 : 0 ≤ k) (h : k < (x.length : Int)) (b : ¬ sgAt x k ∈ (Str.ofString " \t").cps.toList) : span (sfx x k) k = k := by
  rw [sfx_cons h0 h, span, if_neg (by unfold blank; simpa using b)]
end
section
variable {x : Str} {k mx : Int}
theorem to_white (h0 : 0 ≤ k) (h : k < (x.length : Int)) (hm : k < mx) (b : sgAt x k ∈ (Str.ofString " \t\n\r\x0c").cps.toList) : skipTo mx (sfx x k) k = skipTo mx (sfx x (k + 1)) (k + 1) := by
  rw [sfx_cons h0 h, skipTo, if_pos ⟨hm, by unfold white; exact decide_eq_true b⟩]
theorem to_stop (h0 : 0 ≤ k) (h : k < (x.length : Int)) (b : ¬ sgAt x k ∈ (Str.ofString " \t\n\r\x0c").cps.toList) : skipTo mx (sfx x k) k = k := by
  rw [sfx_cons h0 h, skipTo, if_neg (by unfold white; simp [b])]
theorem to_end (hm : mx ≤ k) : skipTo mx (sfx x k) k = k := by
  cases sfx x k with
  | nil => rw [skipTo]
  | cons c r => rw [skipTo, if_neg (fun q => absurd q.1 (Int.not_lt.mpr hm))]
end
/-- the stretch of a text from one place to another -/
def cut (x : Str) (a b : Int) : List Nat := (sfx x a).take (b - a).toNat
theorem cut_slice {x : Str} {a b : Int} (h0 : 0 ≤ a) (h1 : a ≤ b) (h2 : b ≤ (x.length : Int)) : (Txt.slice x (some a) (some b)).cps.toList = cut x a b := by
  have e : (Builtin.Str.strSliceIndices (some a) (some b) 1 x.length).filterMap (x.cps[·]?) = cut x a b := by
    have q := StrLaws.sliced_plain x (a := a.toNat) (b := b.toNat) (by omega) (by omega)
    rw [show ((a.toNat : Nat) : Int) = a by omega, show ((b.toNat : Nat) : Int) = b by omega] at q
    rw [q]
    unfold cut sfx
    congr 1
    omega
  have n := StrLaws.strSliceIndices_plain (a := a.toNat) (b := b.toNat) (len := x.length) (by omega) (by omega)
  rw [show ((a.toNat : Nat) : Int) = a by omega, show ((b.toNat : Nat) : Int) = b by omega] at n
  unfold Txt.slice
  split
  · rename_i q
    rw [n] at q
    simp at q
    have hl := len_toList x
    have e1 : a.toNat = 0 := by omega
    unfold cut sfx
    rw [e1, List.drop_zero, List.take_of_length_le (by omega)]
  · exact e
theorem lit_gt : (Str.ofString ">").cps.toList = [62] := by decide +kernel
theorem lit_bs : (Str.ofString "\\").cps.toList = [92] := by decide +kernel
theorem sg_eq {y : List Nat} {c d : Nat} (e : y = [d]) (h : y = [c]) : c = d := by
  rw [e] at h
  exact (List.cons.inj h).1.symm
section
variable {x : Str} {k : Int}
theorem angle_end (h : (x.length : Int) ≤ k) : angle (sfx x k) k = none := by rw [sfx_nil h, angle]
theorem angle_hit (h0 : 0 ≤ k) (h : k < (x.length : Int)) (c : (Str.ofString ">").cps.toList = [sgAt x k]) : angle (sfx x k) k = some k := by
  rw [sfx_cons h0 h, sg_eq lit_gt c]
  cases sfx x (k + 1) with
  | nil => rw [angle, if_pos rfl]
  | cons d r => rw [angle, if_pos rfl]
theorem angle_esc (h0 : 0 ≤ k) (h : k < (x.length : Int)) (c : (Str.ofString "\\").cps.toList = [sgAt x k]) (q : k + 1 < (x.length : Int)) (p : sgAt x (k + 1) ∈ (Str.ofString "!\"#$%&'()*+,-./:;<=>?@\x5b\\]^_`{|}~").cps.toList) :
    angle (sfx x k) k = angle (sfx x (k + 2)) (k + 2) := by
  rw [sfx_cons h0 h, sfx_cons (by omega) q, sg_eq lit_bs c, angle, if_neg (by decide), if_pos ⟨rfl, by unfold punct; exact decide_eq_true p⟩, show k + 1 + 1 = k + 2 by omega]
theorem angle_else (h0 : 0 ≤ k) (h : k < (x.length : Int)) (c : ¬ (Str.ofString ">").cps.toList = [sgAt x k]) (p : ¬ ((Str.ofString "\\").cps.toList = [sgAt x k] ∧ k + 1 < (x.length : Int) ∧ sgAt x (k + 1) ∈ (Str.ofString "!\"#$%&'()*+,-./:;<=>?@\x5b\\]^_`{|}~").cps.toList)) :
    angle (sfx x k) k = if sgAt x k ∈ (Str.ofString "<\n\r\x00").cps.toList then none else angle (sfx x (k + 1)) (k + 1) := by
  have c' : ¬ sgAt x k = 62 := fun q => c (by rw [lit_gt, q])
  by_cases q : k + 1 < (x.length : Int)
  · rw [sfx_cons h0 h, sfx_cons (by omega) q, angle, if_neg c', if_neg (fun z => p ⟨by rw [lit_bs, z.1], q, by have := z.2; unfold punct at this; exact of_decide_eq_true this⟩)]
    unfold spoil
    simp only [decide_eq_true_eq]
  · rw [sfx_cons h0 h, sfx_nil (by omega)]
    simp [angle, c']
end
/-- what _parse_link_href reckons behind the white space -/
def hrefAt (l : List Nat) (q : Int) (b : Bool) (lim : Int) : Option (Int × Int) × Int :=
  match l with
  | [] => (none, q)
  | c :: r =>
    if c = 60 then (match angle r (q + 1) with | some e => (some (q + 1, e), e + 1) | none => (none, q))
    else if b = true ∧ white c = true then (none, q)
    else match scan lim (c :: r) 0 q with
      | (none, k) => (none, k)
      | (some l, k) => if l = 0 then (some (q, k), k) else (none, k)
/-- what _parse_link_href reckons: the destination's bounds, and the place reached -/
def href (x : Str) (p : Int) (b : Bool) (lim : Int) : Option (Int × Int) × Int := hrefAt (sfx x (skipLead (sfx x p) p)) (skipLead (sfx x p) p) b lim
theorem scan_cons (lim : Int) (c : Nat) (r : List Nat) (lev k : Int) : scan lim (c :: r) lev k =
    if white c = true then (some lev, k)
    else if c < 32 ∨ c = 127 then (none, k)
    else if c = 40 then (if lev + 1 > lim then (none, k) else scan lim r (lev + 1) (k + 1))
    else if c = 41 then (if lev = 0 then (some lev, k) else scan lim r (lev - 1) (k + 1))
    else match r with
      | [] => scan lim [] lev (k + 1)
      | d :: r' => if c = 92 ∧ punct d = true then scan lim r' lev (k + 2) else scan lim (d :: r') lev (k + 1) := by
  cases r <;> simp only [scan]
theorem lit_lt : (Str.ofString "<").cps.toList = [60] := by decide +kernel
theorem lit_op : (Str.ofString "(").cps.toList = [40] := by decide +kernel
theorem lit_cl : (Str.ofString ")").cps.toList = [41] := by decide +kernel
theorem lit_del : (Str.ofString "\x7f").cps.toList = [127] := by decide +kernel
section
variable {x : Str} {p q : Int} {b : Bool} {lim : Int}
theorem href_end (hq : q = skipLead (sfx x p) p) (h : (x.length : Int) ≤ q) : href x p b lim = (none, q) := by
  unfold href hrefAt
  rw [← hq, sfx_nil h]
theorem href_angle0 (hq : q = skipLead (sfx x p) p) (h0 : 0 ≤ q) (h : q < (x.length : Int)) (c : (Str.ofString "<").cps.toList = [sgAt x q]) (a : angle (sfx x (q + 1)) (q + 1) = none) : href x p b lim = (none, q) := by
  unfold href hrefAt
  rw [← hq, sfx_cons h0 h, sg_eq lit_lt c]
  simp [a]
theorem href_angle1 {e : Int} (hq : q = skipLead (sfx x p) p) (h0 : 0 ≤ q) (h : q < (x.length : Int)) (c : (Str.ofString "<").cps.toList = [sgAt x q]) (a : angle (sfx x (q + 1)) (q + 1) = some e) : href x p b lim = (some (q + 1, e), e + 1) := by
  unfold href hrefAt
  rw [← hq, sfx_cons h0 h, sg_eq lit_lt c]
  simp [a]
theorem href_block (hq : q = skipLead (sfx x p) p) (h0 : 0 ≤ q) (h : q < (x.length : Int)) (c : ¬ (Str.ofString "<").cps.toList = [sgAt x q]) (hb : b = true) (n : sgAt x q ∈ (Str.ofString " \t\n\r\x0c").cps.toList) : href x p b lim = (none, q) := by
  have c' : ¬ sgAt x q = 60 := fun z => c (by rw [lit_lt, z])
  have n' : white (sgAt x q) = true := by unfold white; exact decide_eq_true n
  unfold href hrefAt
  rw [← hq, sfx_cons h0 h]
  simp [c', hb, n']
theorem href_none {k : Int} (hq : q = skipLead (sfx x p) p) (h0 : 0 ≤ q) (h : q < (x.length : Int)) (c : ¬ (Str.ofString "<").cps.toList = [sgAt x q]) (n : ¬ (b = true ∧ sgAt x q ∈ (Str.ofString " \t\n\r\x0c").cps.toList)) (s : scan lim (sfx x q) 0 q = (none, k)) : href x p b lim = (none, k) := by
  have c' : ¬ sgAt x q = 60 := fun z => c (by rw [lit_lt, z])
  have n' : ¬ (b = true ∧ white (sgAt x q) = true) := fun z => n ⟨z.1, by have := z.2; unfold white at this; exact of_decide_eq_true this⟩
  rw [sfx_cons h0 h] at s
  unfold href hrefAt
  rw [← hq, sfx_cons h0 h]
  simp only [if_neg c', if_neg n', s]
theorem href_some {k l : Int} (hq : q = skipLead (sfx x p) p) (h0 : 0 ≤ q) (h : q < (x.length : Int)) (c : ¬ (Str.ofString "<").cps.toList = [sgAt x q]) (n : ¬ (b = true ∧ sgAt x q ∈ (Str.ofString " \t\n\r\x0c").cps.toList)) (s : scan lim (sfx x q) 0 q = (some l, k)) : href x p b lim = if l = 0 then (some (q, k), k) else (none, k) := by
  have c' : ¬ sgAt x q = 60 := fun z => c (by rw [lit_lt, z])
  have n' : ¬ (b = true ∧ white (sgAt x q) = true) := fun z => n ⟨z.1, by have := z.2; unfold white at this; exact of_decide_eq_true this⟩
  rw [sfx_cons h0 h] at s
  unfold href hrefAt
  rw [← hq, sfx_cons h0 h]
  simp only [if_neg c', if_neg n', s]
end
section
variable {x : Str} {k lev lim : Int}
theorem scan_end (h : (x.length : Int) ≤ k) : scan lim (sfx x k) lev k = (some lev, k) := by rw [sfx_nil h, scan]
theorem scan_ws (h0 : 0 ≤ k) (h : k < (x.length : Int)) (n : sgAt x k ∈ (Str.ofString " \t\n\r\x0c").cps.toList) : scan lim (sfx x k) lev k = (some lev, k) := by
  have n' : white (sgAt x k) = true := by unfold white; exact decide_eq_true n
  rw [sfx_cons h0 h, scan_cons, if_pos n']
theorem scan_ctl (h0 : 0 ≤ k) (h : k < (x.length : Int)) (n : ¬ sgAt x k ∈ (Str.ofString " \t\n\r\x0c").cps.toList) (c : ((sgAt x k : Nat) : Int) < 32 ∨ (Str.ofString "\x7f").cps.toList = [sgAt x k]) : scan lim (sfx x k) lev k = (none, k) := by
  have n' : ¬ white (sgAt x k) = true := by unfold white; simpa using n
  have c' : sgAt x k < 32 ∨ sgAt x k = 127 := c.imp (fun z => by omega) (fun z => sg_eq lit_del z)
  rw [sfx_cons h0 h, scan_cons, if_neg n', if_pos c']
theorem white_no {c : Nat} (h : ¬ c ∈ [32, 9, 10, 13, 12]) : ¬ white c = true := by
  unfold white
  rw [show (Str.ofString " \t\n\r\x0c").cps.toList = [32, 9, 10, 13, 12] by decide +kernel]
  simpa using h
theorem scan_esc (h0 : 0 ≤ k) (h : k < (x.length : Int)) (c : (Str.ofString "\\").cps.toList = [sgAt x k]) (q : k + 1 < (x.length : Int)) (p : sgAt x (k + 1) ∈ (Str.ofString "!\"#$%&'()*+,-./:;<=>?@\x5b\\]^_`{|}~").cps.toList) :
    scan lim (sfx x k) lev k = scan lim (sfx x (k + 2)) lev (k + 2) := by
  have p' : punct (sgAt x (k + 1)) = true := by unfold punct; exact decide_eq_true p
  rw [sfx_cons h0 h, sfx_cons (by omega) q, sg_eq lit_bs c, scan_cons, if_neg (white_no (by decide)), if_neg (by decide), if_neg (by decide), if_neg (by decide)]
  simp only [p', and_self, if_true, show k + 1 + 1 = k + 2 by omega]
theorem scan_open (h0 : 0 ≤ k) (h : k < (x.length : Int)) (c : (Str.ofString "(").cps.toList = [sgAt x k]) : scan lim (sfx x k) lev k = if lev + 1 > lim then (none, k) else scan lim (sfx x (k + 1)) (lev + 1) (k + 1) := by
  rw [sfx_cons h0 h, sg_eq lit_op c, scan_cons, if_neg (white_no (by decide)), if_neg (by decide), if_pos rfl]
theorem scan_close (h0 : 0 ≤ k) (h : k < (x.length : Int)) (c : (Str.ofString ")").cps.toList = [sgAt x k]) : scan lim (sfx x k) lev k = if lev = 0 then (some lev, k) else scan lim (sfx x (k + 1)) (lev - 1) (k + 1) := by
  rw [sfx_cons h0 h, sg_eq lit_cl c, scan_cons, if_neg (white_no (by decide)), if_neg (by decide), if_neg (by decide), if_pos rfl]
theorem scan_else (h0 : 0 ≤ k) (h : k < (x.length : Int)) (n : ¬ sgAt x k ∈ (Str.ofString " \t\n\r\x0c").cps.toList) (c1 : ¬ ((sgAt x k : Nat) : Int) < 32) (c2 : ¬ (Str.ofString "\x7f").cps.toList = [sgAt x k])
    (e : ¬ ((Str.ofString "\\").cps.toList = [sgAt x k] ∧ k + 1 < (x.length : Int) ∧ sgAt x (k + 1) ∈ (Str.ofString "!\"#$%&'()*+,-./:;<=>?@\x5b\\]^_`{|}~").cps.toList))
    (o : ¬ (Str.ofString "(").cps.toList = [sgAt x k]) (cl : ¬ (Str.ofString ")").cps.toList = [sgAt x k]) : scan lim (sfx x k) lev k = scan lim (sfx x (k + 1)) lev (k + 1) := by
  have n' : ¬ white (sgAt x k) = true := by unfold white; simpa using n
  have c' : ¬ (sgAt x k < 32 ∨ sgAt x k = 127) := fun z => z.elim (fun z => c1 (by omega)) (fun z => c2 (by rw [lit_del, z]))
  have o' : ¬ sgAt x k = 40 := fun z => o (by rw [lit_op, z])
  have l' : ¬ sgAt x k = 41 := fun z => cl (by rw [lit_cl, z])
  by_cases q : k + 1 < (x.length : Int)
  · rw [sfx_cons h0 h, sfx_cons (by omega) q, scan_cons, if_neg n', if_neg c', if_neg o', if_neg l']
    have e' : ¬ (sgAt x k = 92 ∧ punct (sgAt x (k + 1)) = true) := fun z => e ⟨by rw [lit_bs, z.1], q, by have := z.2; unfold punct at this; exact of_decide_eq_true this⟩
    simp only [if_neg e']
  · rw [sfx_cons h0 h, sfx_nil (i := k + 1) (by omega), scan_cons, if_neg n', if_neg c', if_neg o', if_neg l']
end
/-! # rows: a list in the ledger, or one that the top wrote -/
/-- where the items of the rows lie -/
def RowsAt (w : World) (q : Addr) (us : List Value) (pre : List (Addr × Obj)) : Prop :=
  (∃ n, (q, listOf us.toArray n) ∈ pre) ∨ (∀ h, (Mine.hd.heap_39 w.params).In h → h.IsList q us.toArray)
theorem rows_at {w : World} {q : Addr} {us : List Value} {pre : List (Addr × Obj)} {g h : Heap} {L : Addr} {m : Str → Option Value} {x : Addr × Obj} (R : RowsAt w q us pre) (N : News g L h (x :: pre)) (F : Fr g L h m) (X : (Mine.hd.heap_39 w.params).In g) : h.IsList q us.toArray := by
  rcases R with ⟨n, e⟩ | e
  · exact ⟨_, (N _ (.tail _ e)).1, rfl, n, rfl⟩
  · exact e h (X.keeps F.keep)
theorem news_swap {h₀ h : Heap} {L : Addr} {a b : Addr × Obj} {r : List (Addr × Obj)} (N : News h₀ L h (a :: b :: r)) : News h₀ L h (b :: a :: r) := fun p hp => N p (by
  rcases List.mem_cons.mp hp with e | e
  · rw [e]; exact .tail _ (.head _)
  · rcases List.mem_cons.mp e with e | e
    · rw [e]; exact .head _
    · exact .tail _ (.tail _ e))
section
variable {prog : Program} {w : World} {A : Around} {E : Value → Shared → Prop} {s : Shared}
theorem st_listItem {value slice : PySem.Expr} {l : Addr} {vs : List Value} {k : Int} {u : Tok} {Q : Value → Shared → Prop} (hl : s.heap.IsList l vs.toArray) (h0 : 0 ≤ k) (h1 : k < (vs.length : Int)) (h2 : vs.length ≤ 1000)
    (h : ∀ v ∈ vs, Q v s) (hs : subscripted slice false (.ref l) (.int k u) = operate [.ref l, .int k u] (getItem (.ref l) (.int k u)) := by with_unfolding_all rfl) :
    wpAny (model prog w) A (subscriptTail value slice (.ref l) (.int k u)) Q E s := by
  have hk : k.toNat < vs.length := by omega
  have e : vs.toArray[k.toNat]? = some vs[k.toNat] := by simp [hk]
  exact tail_any hl.typeIs slot_list_getitem.lookup (wpAny_getItem_list hl h0 (by omega) e (h _ (List.getElem_mem hk))) hs
end
theorem rows_led {w : World} {q : Addr} {us : List Value} {n : Nat} {r : List (Addr × Obj)} : RowsAt w q us ((q, listOf us.toArray n) :: r) := .inl ⟨n, .head _⟩
/-- rows of the top, by a look at the written part -/
theorem rows_top {w : World} {q : Addr} {us : List Value} {pre : List (Addr × Obj)} {n : Nat} (e : (Mine.hd.heap_39 w.params).lookup q = some (listOf us.toArray n)) : RowsAt w q us pre := .inr fun h X => ⟨_, X q _ e, rfl, n, rfl⟩
abbrev tx (s : String) (t : Tok) : Value := .str (Str.ofString s) t
theorem rows_59 {w : World} {pre : List (Addr × Obj)} : RowsAt w 59 [.ref 46, .ref 47, .ref 48, .ref 49, .ref 50, .ref 51, .ref 52, .ref 53, .ref 54, .ref 55, .ref 56, .ref 57, .ref 58] pre := rows_top (n := 0) (by rfl)
theorem rows_60 {w : World} {pre : List (Addr × Obj)} : RowsAt w 60 [tx "a" 268, tx "Z" 269, tx "é" 270, tx "\\(" 271, tx "\\)" 272, tx "\\\\" 273, tx "\\a" 274, tx "()" 275, tx "(b)" 276, tx "((c))" 277, tx "(((d)))" 278, tx "&amp;" 279, tx "%20" 280, tx "\"" 281, tx ":" 282] pre := rows_top (n := 0) (by rfl)
theorem rows_61 {w : World} {pre : List (Addr × Obj)} : RowsAt w 61 [tx "" 284, tx " " 285, tx "\t" 286, tx "\n" 287, tx "\r" 288, tx "\x0c" 289, tx ")" 290] pre := rows_top (n := 0) (by rfl)
theorem rows_62 {w : World} {pre : List (Addr × Obj)} : RowsAt w 62 [tx "\x00" 292, tx "\x01" 293, tx "\x1f" 294, tx "\x7f" 295] pre := rows_top (n := 0) (by rfl)
theorem rows_63 {w : World} {pre : List (Addr × Obj)} : RowsAt w 63 [tx "a" 297, tx " " 298, tx "(" 299, tx ")" 300, tx "\\<" 301, tx "\\>" 302, tx "\\\\" 303, tx "\\a" 304, tx "\t" 305, tx "\x0c" 306, tx "é" 307] pre := rows_top (n := 0) (by rfl)
theorem rows_64 {w : World} {pre : List (Addr × Obj)} : RowsAt w 64 [tx "<" 309, tx "\n" 310, tx "\r" 311, tx "\x00" 312] pre := rows_top (n := 0) (by rfl)
theorem RowsAt.more {w : World} {q : Addr} {us : List Value} {pre own : List (Addr × Obj)} (R : RowsAt w q us pre) : RowsAt w q us (pre ++ own) := R.imp (fun ⟨n, e⟩ => ⟨n, List.mem_append.mpr (.inl e)⟩) id
theorem sub_box {x : Addr × Obj} {pre own : List (Addr × Obj)} : ∀ p ∈ x :: pre, p ∈ x :: (pre ++ own) := fun p hp => by
  rcases List.mem_cons.mp hp with e | e
  · rw [e]; exact .head _
  · exact .tail _ (List.mem_append.mpr (.inl e))
theorem sub_own {x : Addr × Obj} {pre own : List (Addr × Obj)} : ∀ p ∈ own, p ∈ x :: (pre ++ own) := fun _ hp => .tail _ (List.mem_append.mpr (.inr hp))
theorem len_empty : (Str.ofString "").length = 0 := by decide +kernel
theorem cps_empty : (Str.ofString "").cps.toList = [] := by decide +kernel
theorem cps_add (x y : Str) : (x ++ y).cps.toList = x.cps.toList ++ y.cps.toList := by
  show (x.cps ++ y.cps).toList = _
  rw [Array.toList_append]
/-- a text put together of at most so many of these -/
def Joined (ts : List Str) (mo : Int) (x : Str) : Prop := ∃ us : List Str, (us.length : Int) ≤ mo ∧ (∀ u ∈ us, u ∈ ts) ∧ x.cps.toList = us.flatMap (fun u => u.cps.toList)
theorem joined_nil {ts : List Str} : Joined ts 0 (Str.ofString "") := ⟨[], Int.le_refl _, fun _ h => (nomatch h), by rw [cps_empty]; rfl⟩
theorem Joined.snoc {ts : List Str} {k k' : Int} {x y : Str} (h : Joined ts k x) (hy : y ∈ ts) (e : k + 1 ≤ k') : Joined ts k' (x ++ y) := by
  obtain ⟨us, a, b, c⟩ := h
  refine ⟨us ++ [y], ?_, ?_, ?_⟩
  · rw [List.length_append]; simp only [List.length_cons, List.length_nil]; omega
  · intro u hu
    rcases List.mem_append.mp hu with q | q
    · exact b u q
    · rw [List.mem_singleton.mp q]; exact hy
  · rw [cps_add, c, List.flatMap_append]; simp
theorem Joined.mono {ts : List Str} {k k' : Int} {x : Str} (h : Joined ts k x) (e : k ≤ k') : Joined ts k' x := by
  obtain ⟨us, a, b, c⟩ := h
  exact ⟨us, by omega, b, c⟩
theorem shaped3 {y : Str} {e d : Int} (h : PyData.strOk y = true) : SeqAt.shaped (.tuple [.str y, .int e, .int d]) = true := by
  simp [SeqAt.shaped, PyData.canLay0, PyData.canLayAll0, PyData.depth, PyData.depthAll, h]
theorem shaped2 {y : Str} {e : Int} (h : PyData.strOk y = true) : SeqAt.shaped (.tuple [.str y, .int e]) = true := by
  simp [SeqAt.shaped, PyData.canLay0, PyData.canLayAll0, PyData.depth, PyData.depthAll, h]
/-- the texts of a written list -/
def textsOf : List Value → List Str
  | [] => []
  | .str x _ :: r => x :: textsOf r
  | _ :: r => textsOf r
def allTx : List Value → Bool
  | [] => true
  | .str _ _ :: r => allTx r
  | _ :: _ => false
theorem strs_texts : ∀ {us : List Value}, allTx us = true → StrsAre us (textsOf us)
  | [], _ => .nil
  | .str x t :: r, h => .cons x t (strs_texts (us := r) h)
theorem news_swap3 {h₀ h : Heap} {L : Addr} {a b c : Addr × Obj} {r : List (Addr × Obj)} (N : News h₀ L h (a :: b :: c :: r)) : News h₀ L h (c :: a :: b :: r) := fun p hp => N p (by
  simp only [List.mem_cons] at hp ⊢
  rcases hp with e | e | e | e
  · exact .inr (.inr (.inl e))
  · exact .inl e
  · exact .inr (.inl e)
  · exact .inr (.inr (.inr e)))
theorem str_ext {x y : Str} (h : x.cps.toList = y.cps.toList) : x = y := by
  obtain ⟨a⟩ := x
  obtain ⟨b⟩ := y
  congr 1
  exact Array.toList_inj.mp h

section
local macro_rules | `(tactic| walk_at "subscriptTail Name Name str int") => `(tactic| (k_here; (with_reducible show wpAny _ _ (subscriptTail _ _ (Value.str _ _) (Value.int _ _)) _ _ _); refine st_item (by first | omega | (simp only [Bool.and_eq_true, decide_eq_true_eq] at *; omega)) (by first | omega | (simp only [Bool.and_eq_true, decide_eq_true_eq] at *; omega)) (by omega) ?_))
local macro_rules | `(tactic| walk_at "subscriptTail Name BinOp str int") => `(tactic| (k_here; (with_reducible show wpAny _ _ (subscriptTail _ _ (Value.str _ _) (Value.int _ _)) _ _ _); refine st_item (by first | omega | (simp only [Bool.and_eq_true, decide_eq_true_eq] at *; omega)) (by first | omega | (simp only [Bool.and_eq_true, decide_eq_true_eq] at *; omega)) (by omega) ?_))
local macro_rules | `(tactic| walk_at "compareOp In str str") => `(tactic| ((with_reducible show wpAny _ _ (compareOp _ (Value.str (sg _) _) (Value.str _ _)) _ _ _); refine st_in ?_))
local macro_rules | `(tactic| walk_at "compareOp Eq str str") => `(tactic| ((with_reducible show wpAny _ _ (compareOp _ (Value.str (sg _) _) (Value.str _ _)) _ _ _); refine st_eq ?_))
local macro_rules | `(tactic| walk_at "call builtin:ord") => `(tactic| ((with_reducible show wpAny _ _ (call (Value.builtin "ord") [Value.str (sg _) _]) _ _ _); refine st_ord ?_))
local macro_rules | `(tactic| walk_at "exec While") => `(tactic| (k_here; (with_reducible show wpAny _ _ (exec (Stmt.While _ _ _ _) _) _ _ _); refine Halt.mk ?_))
local macro_rules | `(tactic| walk_at "KswPost") => `(tactic| (dsimp only [KswPost]))
local macro_rules | `(tactic| walk_at "KswEnd") => `(tactic| (refine Halt.mk ?_))
local macro_rules | `(tactic| k_enter) => `(tactic| (refine' code_def ?k1 ?k2 ?k3 ?k4 ?k5 ?kA ?kF ?kK ?k6 ?k7 ?k8 ?k9 ?kB ?_ ?c2 ?c3 ?c4 ?c5; (case kA => exact rfl); (case kF => exact rfl); (case kK => assumption); (case k1 => k_asm); (case k2 => k_asm); (case k3 => k_asm); (case k4 => k_asm); (case k5 => k_asm); (case k6 => k_is); (case k7 => k_is); (case k8 => ktr_room); (case k9 => first | exact BindsTo.of_eq rfl | exact binds_K (by k_in) rfl (by k_is) rfl rfl rfl | exact kp_binds (by k_in) (fun _ => rfl)); (case c5 => decide); (case kB => exact locs rfl); (case c2 => exact rfl); (case c3 => exact rfl); (case c4 => exact rfl); k_whole; intro g' L' h' FG' F' N' B' X' T'; (try dsimp only); (try k_lift B'); (try k_fold)))
set_option maxRecDepth 100000 in
set_option maxHeartbeats 8000000 in
theorem skip_ctr (w : World) (news : List (Addr × Obj)) (x : Str) (tx tp : Tok) (p : Int) (hx : x.length ≤ 1000) (hp : 0 ≤ p) (hp2 : p ≤ (x.length : Int)) :
   Ctr w 38 2 20 news [.str x tx, .int p tp] [] (fun _ => True) (fun h₀ L m s Q => ∀ (r : Int) (t : Tok) (h' : Heap) (tk' : Nat), r = skipLead (sfx x p) p → p ≤ r → r ≤ (x.length : Int) → Fr h₀ L h' m → News h₀ L h' news → Q (.int r t) { s with heap := h', toks := tk' }) := by
  unfold Ctr
  k_fill
  intro mean mg mb dp un gd cn cs a ccd cl outer A₀ base h₀ L m s Q E B F X N T hk hd hu _ hret
  refine wpAny_call ?_
  k_dflt cell_enter
  k_steps
  rename Fr _ _ _ _ => lF'
  rename News _ _ _ _ => lN'
  refine ksw_while (σ := Int × Tok) (fun _ => news) (fun c => [(Str.ofString "pos", .int c.1 c.2)]) (fun _ => True) [] (fun c => p ≤ c.1 ∧ c.1 ≤ (x.length : Int) ∧ skipLead (sfx x c.1) c.1 = skipLead (sfx x p) p) (fun c => ((x.length : Int) - c.1).toNat) (p, tp) lF' lN' trivial (by with_unfolding_all kst_all) ⟨Int.le_refl _, hp2, rfl⟩ ?_
  intro c u h tk _ hP lF lN
  obtain ⟨k, tk'⟩ := c
  obtain ⟨hk1, hk2, hk3⟩ := hP
  dsimp only at hk1 hk2 hk3
  dsimp only [kstB] at lF
  clear lF' lN'
  k_steps
  -- the turn's end
  case _ =>
    refine ksw_end (k + 1, _) (by assumption) (by assumption) (fun p hp => hp) trivial (by kst_all) (by ksw_same) ⟨by dsimp only; omega, by dsimp only; omega, ?_⟩ (by dsimp only; omega)
    exact (lead_blank (by omega) (by omega) (by assumption)).symm.trans hk3
  all_goals try (
    rename Fr _ _ _ _ => lF'
    rename News _ _ _ _ => lN'
    first
    | refine ksw_while (σ := Int × Tok) (fun _ => news) (fun c => [(Str.ofString "pos", .int c.1 c.2)]) (fun _ => True) [] (fun c => p ≤ c.1 ∧ c.1 ≤ (x.length : Int) ∧ span (sfx x c.1) c.1 = skipLead (sfx x p) p) (fun c => ((x.length : Int) - c.1).toNat) (k + 1, _) lF' lN' trivial (by with_unfolding_all kst_all) ⟨by dsimp only; omega, by dsimp only; omega, (lead_nl (by omega) (by omega) (by assumption) (by assumption) (by first | (rintro ⟨e1, e2, e3⟩; first | (exact absurd e1 (by assumption)) | (exact absurd e3 (by assumption)) | omega))).symm.trans hk3⟩ ?_
    | refine ksw_while (σ := Int × Tok) (fun _ => news) (fun c => [(Str.ofString "pos", .int c.1 c.2)]) (fun _ => True) [] (fun c => p ≤ c.1 ∧ c.1 ≤ (x.length : Int) ∧ span (sfx x c.1) c.1 = skipLead (sfx x p) p) (fun c => ((x.length : Int) - c.1).toNat) (k + 2, _) lF' lN' trivial (by with_unfolding_all kst_all) ⟨by dsimp only; omega, by dsimp only; omega, (lead_crlf (by omega) (by omega) (by assumption) (by assumption) (by assumption) (by assumption) (by assumption)).symm.trans hk3⟩ ?_
    clear lF' lN'
    intro c2 u2 h2 tk2 _ hP2 lF2 lN2
    obtain ⟨k2, tk2'⟩ := c2
    obtain ⟨hj1, hj2, hj3⟩ := hP2
    dsimp only at hj1 hj2 hj3
    dsimp only [kstB] at lF2
    k_steps)
  all_goals first
    | (refine ksw_end (k2 + 1, _) (by assumption) (by assumption) (fun p hp => hp) trivial (by kst_all) (by ksw_same) ⟨by dsimp only; omega, by dsimp only; omega, ?_⟩ (by dsimp only; omega)
       exact (span_blank (by omega) (by omega) (by assumption)).symm.trans hj3)
    | exact hret _ _ _ _ ((span_stop (by omega) (by omega) (by assumption)).symm.trans hj3) (by omega) (by omega) (by assumption) (by assumption)
    | exact hret _ _ _ _ ((span_end (by omega)).symm.trans hj3) (by omega) (by omega) (by assumption) (by assumption)
    | exact hret _ _ _ _ ((lead_stop (by omega) (by omega) (by assumption) (by assumption)).symm.trans hk3) (by omega) (by omega) (by assumption) (by assumption)
    | exact hret _ _ _ _ ((lead_end (by omega)).symm.trans hk3) (by omega) (by omega) (by assumption) (by assumption)
end

section
local macro_rules | `(tactic| walk_at "subscriptTail Name Name str int") => `(tactic| (k_here; (with_reducible show wpAny _ _ (subscriptTail _ _ (Value.str _ _) (Value.int _ _)) _ _ _); refine st_item (by first | omega | (simp only [Bool.and_eq_true, decide_eq_true_eq] at *; omega)) (by first | omega | (simp only [Bool.and_eq_true, decide_eq_true_eq] at *; omega)) (by omega) ?_))
local macro_rules | `(tactic| walk_at "subscriptTail Name BinOp str int") => `(tactic| (k_here; (with_reducible show wpAny _ _ (subscriptTail _ _ (Value.str _ _) (Value.int _ _)) _ _ _); refine st_item (by first | omega | (simp only [Bool.and_eq_true, decide_eq_true_eq] at *; omega)) (by first | omega | (simp only [Bool.and_eq_true, decide_eq_true_eq] at *; omega)) (by omega) ?_))
local macro_rules | `(tactic| walk_at "compareOp In str str") => `(tactic| ((with_reducible show wpAny _ _ (compareOp _ (Value.str (sg _) _) (Value.str _ _)) _ _ _); refine st_in ?_))
local macro_rules | `(tactic| walk_at "compareOp Eq str str") => `(tactic| ((with_reducible show wpAny _ _ (compareOp _ (Value.str (sg _) _) (Value.str _ _)) _ _ _); refine st_eq ?_))
local macro_rules | `(tactic| walk_at "call builtin:ord") => `(tactic| ((with_reducible show wpAny _ _ (call (Value.builtin "ord") [Value.str (sg _) _]) _ _ _); refine st_ord ?_))
local macro_rules | `(tactic| walk_at "exec While") => `(tactic| (k_here; (with_reducible show wpAny _ _ (exec (Stmt.While _ _ _ _) _) _ _ _); refine Halt.mk ?_))
local macro_rules | `(tactic| walk_at "KswPost") => `(tactic| (dsimp only [KswPost]))
local macro_rules | `(tactic| walk_at "KswEnd") => `(tactic| (refine Halt.mk ?_))
local macro_rules | `(tactic| k_enter) => `(tactic| (refine' code_def ?k1 ?k2 ?k3 ?k4 ?k5 ?kA ?kF ?kK ?k6 ?k7 ?k8 ?k9 ?kB ?_ ?c2 ?c3 ?c4 ?c5; (case kA => exact rfl); (case kF => exact rfl); (case kK => assumption); (case k1 => k_asm); (case k2 => k_asm); (case k3 => k_asm); (case k4 => k_asm); (case k5 => k_asm); (case k6 => k_is); (case k7 => k_is); (case k8 => ktr_room); (case k9 => first | exact BindsTo.of_eq rfl | exact binds_K (by k_in) rfl (by k_is) rfl rfl rfl | exact kp_binds (by k_in) (fun _ => rfl)); (case c5 => decide); (case kB => exact locs rfl); (case c2 => exact rfl); (case c3 => exact rfl); (case c4 => exact rfl); k_whole; intro g' L' h' FG' F' N' B' X' T'; (try dsimp only); (try k_lift B'); (try k_fold)))
set_option maxRecDepth 100000 in
set_option maxHeartbeats 8000000 in
theorem to_ctr (w : World) (news : List (Addr × Obj)) (x : Str) (tx tp tm : Tok) (p mx : Int) (hx : x.length ≤ 1000) (hp : 0 ≤ p) (hp2 : p ≤ mx) (hm : mx ≤ (x.length : Int)) :
   Ctr w 31 2 20 news [.str x tx, .int p tp, .int mx tm] [] (fun _ => True) (RetInt news (skipTo mx (sfx x p) p)) := by
  unfold Ctr
  k_fill
  intro mean mg mb dp un gd cn cs a ccd cl outer A₀ base h₀ L m s Q E B F X N T hk hd hu _ hret
  refine wpAny_call ?_
  k_dflt k_enter
  k_steps
  rename Fr _ _ _ _ => lF'
  rename News _ _ _ _ => lN'
  refine ksw_while (σ := Int × Tok) (fun _ => news) (fun c => [(Str.ofString "pos", .int c.1 c.2)]) (fun _ => True) [] (fun c => p ≤ c.1 ∧ c.1 ≤ mx ∧ skipTo mx (sfx x c.1) c.1 = skipTo mx (sfx x p) p) (fun c => (mx - c.1).toNat) (p, tp) lF' lN' trivial (by with_unfolding_all kst_all) ⟨Int.le_refl _, hp2, rfl⟩ ?_
  intro c u h tk _ hP lF lN
  obtain ⟨k, tk'⟩ := c
  obtain ⟨hk1, hk2, hk3⟩ := hP
  dsimp only at hk1 hk2 hk3
  dsimp only [kstB] at lF
  clear lF' lN'
  k_steps
  all_goals first
    | (refine ksw_end (k + 1, _) (by assumption) (by assumption) (fun p hp => hp) trivial (by kst_all) (by ksw_same) ⟨by dsimp only; omega, by dsimp only; omega, ?_⟩ (by dsimp only; omega)
       exact (to_white (by omega) (by omega) (by omega) (by assumption)).symm.trans hk3)
    | exact hret _ _ _ _ ((to_stop (by omega) (by omega) (by assumption)).symm.trans hk3) (by assumption) (by assumption)
    | exact hret _ _ _ _ ((to_end (by omega)).symm.trans hk3) (by assumption) (by assumption)

set_option maxRecDepth 100000 in
set_option maxHeartbeats 8000000 in
theorem to_ctr2 (w : World) (news : List (Addr × Obj)) (x : Str) (tx tp : Tok) (p : Int) (hx : x.length ≤ 1000) (hp : 0 ≤ p) (hp2 : p ≤ (x.length : Int)) :
   Ctr w 31 2 20 news [.str x tx, .int p tp] [] (fun _ => True) (RetInt news (skipTo (x.length : Int) (sfx x p) p)) := by
  unfold Ctr
  k_fill
  intro mean mg mb dp un gd cn cs a ccd cl outer A₀ base h₀ L m s Q E B F X N T hk hd hu _ hret
  refine wpAny_call ?_
  k_dflt k_enter
  k_steps
  rename Fr _ _ _ _ => lF'
  rename News _ _ _ _ => lN'
  refine ksw_while (σ := Int × Tok) (fun _ => news) (fun c => [(Str.ofString "pos", .int c.1 c.2)]) (fun _ => True) [] (fun c => p ≤ c.1 ∧ c.1 ≤ (x.length : Int) ∧ skipTo (x.length : Int) (sfx x c.1) c.1 = skipTo (x.length : Int) (sfx x p) p) (fun c => ((x.length : Int) - c.1).toNat) (p, tp) lF' lN' trivial (by with_unfolding_all kst_all) ⟨Int.le_refl _, hp2, rfl⟩ ?_
  intro c u h tk _ hP lF lN
  obtain ⟨k, tk'⟩ := c
  obtain ⟨hk1, hk2, hk3⟩ := hP
  dsimp only at hk1 hk2 hk3
  dsimp only [kstB] at lF
  clear lF' lN'
  k_steps
  all_goals first
    | (refine ksw_end (k + 1, _) (by assumption) (by assumption) (fun p hp => hp) trivial (by kst_all) (by ksw_same) ⟨by dsimp only; omega, by dsimp only; omega, ?_⟩ (by dsimp only; omega)
       exact (to_white (by omega) (by omega) (by omega) (by assumption)).symm.trans hk3)
    | exact hret _ _ _ _ ((to_stop (by omega) (by omega) (by assumption)).symm.trans hk3) (by assumption) (by assumption)
    | exact hret _ _ _ _ ((to_end (by omega)).symm.trans hk3) (by assumption) (by assumption)
end

section
local macro_rules | `(tactic| walk_at "subscriptTail Name Name str int") => `(tactic| (k_here; (with_reducible show wpAny _ _ (subscriptTail _ _ (Value.str _ _) (Value.int _ _)) _ _ _); refine st_item (by first | omega | (simp only [Bool.and_eq_true, decide_eq_true_eq] at *; omega)) (by first | omega | (simp only [Bool.and_eq_true, decide_eq_true_eq] at *; omega)) (by omega) ?_))
local macro_rules | `(tactic| walk_at "subscriptTail Name BinOp str int") => `(tactic| (k_here; (with_reducible show wpAny _ _ (subscriptTail _ _ (Value.str _ _) (Value.int _ _)) _ _ _); refine st_item (by first | omega | (simp only [Bool.and_eq_true, decide_eq_true_eq] at *; omega)) (by first | omega | (simp only [Bool.and_eq_true, decide_eq_true_eq] at *; omega)) (by omega) ?_))
local macro_rules | `(tactic| walk_at "compareOp In str str") => `(tactic| ((with_reducible show wpAny _ _ (compareOp _ (Value.str (sg _) _) (Value.str _ _)) _ _ _); refine st_in ?_))
local macro_rules | `(tactic| walk_at "compareOp Eq str str") => `(tactic| ((with_reducible show wpAny _ _ (compareOp _ (Value.str (sg _) _) (Value.str _ _)) _ _ _); refine st_eq ?_))
local macro_rules | `(tactic| walk_at "call builtin:ord") => `(tactic| ((with_reducible show wpAny _ _ (call (Value.builtin "ord") [Value.str (sg _) _]) _ _ _); refine st_ord ?_))
local macro_rules | `(tactic| walk_at "exec While") => `(tactic| (k_here; (with_reducible show wpAny _ _ (exec (Stmt.While _ _ _ _) _) _ _ _); refine Halt.mk ?_))
local macro_rules | `(tactic| walk_at "KswPost") => `(tactic| (dsimp only [KswPost]))
local macro_rules | `(tactic| walk_at "KswEnd") => `(tactic| (refine Halt.mk ?_))
local macro_rules | `(tactic| k_enter) => `(tactic| (refine' code_def ?k1 ?k2 ?k3 ?k4 ?k5 ?kA ?kF ?kK ?k6 ?k7 ?k8 ?k9 ?kB ?_ ?c2 ?c3 ?c4 ?c5; (case kA => exact rfl); (case kF => exact rfl); (case kK => assumption); (case k1 => k_asm); (case k2 => k_asm); (case k3 => k_asm); (case k4 => k_asm); (case k5 => k_asm); (case k6 => k_is); (case k7 => k_is); (case k8 => ktr_room); (case k9 => first | exact BindsTo.of_eq rfl | exact binds_K (by k_in) rfl (by k_is) rfl rfl rfl | exact kp_binds (by k_in) (fun _ => rfl)); (case c5 => decide); (case kB => exact locs rfl); (case c2 => exact rfl); (case c3 => exact rfl); (case c4 => exact rfl); k_whole; intro g' L' h' FG' F' N' B' X' T'; (try dsimp only); (try k_lift B'); (try k_fold)))
/-- the made tuple -/
abbrev tupO (vs : List Value) : Obj := { cls := .type "tuple", data := .seq vs.toArray }
set_option maxRecDepth 100000 in
set_option maxHeartbeats 8000000 in
theorem angle_ctr (w : World) (news : List (Addr × Obj)) (x : Str) (tx tp : Tok) (p : Int) (hx : x.length ≤ 1000) (hp : 0 ≤ p) (hp2 : p < (x.length : Int)) :
   Ctr w 45 2 20 news [.str x tx, .int p tp] [] (fun _ => True) (fun h₀ L m s Q =>
     (∀ (r : Addr) (h' : Heap) (tk' : Nat), angle (sfx x (p + 1)) (p + 1) = none → Fr h₀ L h' m → News h₀ L h' ((r, tupO [.none, .none]) :: news) → Q (.ref r) { s with heap := h', toks := tk' }) ∧
     (∀ (r : Addr) (h' : Heap) (tk' : Nat) (e : Int) (y : Str) (t1 t2 : Tok), angle (sfx x (p + 1)) (p + 1) = some e → y.cps.toList = cut x (p + 1) e → y.length ≤ 1000 → p + 1 ≤ e → e < (x.length : Int) → Fr h₀ L h' m → News h₀ L h' ((r, tupO [.str y t1, .int (e + 1) t2]) :: news) → Q (.ref r) { s with heap := h', toks := tk' })) := by
  unfold Ctr
  k_fill
  intro mean mg mb dp un gd cn cs a ccd cl outer A₀ base h₀ L m s Q E B F X N T hk hd hu _ hret
  refine wpAny_call ?_
  k_dflt k_enter
  k_steps
  rename Fr _ _ _ _ => lF'
  rename News _ _ _ _ => lN'
  refine ksw_while (σ := Int × Tok) (fun _ => news) (fun c => [(Str.ofString "pos", .int c.1 c.2)]) (fun _ => True) [Str.ofString "c"] (fun c => p + 1 ≤ c.1 ∧ c.1 ≤ (x.length : Int) ∧ angle (sfx x c.1) c.1 = angle (sfx x (p + 1)) (p + 1)) (fun c => ((x.length : Int) - c.1).toNat) (p + 1, _) lF' lN' trivial (by with_unfolding_all kst_all) ⟨Int.le_refl _, by dsimp only; omega, rfl⟩ ?_
  intro c u h tk _ hP lF lN
  obtain ⟨k, tk'⟩ := c
  obtain ⟨hk1, hk2, hk3⟩ := hP
  dsimp only at hk1 hk2 hk3
  dsimp only [kstB] at lF
  clear lF' lN'
  k_steps
  all_goals first
    | exact hret.2 _ _ _ k _ _ _ (hk3.symm.trans (angle_hit (by omega) (by omega) (by assumption))) (cut_slice (by omega) (by omega) (by omega)) (Nat.le_trans (PyProof.Txt.length_slice_le _ _ _) hx) (by omega) (by omega) (by assumption) (by assumption)
    | exact hret.1 _ _ _ (hk3.symm.trans (angle_end (by omega))) (by assumption) (by assumption)
    | exact hret.1 _ _ _ (hk3.symm.trans ((angle_else (by omega) (by omega) (by assumption) (by rintro ⟨e1, e2, e3⟩; first | exact absurd e1 (by assumption) | exact absurd e3 (by assumption) | omega)).trans (if_pos (by assumption)))) (by assumption) (by assumption)
    | (refine ksw_end (k + 2, _) (by assumption) (by assumption) (fun p hp => hp) trivial (by kst_all) (by ksw_same) ⟨by dsimp only; omega, by dsimp only; omega, ?_⟩ (by dsimp only; omega)
       exact (angle_esc (by omega) (by omega) (by assumption) (by assumption) (by assumption)).symm.trans hk3)
    | (refine ksw_end (k + 1, _) (by assumption) (by assumption) (fun p hp => hp) trivial (by kst_all) (by ksw_same) ⟨by dsimp only; omega, by dsimp only; omega, ?_⟩ (by dsimp only; omega)
       exact ((angle_else (by omega) (by omega) (by assumption) (by rintro ⟨e1, e2, e3⟩; first | exact absurd e1 (by assumption) | exact absurd e3 (by assumption) | omega)).trans (if_neg (by assumption))).symm.trans hk3)
end

section
local macro_rules | `(tactic| walk_at "subscriptTail Name Name str int") => `(tactic| (k_here; (with_reducible show wpAny _ _ (subscriptTail _ _ (Value.str _ _) (Value.int _ _)) _ _ _); refine st_item (by first | omega | (simp only [Bool.and_eq_true, decide_eq_true_eq] at *; omega)) (by first | omega | (simp only [Bool.and_eq_true, decide_eq_true_eq] at *; omega)) (by omega) ?_))
local macro_rules | `(tactic| walk_at "subscriptTail Name BinOp str int") => `(tactic| (k_here; (with_reducible show wpAny _ _ (subscriptTail _ _ (Value.str _ _) (Value.int _ _)) _ _ _); refine st_item (by first | omega | (simp only [Bool.and_eq_true, decide_eq_true_eq] at *; omega)) (by first | omega | (simp only [Bool.and_eq_true, decide_eq_true_eq] at *; omega)) (by omega) ?_))
local macro_rules | `(tactic| walk_at "compareOp In str str") => `(tactic| ((with_reducible show wpAny _ _ (compareOp _ (Value.str (sg _) _) (Value.str _ _)) _ _ _); refine st_in ?_))
local macro_rules | `(tactic| walk_at "compareOp Eq str str") => `(tactic| ((with_reducible show wpAny _ _ (compareOp _ (Value.str (sg _) _) (Value.str _ _)) _ _ _); refine st_eq ?_))
local macro_rules | `(tactic| walk_at "call builtin:ord") => `(tactic| ((with_reducible show wpAny _ _ (call (Value.builtin "ord") [Value.str (sg _) _]) _ _ _); refine st_ord ?_))
local macro_rules | `(tactic| walk_at "exec While") => `(tactic| (k_here; (with_reducible show wpAny _ _ (exec (Stmt.While _ _ _ _) _) _ _ _); refine Halt.mk ?_))
local macro_rules | `(tactic| walk_at "KswPost") => `(tactic| (dsimp only [KswPost]))
local macro_rules | `(tactic| walk_at "KswEnd") => `(tactic| (refine Halt.mk ?_))
local macro_rules | `(tactic| k_enter) => `(tactic| (refine' code_def ?k1 ?k2 ?k3 ?k4 ?k5 ?kA ?kF ?kK ?k6 ?k7 ?k8 ?k9 ?kB ?_ ?c2 ?c3 ?c4 ?c5; (case kA => exact rfl); (case kF => exact rfl); (case kK => assumption); (case k1 => k_asm); (case k2 => k_asm); (case k3 => k_asm); (case k4 => k_asm); (case k5 => k_asm); (case k6 => k_is); (case k7 => k_is); (case k8 => ktr_room); (case k9 => first | exact BindsTo.of_eq rfl | exact binds_K (by k_in) rfl (by k_is) rfl rfl rfl | exact kp_binds (by k_in) (fun _ => rfl)); (case c5 => decide); (case kB => exact locs rfl); (case c2 => exact rfl); (case c3 => exact rfl); (case c4 => exact rfl); k_whole; intro g' L' h' FG' F' N' B' X' T'; (try dsimp only); (try k_lift B'); (try k_fold)))
local macro_rules | `(tactic| walk_at "call ref") => `(tactic| (k_here; (with_reducible show wpAny _ _ (call (Value.ref 38) _ _) _ _ _); k_dflt (
  refine' Ctr.use (skip_ctr _ _ _ _ _ _ ?hx ?hp ?hp2) ?k1 ?k2 ?k3 ?k4 ?k5 ?kK ?kd ?ku trivial ?_
  (case k1 => k_asm)
  (case k2 => k_asm)
  (case k3 => k_asm)
  (case k4 => k_asm)
  (case k5 => k_asm)
  (case kK => first | exact rfl | assumption)
  (case kd => ktr_room)
  (case ku => ktr_units)
  (case hx => omega)
  (case hp => omega)
  (case hp2 => omega)
  k_whole
  intro q9 t9 h9 tk9 hq9 hq8 hq7 F9 N9
  subst hq9
  (try dsimp only)
  (try k_fold))))
local macro_rules | `(tactic| walk_at "call ref") => `(tactic| (k_here; (with_reducible show wpAny _ _ (call (Value.ref 45) _ _) _ _ _); k_dflt (
  refine' Ctr.use (angle_ctr _ _ _ _ _ _ ?hx ?hp ?hp2) ?k1 ?k2 ?k3 ?k4 ?k5 ?kK ?kd ?ku trivial ⟨?_, ?_⟩
  (case k1 => k_asm)
  (case k2 => k_asm)
  (case k3 => k_asm)
  (case k4 => k_asm)
  (case k5 => k_asm)
  (case kK => first | exact rfl | assumption)
  (case kd => ktr_room)
  (case ku => ktr_units)
  (case hx => omega)
  (case hp => omega)
  (case hp2 => omega)
  k_whole
  intro r9 h9 tk9 hq9 F9 N9
  rotate_left
  intro r9 h9 tk9 e9 y9 t9 u9 hq9 hq8 hq7 hq6 hq5 F9 N9
  rotate_left
  all_goals (try dsimp only)
  all_goals (try k_fold))))
set_option maxRecDepth 100000 in
set_option maxHeartbeats 8000000 in
theorem href_ctr (w : World) (news : List (Addr × Obj)) (x : Str) (tx tp tl : Tok) (p lim : Int) (b : Bool) (hx : x.length ≤ 1000) (hp : 0 ≤ p) (hp2 : p ≤ (x.length : Int)) (hl : 0 ≤ lim) (hl2 : lim ≤ 1000) :
   Ctr w 23 4 60 news [.str x tx, .int p tp] [(Str.ofString "block", .bool b), (Str.ofString "max_nested_level", .int lim tl)] (fun _ => True) (fun h₀ L m s Q =>
     (∀ (r : Addr) (h' : Heap) (tk' : Nat) (k : Int) (t : Tok), href x p b lim = (none, k) → Fr h₀ L h' m → News h₀ L h' ((r, tupO [.none, .none, .int k t]) :: news) → Q (.ref r) { s with heap := h', toks := tk' }) ∧
     (∀ (r : Addr) (h' : Heap) (tk' : Nat) (a e k : Int) (y : Str) (t1 t2 t3 : Tok), href x p b lim = (some (a, e), k) → y.cps.toList = cut x a e → y.length ≤ 1000 → Fr h₀ L h' m → News h₀ L h' ((r, tupO [.str y t1, .int k t2, .int k t3]) :: news) → Q (.ref r) { s with heap := h', toks := tk' })) := by
  unfold Ctr
  k_fill
  intro mean mg mb dp un gd cn cs a ccd cl outer A₀ base h₀ L m s Q E B F X N T hk hd hu _ hret
  refine wpAny_call ?_
  k_dflt k_enter
  k_steps
  all_goals try (
    rename Fr _ _ _ _ => lF'
    rename News _ _ _ _ => lN'
    refine ksw_while (σ := (Int × Tok) × (Int × Tok)) (fun _ => news) (fun c => [(Str.ofString "pos", .int c.1.1 c.1.2), (Str.ofString "level", .int c.2.1 c.2.2)]) (fun _ => True) [Str.ofString "c"]
      (fun c => skipLead (sfx x p) p ≤ c.1.1 ∧ c.1.1 ≤ (x.length : Int) ∧ 0 ≤ c.2.1 ∧ c.2.1 ≤ lim ∧ scan lim (sfx x c.1.1) c.2.1 c.1.1 = scan lim (sfx x (skipLead (sfx x p) p)) 0 (skipLead (sfx x p) p)) (fun c => ((x.length : Int) - c.1.1).toNat) ((skipLead (sfx x p) p, _), (0, _)) lF' lN' trivial (by with_unfolding_all kst_all) ⟨Int.le_refl _, by dsimp only; omega, Int.le_refl _, hl, rfl⟩ ?_
    intro c u h tk _ hP lF lN
    obtain ⟨⟨k, tk'⟩, ⟨lev, tl'⟩⟩ := c
    obtain ⟨hk1, hk2, hl1, hl2, hk3⟩ := hP
    dsimp only at hk1 hk2 hl1 hl2 hk3
    dsimp only [kstB] at lF
    clear lF' lN'
    k_steps)
  all_goals first
    -- the loop's turns
    | (have e9 : (if (x.length : Int) < k + 2 then (x.length : Int) else k + 2) = k + 2 := if_neg (by omega)
       refine ksw_end ((if (x.length : Int) < k + 2 then (x.length : Int) else k + 2, _), (lev, _)) (by assumption) (by assumption) (fun p hp => hp) trivial (by kst_all) (by ksw_same) (by dsimp only; rw [e9]; refine ⟨by omega, by omega, hl1, hl2, ?_⟩; exact (scan_esc (by omega) (by omega) (by assumption) (by assumption) (by assumption)).symm.trans hk3) (by dsimp only; rw [e9]; omega))
    | (refine ksw_end ((k + 2, _), (lev, _)) (by assumption) (by assumption) (fun p hp => hp) trivial (by kst_all) (by ksw_same) ⟨by dsimp only; omega, by dsimp only; omega, hl1, hl2, ?_⟩ (by dsimp only; omega)
       exact (scan_esc (by omega) (by omega) (by assumption) (by assumption) (by assumption)).symm.trans hk3)
    | (refine ksw_end ((k + 1, _), (lev + 1, _)) (by assumption) (by assumption) (fun p hp => hp) trivial (by kst_all) (by ksw_same) ⟨by dsimp only; omega, by dsimp only; omega, by dsimp only; omega, by dsimp only; omega, ?_⟩ (by dsimp only; omega)
       exact ((scan_open (by omega) (by omega) (by assumption)).trans (if_neg (by omega))).symm.trans hk3)
    | (refine ksw_end ((k + 1, _), (lev - 1, _)) (by assumption) (by assumption) (fun p hp => hp) trivial (by kst_all) (by ksw_same) ⟨by dsimp only; omega, by dsimp only; omega, by dsimp only; omega, by dsimp only; omega, ?_⟩ (by dsimp only; omega)
       exact ((scan_close (by omega) (by omega) (by assumption)).trans (if_neg (by omega))).symm.trans hk3)
    | (refine ksw_end ((k + 1, _), (lev, _)) (by assumption) (by assumption) (fun p hp => hp) trivial (by kst_all) (by ksw_same) ⟨by dsimp only; omega, by dsimp only; omega, hl1, hl2, ?_⟩ (by dsimp only; omega)
       exact (scan_else (by omega) (by omega) (by assumption) (by assumption) (by assumption) (by rintro ⟨e1, e2, e3⟩; first | exact absurd e1 (by assumption) | exact absurd e3 (by assumption) | omega) (by assumption) (by assumption)).symm.trans hk3)
    -- the run's end
    | exact hret.2 _ _ _ _ _ _ _ _ _ _ ((href_some rfl (by omega) (by omega) (by assumption) (by rintro ⟨e1, e2⟩; first | exact absurd e2 (by assumption) | exact absurd (e1.symm.trans (by assumption : b = false)) (by decide)) (hk3.symm.trans (by first | exact scan_ws (by omega) (by omega) (by assumption) | exact scan_end (by omega) | exact (scan_close (by omega) (by omega) (by assumption)).trans (if_pos (by omega))))).trans (if_pos (by omega))) (cut_slice (by omega) (by omega) (by omega)) (Nat.le_trans (PyProof.Txt.length_slice_le _ _ _) hx) (by assumption) (by assumption)
    | exact hret.1 _ _ _ _ _ ((href_some rfl (by omega) (by omega) (by assumption) (by rintro ⟨e1, e2⟩; first | exact absurd e2 (by assumption) | exact absurd (e1.symm.trans (by assumption : b = false)) (by decide)) (hk3.symm.trans (by first | exact scan_ws (by omega) (by omega) (by assumption) | exact scan_end (by omega) | exact (scan_close (by omega) (by omega) (by assumption)).trans (if_pos (by omega))))).trans (if_neg (by omega))) (by assumption) (by assumption)
    | exact hret.1 _ _ _ _ _ (href_none rfl (by omega) (by omega) (by assumption) (by rintro ⟨e1, e2⟩; first | exact absurd e2 (by assumption) | exact absurd (e1.symm.trans (by assumption : b = false)) (by decide)) (hk3.symm.trans (by first | exact scan_ctl (by omega) (by omega) (by assumption) (Or.inl (by assumption)) | exact scan_ctl (by omega) (by omega) (by assumption) (Or.inr (by assumption)) | exact (scan_open (by omega) (by omega) (by assumption)).trans (if_pos (by omega))))) (by assumption) (by assumption)
    -- ahead of the run
    | exact hret.1 _ _ _ _ _ (href_end rfl (by omega)) (by assumption) (by assumption)
    | exact hret.1 _ _ _ _ _ (href_block rfl (by omega) (by omega) (by assumption) (by assumption) (by assumption)) (by assumption) (by assumption)
    | exact hret.1 _ _ _ _ _ (href_angle0 rfl (by omega) (by omega) (by assumption) (by assumption)) (by assumption) (news_drop2 (by assumption))
    | exact hret.2 _ _ _ _ _ _ _ _ _ _ (href_angle1 rfl (by omega) (by omega) (by assumption) (by assumption)) (by assumption) (by assumption) (by assumption) (news_drop2 (by assumption))
    | skip
end

section
local macro_rules | `(tactic| walk_at "subscriptTail Name Name str int") => `(tactic| (k_here; (with_reducible show wpAny _ _ (subscriptTail _ _ (Value.str _ _) (Value.int _ _)) _ _ _); refine st_item (by first | omega | (simp only [Bool.and_eq_true, decide_eq_true_eq] at *; omega)) (by first | omega | (simp only [Bool.and_eq_true, decide_eq_true_eq] at *; omega)) (by omega) ?_))
local macro_rules | `(tactic| walk_at "subscriptTail Name BinOp str int") => `(tactic| (k_here; (with_reducible show wpAny _ _ (subscriptTail _ _ (Value.str _ _) (Value.int _ _)) _ _ _); refine st_item (by first | omega | (simp only [Bool.and_eq_true, decide_eq_true_eq] at *; omega)) (by first | omega | (simp only [Bool.and_eq_true, decide_eq_true_eq] at *; omega)) (by omega) ?_))
local macro_rules | `(tactic| walk_at "compareOp In str str") => `(tactic| ((with_reducible show wpAny _ _ (compareOp _ (Value.str (sg _) _) (Value.str _ _)) _ _ _); refine st_in ?_))
local macro_rules | `(tactic| walk_at "compareOp Eq str str") => `(tactic| ((with_reducible show wpAny _ _ (compareOp _ (Value.str (sg _) _) (Value.str _ _)) _ _ _); refine st_eq ?_))
local macro_rules | `(tactic| walk_at "call builtin:ord") => `(tactic| ((with_reducible show wpAny _ _ (call (Value.builtin "ord") [Value.str (sg _) _]) _ _ _); refine st_ord ?_))
local macro_rules | `(tactic| walk_at "exec While") => `(tactic| (k_here; (with_reducible show wpAny _ _ (exec (Stmt.While _ _ _ _) _) _ _ _); refine Halt.mk ?_))
local macro_rules | `(tactic| walk_at "KswPost") => `(tactic| (dsimp only [KswPost]))
local macro_rules | `(tactic| walk_at "KswEnd") => `(tactic| (refine Halt.mk ?_))
local macro_rules | `(tactic| k_enter) => `(tactic| (refine' code_def ?k1 ?k2 ?k3 ?k4 ?k5 ?kA ?kF ?kK ?k6 ?k7 ?k8 ?k9 ?kB ?_ ?c2 ?c3 ?c4 ?c5; (case kA => exact rfl); (case kF => exact rfl); (case kK => assumption); (case k1 => k_asm); (case k2 => k_asm); (case k3 => k_asm); (case k4 => k_asm); (case k5 => k_asm); (case k6 => k_is); (case k7 => k_is); (case k8 => ktr_room); (case k9 => first | exact BindsTo.of_eq rfl | exact binds_K (by k_in) rfl (by k_is) rfl rfl rfl | exact kp_binds (by k_in) (fun _ => rfl)); (case c5 => decide); (case kB => exact locs rfl); (case c2 => exact rfl); (case c3 => exact rfl); (case c4 => exact rfl); k_whole; intro g' L' h' FG' F' N' B' X' T'; (try dsimp only); (try k_lift B'); (try k_fold)))
local macro_rules | `(tactic| k_all) => `(tactic| assumption)
/-- the box that the draws turn: the script, the place, the seed -/
abbrev boxO (l : Addr) (i z : Int) (t1 t2 : Tok) (n : Nat) : Obj := listOf #[.ref l, .int i t1, .int z t2] n
/-- the script lies in the base -/
abbrev ScriptAt (l : Addr) (vs : List Value) (ns : List Int) (h : Heap) : Prop := h.IsList l vs.toArray ∧ IntsAre vs ns ∧ ns.length ≤ 63
set_option maxRecDepth 100000 in
set_option maxHeartbeats 8000000 in
theorem draw_ctr (w : World) (pre : List (Addr × Obj)) (b l : Addr) (vs : List Value) (ns : List Int) (i z k : Int) (t1 t2 tk : Tok) (n : Nat)
   (hi0 : 0 ≤ i) (hi1 : i ≤ 1000000) (hz0 : 0 ≤ z) (hz1 : z < 2147483647) (hk0 : 0 < k) (hk1 : k ≤ 1000) (hpre : ∀ p ∈ pre, p.1 ≠ b) :
   Ctr w 71 2 20 ((b, boxO l i z t1 t2 n) :: pre) [.ref b, .int k tk] [] (ScriptAt l vs ns) (fun h₀ L m s Q =>
     ∀ (r : Int) (t : Tok) (h' : Heap) (tk' : Nat) (z' : Int) (t1' t2' : Tok) (n' : Nat), 0 ≤ r → r < k → 0 ≤ z' → z' < 2147483647 → Fr h₀ L h' m → News h₀ L h' ((b, boxO l (i + 1) z' t1' t2' n') :: pre) → Q (.int r t) { s with heap := h', toks := tk' }) := by
  unfold Ctr
  k_fill
  intro mean mg mb dp un gd cn cs a ccd cl outer A₀ base h₀ L m s Q E B F X N T hk hd hu hscr hret
  obtain ⟨hL, hI, hlen⟩ := hscr
  refine wpAny_call ?_
  k_dflt k_enter
  k_steps
  all_goals
    refine hret _ _ _ _ _ _ _ _ (Int.fmod_nonneg_of_pos _ hk0) (Int.fmod_lt_of_pos _ hk0) ?_ ?_ (by assumption) (by assumption)
    · exact Int.fmod_nonneg_of_pos _ (by decide)
    · exact Int.fmod_lt_of_pos _ (by decide)
end

section
local macro_rules | `(tactic| walk_at "subscriptTail Name Name str int") => `(tactic| (k_here; (with_reducible show wpAny _ _ (subscriptTail _ _ (Value.str _ _) (Value.int _ _)) _ _ _); refine st_item (by first | omega | (simp only [Bool.and_eq_true, decide_eq_true_eq] at *; omega)) (by first | omega | (simp only [Bool.and_eq_true, decide_eq_true_eq] at *; omega)) (by omega) ?_))
local macro_rules | `(tactic| walk_at "subscriptTail Name BinOp str int") => `(tactic| (k_here; (with_reducible show wpAny _ _ (subscriptTail _ _ (Value.str _ _) (Value.int _ _)) _ _ _); refine st_item (by first | omega | (simp only [Bool.and_eq_true, decide_eq_true_eq] at *; omega)) (by first | omega | (simp only [Bool.and_eq_true, decide_eq_true_eq] at *; omega)) (by omega) ?_))
local macro_rules | `(tactic| walk_at "compareOp In str str") => `(tactic| ((with_reducible show wpAny _ _ (compareOp _ (Value.str (sg _) _) (Value.str _ _)) _ _ _); refine st_in ?_))
local macro_rules | `(tactic| walk_at "compareOp Eq str str") => `(tactic| ((with_reducible show wpAny _ _ (compareOp _ (Value.str (sg _) _) (Value.str _ _)) _ _ _); refine st_eq ?_))
local macro_rules | `(tactic| walk_at "call builtin:ord") => `(tactic| ((with_reducible show wpAny _ _ (call (Value.builtin "ord") [Value.str (sg _) _]) _ _ _); refine st_ord ?_))
local macro_rules | `(tactic| walk_at "exec While") => `(tactic| (k_here; (with_reducible show wpAny _ _ (exec (Stmt.While _ _ _ _) _) _ _ _); refine Halt.mk ?_))
local macro_rules | `(tactic| walk_at "KswPost") => `(tactic| (dsimp only [KswPost]))
local macro_rules | `(tactic| walk_at "KswEnd") => `(tactic| (refine Halt.mk ?_))
local macro_rules | `(tactic| k_enter) => `(tactic| (refine' code_def ?k1 ?k2 ?k3 ?k4 ?k5 ?kA ?kF ?kK ?k6 ?k7 ?k8 ?k9 ?kB ?_ ?c2 ?c3 ?c4 ?c5; (case kA => exact rfl); (case kF => exact rfl); (case kK => assumption); (case k1 => k_asm); (case k2 => k_asm); (case k3 => k_asm); (case k4 => k_asm); (case k5 => k_asm); (case k6 => k_is); (case k7 => k_is); (case k8 => ktr_room); (case k9 => first | exact BindsTo.of_eq rfl | exact binds_K (by k_in) rfl (by k_is) rfl rfl rfl | exact kp_binds (by k_in) (fun _ => rfl)); (case c5 => decide); (case kB => exact locs rfl); (case c2 => exact rfl); (case c3 => exact rfl); (case c4 => exact rfl); k_whole; intro g' L' h' FG' F' N' B' X' T'; (try dsimp only); (try k_lift B'); (try k_fold)))
local macro_rules | `(tactic| k_all) => `(tactic| assumption)
local macro_rules | `(tactic| walk_at "call ref") => `(tactic| (k_here; (with_reducible show wpAny _ _ (call (Value.ref 71) _ _) _ _ _); k_dflt (
  refine' Ctr.use (draw_ctr _ _ _ _ _ _ _ _ _ _ _ _ _ ?hi0 ?hi1 ?hz0 ?hz1 ?hk0 ?hk1 ?hpre) ?k1 ?k2 ?k3 ?k4 ?k5 ?kK ?kd ?ku ?kp ?_
  (case k1 => k_asm)
  (case k2 => k_asm)
  (case k3 => k_asm)
  (case k4 => first | k_asm | exact news_swap (by k_asm))
  (case k5 => k_asm)
  (case kK => first | exact rfl | assumption)
  (case kd => ktr_room)
  (case ku => ktr_units)
  (case kp => assumption)
  (case hi0 => omega)
  (case hi1 => omega)
  (case hz0 => omega)
  (case hz1 => omega)
  (case hk0 => (try simp only [List.size_toArray]); omega)
  (case hk1 => (try simp only [List.size_toArray]); omega)
  (case hpre => k_all)
  k_whole
  intro q9 t9 h9 tk9 z9 u9 v9 n9 hq9 hq8 hq7 hq6 F9 N9
  (try simp only [List.size_toArray] at hq8)
  (try dsimp only)
  (try k_fold))))
local macro_rules | `(tactic| walk_at "call builtin:len") => `(tactic| (k_here; (with_reducible show wpAny _ _ (call (Value.builtin "len") [Value.ref _]) _ _ _); refine call_len_list (rows_at (by assumption) (by assumption) (by assumption) (by assumption)) (by (try simp only [List.size_toArray]); omega) ?_))
local macro_rules | `(tactic| walk_at "subscriptTail Name Call ref int") => `(tactic| (k_here; (with_reducible show wpAny _ _ (subscriptTail _ _ (Value.ref _) (Value.int _ _)) _ _ _); refine st_listItem (rows_at (by assumption) (by assumption) (by assumption) (by assumption)) (by omega) (by omega) (by omega) ?_; intro v9 hv9))
set_option maxRecDepth 100000 in
set_option maxHeartbeats 8000000 in
theorem pick_ctr (w : World) (pre : List (Addr × Obj)) (b l q : Addr) (vs us : List Value) (ns : List Int) (i z : Int) (t1 t2 : Tok) (n : Nat)
   (hi0 : 0 ≤ i) (hi1 : i ≤ 1000000) (hz0 : 0 ≤ z) (hz1 : z < 2147483647) (hu0 : 0 < us.length) (hu1 : us.length ≤ 1000) (hpre : ∀ p ∈ pre, p.1 ≠ b) (hrows : RowsAt w q us pre) :
   Ctr w 78 4 40 ((b, boxO l i z t1 t2 n) :: pre) [.ref b, .ref q] [] (ScriptAt l vs ns) (fun h₀ L m s Q =>
     ∀ (v : Value) (h' : Heap) (tk' : Nat) (z' : Int) (t1' t2' : Tok) (n' : Nat), v ∈ us → 0 ≤ z' → z' < 2147483647 → Fr h₀ L h' m → News h₀ L h' ((b, boxO l (i + 1) z' t1' t2' n') :: pre) → Q v { s with heap := h', toks := tk' }) := by
  unfold Ctr
  k_fill
  intro mean mg mb dp un gd cn cs a ccd cl outer A₀ base h₀ L m s Q E B F X N T hk hd hu hscr hret
  refine wpAny_call ?_
  k_dflt k_enter
  k_steps
  refine hret _ _ _ _ _ _ _ (by assumption) ?_ ?_ (by assumption) (by assumption) <;> assumption
theorem strs_mem {us : List Value} {ts : List Str} (h : StrsAre us ts) {v : Value} (hv : v ∈ us) : ∃ x t, v = .str x t ∧ x ∈ ts := by
  induction h with
  | nil => cases hv
  | cons x t _ ih =>
    rcases List.mem_cons.mp hv with e | e
    · exact ⟨x, t, e, .head _⟩
    · obtain ⟨y, u, a, c⟩ := ih e
      exact ⟨y, u, a, .tail _ c⟩
/-- a pick out of texts -/
theorem pickT_ctr (w : World) (pre : List (Addr × Obj)) (b l q : Addr) (vs us : List Value) (ts : List Str) (ns : List Int) (i z : Int) (t1 t2 : Tok) (n : Nat)
   (hi0 : 0 ≤ i) (hi1 : i ≤ 1000000) (hz0 : 0 ≤ z) (hz1 : z < 2147483647) (hu0 : 0 < us.length) (hu1 : us.length ≤ 1000) (hpre : ∀ p ∈ pre, p.1 ≠ b) (hrows : RowsAt w q us pre) (hS : StrsAre us ts) (hlen : ∀ x ∈ ts, x.length ≤ 8) :
   Ctr w 78 4 40 ((b, boxO l i z t1 t2 n) :: pre) [.ref b, .ref q] [] (ScriptAt l vs ns) (fun h₀ L m s Q =>
     ∀ (x : Str) (t : Tok) (h' : Heap) (tk' : Nat) (z' : Int) (t1' t2' : Tok) (n' : Nat), x ∈ ts → x.length ≤ 8 → 0 ≤ z' → z' < 2147483647 → Fr h₀ L h' m → News h₀ L h' ((b, boxO l (i + 1) z' t1' t2' n') :: pre) → Q (.str x t) { s with heap := h', toks := tk' }) := by
  intro mean mg mb dp un gd cn cs a ccd cl outer A₀ base h₀ L m s Q E B F X N T hk hd hu hscr hret
  refine Ctr.use (pick_ctr w pre b l q vs us ns i z t1 t2 n hi0 hi1 hz0 hz1 hu0 hu1 hpre hrows) B F X N T hk hd hu hscr ?_
  intro v h' tk' z' t1' t2' n' hv hz0' hz1' F' N'
  obtain ⟨x, t, e, hx⟩ := strs_mem hS hv
  subst e
  exact hret x t h' tk' z' t1' t2' n' hx (hlen x hx) hz0' hz1' F' N'
end

section
local macro_rules | `(tactic| walk_at "subscriptTail Name Name str int") => `(tactic| (k_here; (with_reducible show wpAny _ _ (subscriptTail _ _ (Value.str _ _) (Value.int _ _)) _ _ _); refine st_item (by first | omega | (simp only [Bool.and_eq_true, decide_eq_true_eq] at *; omega)) (by first | omega | (simp only [Bool.and_eq_true, decide_eq_true_eq] at *; omega)) (by omega) ?_))
local macro_rules | `(tactic| walk_at "subscriptTail Name BinOp str int") => `(tactic| (k_here; (with_reducible show wpAny _ _ (subscriptTail _ _ (Value.str _ _) (Value.int _ _)) _ _ _); refine st_item (by first | omega | (simp only [Bool.and_eq_true, decide_eq_true_eq] at *; omega)) (by first | omega | (simp only [Bool.and_eq_true, decide_eq_true_eq] at *; omega)) (by omega) ?_))
local macro_rules | `(tactic| walk_at "compareOp In str str") => `(tactic| ((with_reducible show wpAny _ _ (compareOp _ (Value.str (sg _) _) (Value.str _ _)) _ _ _); refine st_in ?_))
local macro_rules | `(tactic| walk_at "compareOp Eq str str") => `(tactic| ((with_reducible show wpAny _ _ (compareOp _ (Value.str (sg _) _) (Value.str _ _)) _ _ _); refine st_eq ?_))
local macro_rules | `(tactic| walk_at "call builtin:ord") => `(tactic| ((with_reducible show wpAny _ _ (call (Value.builtin "ord") [Value.str (sg _) _]) _ _ _); refine st_ord ?_))
local macro_rules | `(tactic| walk_at "exec While") => `(tactic| (k_here; (with_reducible show wpAny _ _ (exec (Stmt.While _ _ _ _) _) _ _ _); refine Halt.mk ?_))
local macro_rules | `(tactic| walk_at "KswPost") => `(tactic| (dsimp only [KswPost]))
local macro_rules | `(tactic| walk_at "KswEnd") => `(tactic| (refine Halt.mk ?_))
local macro_rules | `(tactic| k_enter) => `(tactic| (refine' code_def ?k1 ?k2 ?k3 ?k4 ?k5 ?kA ?kF ?kK ?k6 ?k7 ?k8 ?k9 ?kB ?_ ?c2 ?c3 ?c4 ?c5; (case kA => exact rfl); (case kF => exact rfl); (case kK => assumption); (case k1 => k_asm); (case k2 => k_asm); (case k3 => k_asm); (case k4 => k_asm); (case k5 => k_asm); (case k6 => k_is); (case k7 => k_is); (case k8 => ktr_room); (case k9 => first | exact BindsTo.of_eq rfl | exact binds_K (by k_in) rfl (by k_is) rfl rfl rfl | exact kp_binds (by k_in) (fun _ => rfl)); (case c5 => decide); (case kB => exact locs rfl); (case c2 => exact rfl); (case c3 => exact rfl); (case c4 => exact rfl); k_whole; intro g' L' h' FG' F' N' B' X' T'; (try dsimp only); (try k_lift B'); (try k_fold)))
local macro_rules | `(tactic| k_all) => `(tactic| assumption)
local macro_rules | `(tactic| walk_at "call ref") => `(tactic| (k_here; (with_reducible show wpAny _ _ (call (Value.ref 71) _ _) _ _ _); k_dflt (
  refine' Ctr.use (draw_ctr _ _ _ _ _ _ _ _ _ _ _ _ _ ?hi0 ?hi1 ?hz0 ?hz1 ?hk0 ?hk1 ?hpre) ?k1 ?k2 ?k3 ?k4 ?k5 ?kK ?kd ?ku ?kp ?_
  (case k1 => k_asm)
  (case k2 => k_asm)
  (case k3 => k_asm)
  (case k4 => first | k_asm | exact news_swap (by k_asm))
  (case k5 => k_asm)
  (case kK => first | exact rfl | assumption)
  (case kd => ktr_room)
  (case ku => ktr_units)
  (case kp => assumption)
  (case hi0 => omega)
  (case hi1 => omega)
  (case hz0 => omega)
  (case hz1 => omega)
  (case hk0 => (try simp only [List.size_toArray]); omega)
  (case hk1 => (try simp only [List.size_toArray]); omega)
  (case hpre => k_all)
  k_whole
  intro q9 t9 h9 tk9 z9 u9 v9 n9 hq9 hq8 hq7 hq6 F9 N9
  (try simp only [List.size_toArray] at hq8)
  (try dsimp only)
  (try k_fold))))
local macro_rules | `(tactic| walk_at "call ref") => `(tactic| (k_here; (with_reducible show wpAny _ _ (call (Value.ref 78) _ _) _ _ _); k_dflt (
  refine' Ctr.use (pickT_ctr _ _ _ _ _ _ _ _ _ _ _ _ _ _ ?hi0 ?hi1 ?hz0 ?hz1 ?hu0 ?hu1 ?hpre ?hrows ?hS ?hlen) ?k1 ?k2 ?k3 ?k4 ?k5 ?kK ?kd ?ku ?kp ?_
  (case k1 => k_asm)
  (case k2 => k_asm)
  (case k3 => k_asm)
  (case k4 => first | k_asm | exact news_swap (by k_asm) | exact news_swap3 (by k_asm))
  (case k5 => k_asm)
  (case kK => first | exact rfl | assumption)
  (case kd => ktr_room)
  (case ku => ktr_units)
  (case kp => assumption)
  (case hrows => first | assumption | exact rows_led | exact rows_59 | exact rows_60 | exact rows_61 | exact rows_62 | exact rows_63 | exact rows_64)
  (case hS => first | assumption | (refine' strs_texts ?e9; (case e9 => exact rfl)))
  (case hlen => first | assumption | (dsimp only [textsOf]; decide +kernel))
  (case hi0 => omega)
  (case hi1 => omega)
  (case hz0 => omega)
  (case hz1 => omega)
  (case hu0 => first | omega | exact Nat.le_of_ble_eq_true rfl)
  (case hu1 => first | omega | exact Nat.le_of_ble_eq_true rfl)
  (case hpre => k_all)
  k_whole
  intro x9 t9 h9 tk9 z9 u9 v9 n9 hq9 hq8 hq7 hq6 F9 N9
  (try dsimp only [textsOf] at hq9)
  (try dsimp only [textsOf] at hj9)
  (try (have N9 := news_drop2 N9))
  (try dsimp only)
  (try k_fold))))
local macro_rules | `(tactic| walk_at "pyIter ref") => `(tactic| (k_here; (with_reducible show wpAny _ _ (pyIter (Value.ref _)) (fun it s₂ => LoopAtV _ _ _ _ _ _ _ _ _ it s₂) _ _); refine Halt.mk ?_))
local macro_rules | `(tactic| walk_at "InvPostN") => `(tactic| (dsimp only [InvPostN]))
local macro_rules | `(tactic| walk_at "InvEndN") => `(tactic| (refine Halt.mk ?_))
set_option maxRecDepth 100000 in
set_option maxHeartbeats 8000000 in
theorem join_ctr (w : World) (pre : List (Addr × Obj)) (b l q : Addr) (vs us : List Value) (ts : List Str) (ns : List Int) (i z mo : Int) (t1 t2 tm : Tok) (n : Nat)
   (hi0 : 0 ≤ i) (hi1 : i ≤ 999000) (hz0 : 0 ≤ z) (hz1 : z < 2147483647) (hu0 : 0 < us.length) (hu1 : us.length ≤ 1000) (hS : StrsAre us ts) (hlen : ∀ x ∈ ts, x.length ≤ 8) (hm0 : 0 ≤ mo) (hm1 : mo ≤ 5) (hpre : ∀ p ∈ pre, p.1 ≠ b) (hrows : RowsAt w q us pre) :
   Ctr w 85 6 60 ((b, boxO l i z t1 t2 n) :: pre) [.ref b, .ref q, .int mo tm] [] (ScriptAt l vs ns) (fun h₀ L m s Q =>
     ∀ (x : Str) (t : Tok) (h' : Heap) (tk' : Nat) (i' z' : Int) (t1' t2' : Tok) (n' : Nat), Joined ts mo x → x.length ≤ 40 → i ≤ i' → i' ≤ i + 6 → 0 ≤ z' → z' < 2147483647 → Fr h₀ L h' m → News h₀ L h' ((b, boxO l i' z' t1' t2' n') :: pre) → Q (.str x t) { s with heap := h', toks := tk' }) := by
  unfold Ctr
  k_fill
  intro mean mg mb dp un gd cn cs a ccd cl outer A₀ base h₀ L m s Q E B F X N T hk hd hu hscr hret
  refine wpAny_call ?_
  k_dflt k_enter
  k_steps
  rename Fr _ _ _ _ => lF'
  rename News _ _ _ _ => lN'
  rename IsRange _ _ _ _ _ _ _ _ => rgX
  rename _ < mo + 1 => hr1
  (with_unfolding_all refine' kst_range (σ := (Str × Tok) × (Int × Int × Tok × Tok × Nat)) (fun c => (b, boxO l c.2.1 c.2.2.1 c.2.2.2.1 c.2.2.2.2.1 c.2.2.2.2.2) :: pre) (fun c => [(Str.ofString "out", .str c.1.1 c.1.2)]) (fun _ => True) [] (fun pr c => Joined ts (pr.length : Int) c.1.1 ∧ c.1.1.length ≤ 8 * pr.length ∧ c.2.1 = i + 1 + (pr.length : Int) ∧ 0 ≤ c.2.2.1 ∧ c.2.2.1 < 2147483647) ((Str.ofString "", _), (i + 1, _, _, _, _)) (by rfl) (by first | exact rgX | assumption) (by exact small_one (by omega) (by omega) (by omega) (by omega)) (by exact rangeSize_nat _ _) lF' ?kn trivial ?kk ?kp ?_ ?_)
  (case kn => exact lN')
  (case kk => kst_all)
  (case kp => exact ⟨joined_nil, Nat.le_of_eq len_empty, by simp, by assumption, by assumption⟩)
  · intro c pr k t u h tk own hk2 hlt hoff _ hP lF lN
    obtain ⟨⟨x, tx⟩, ⟨i', z', t1', t2', n'⟩⟩ := c
    obtain ⟨hj, hxl, hi', hz0', hz1'⟩ := hP
    dsimp only at hj hxl hi' hz0' hz1'
    dsimp only at lN
    rw [List.cons_append] at lN
    have hpre2 : ∀ p ∈ pre ++ own, p.1 ≠ b := fun p hp => (List.mem_append.mp hp).elim (hpre p) fun h => hoff.ne (.head _) p h
    have hrows2 : RowsAt w q us (pre ++ own) := hrows.more
    dsimp only [kstB] at lF
    clear lF' lN' rgX
    k_steps
    refine' kst_end ((_, _), (_, _, _, _, _)) (by assumption) (by assumption) ?hn ?ho ?ha trivial ?hk ?hr ?hp
    case hk => kst_all
    case hn => exact sub_box
    case ho => exact sub_own
    case ha => exact rfl
    case hr => kst_same
    case hp =>
      dsimp only
      rw [List.length_append, List.length_cons, List.length_nil]
      refine ⟨hj.snoc (by assumption) (by omega), ?_, by omega, by assumption, by assumption⟩
      rw [PySem.Str.length_append]
      omega
  · intro c u h tk _ hP lF lN
    obtain ⟨⟨x, tx⟩, ⟨i', z', t1', t2', n'⟩⟩ := c
    obtain ⟨hj, hxl, hi', hz0', hz1'⟩ := hP
    rw [rangeKs_length] at hj hxl hi'
    dsimp only at hj hxl hi' hz0' hz1'
    dsimp only at lN
    dsimp only [kstB] at lF
    clear lF' lN' rgX
    k_steps
    refine hret _ _ _ _ _ _ _ _ _ (hj.mono (by omega)) ?_ ?_ ?_ hz0' hz1' (by assumption) (by assumption) <;> omega
end
/-! # the leads -/
def leadTab : List (List Nat × Int) := [([], 0), ([32], 1), ([9, 32], 2), ([10], 1), ([32, 10, 32], 3), ([13, 10, 9], 3), ([13], 1), ([32, 32, 13, 32], 4), ([13, 13], 1), ([10, 10], 1), ([10, 32, 10], 2), ([32, 12], 1), ([12], 0)]
structure LeadAt (w : World) (a : Addr) (ls : Str) (n : Int) (t u : Tok) : Prop where
  row : ∀ h, (Mine.hd.heap_39 w.params).In h → h.IsList a #[.str ls t, .int n u]
  tab : (ls.cps.toList, n) ∈ leadTab
theorem lead_in {w : World} {a : Addr} {ls : Str} {n : Int} {t u : Tok} (e : (Mine.hd.heap_39 w.params).lookup a = some (listOf #[.str ls t, .int n u] 0)) (m : (ls.cps.toList, n) ∈ leadTab) : LeadAt w a ls n t u := ⟨fun _ X => ⟨_, X a _ e, rfl, 0, rfl⟩, m⟩
theorem leads_are {w : World} {v : Value} (h : v ∈ [Value.ref 46, .ref 47, .ref 48, .ref 49, .ref 50, .ref 51, .ref 52, .ref 53, .ref 54, .ref 55, .ref 56, .ref 57, .ref 58]) : ∃ a ls n t u, v = .ref a ∧ LeadAt w a ls n t u := by
  simp only [List.mem_cons, List.not_mem_nil, or_false] at h
  rcases h with h | h | h | h | h | h | h | h | h | h | h | h | h
  · exact ⟨46, Str.ofString "", 0, 241, 242, h, lead_in (by rfl) (by decide +kernel)⟩
  · exact ⟨47, Str.ofString " ", 1, 243, 244, h, lead_in (by rfl) (by decide +kernel)⟩
  · exact ⟨48, Str.ofString "\t ", 2, 245, 246, h, lead_in (by rfl) (by decide +kernel)⟩
  · exact ⟨49, Str.ofString "\n", 1, 247, 248, h, lead_in (by rfl) (by decide +kernel)⟩
  · exact ⟨50, Str.ofString " \n ", 3, 249, 250, h, lead_in (by rfl) (by decide +kernel)⟩
  · exact ⟨51, Str.ofString "\r\n\t", 3, 251, 252, h, lead_in (by rfl) (by decide +kernel)⟩
  · exact ⟨52, Str.ofString "\r", 1, 253, 254, h, lead_in (by rfl) (by decide +kernel)⟩
  · exact ⟨53, Str.ofString "  \r ", 4, 255, 256, h, lead_in (by rfl) (by decide +kernel)⟩
  · exact ⟨54, Str.ofString "\r\r", 1, 257, 258, h, lead_in (by rfl) (by decide +kernel)⟩
  · exact ⟨55, Str.ofString "\n\n", 1, 259, 260, h, lead_in (by rfl) (by decide +kernel)⟩
  · exact ⟨56, Str.ofString "\n \n", 2, 261, 262, h, lead_in (by rfl) (by decide +kernel)⟩
  · exact ⟨57, Str.ofString " \x0c", 1, 263, 264, h, lead_in (by rfl) (by decide +kernel)⟩
  · exact ⟨58, Str.ofString "\x0c", 0, 265, 266, h, lead_in (by rfl) (by decide +kernel)⟩
theorem leadTab_bounds : ∀ p ∈ leadTab, 0 ≤ p.2 ∧ p.2 ≤ (p.1.length : Int) ∧ p.1.length ≤ 4 := by decide +kernel
theorem LeadAt.bounds {w : World} {a : Addr} {ls : Str} {n : Int} {t u : Tok} (h : LeadAt w a ls n t u) : 0 ≤ n ∧ n ≤ (ls.length : Int) ∧ ls.length ≤ 4 := by
  have := leadTab_bounds _ h.tab
  rw [len_toList]
  exact this
section
variable {prog : Program} {w w' : World} {A : Around} {E : Value → Shared → Prop} {s : Shared} {g : Heap} {L : Addr} {m : Str → Option Value}
theorem st_lead1 {value slice : PySem.Expr} {a : Addr} {ls : Str} {n : Int} {t u k : Tok} {Q : Value → Shared → Prop} (LA : LeadAt w' a ls n t u) (F : Fr g L s.heap m) (X : (Mine.hd.heap_39 w'.params).In g) (h : Q (.int n u) s)
    (hs : subscripted slice false (.ref a) (.int 1 k) = operate [.ref a, .int 1 k] (getItem (.ref a) (.int 1 k)) := by with_unfolding_all rfl) :
    wpAny (model prog w) A (subscriptTail value slice (.ref a) (.int 1 k)) Q E s :=
  have hl := LA.row _ (X.keeps F.keep)
  tail_any hl.typeIs slot_list_getitem.lookup (wpAny_getItem_list hl (by decide) (by decide) rfl h) hs
theorem st_lead0 {value slice : PySem.Expr} {a : Addr} {ls : Str} {n : Int} {t u k : Tok} {Q : Value → Shared → Prop} (LA : LeadAt w' a ls n t u) (F : Fr g L s.heap m) (X : (Mine.hd.heap_39 w'.params).In g) (h : Q (.str ls t) s)
    (hs : subscripted slice false (.ref a) (.int 0 k) = operate [.ref a, .int 0 k] (getItem (.ref a) (.int 0 k)) := by with_unfolding_all rfl) :
    wpAny (model prog w) A (subscriptTail value slice (.ref a) (.int 0 k)) Q E s :=
  have hl := LA.row _ (X.keeps F.keep)
  tail_any hl.typeIs slot_list_getitem.lookup (wpAny_getItem_list hl (by decide) (by decide) rfl h) hs
end

/-! # the case -/
inductive CaseOk : List Value → Prop
  | none (src : Str) (st lim d at' : Int) (b : Bool) (t0 t1 t3 t6 t7 : Tok) : src.length ≤ 1000 → 0 ≤ st → st ≤ (src.length : Int) → 0 ≤ lim → lim ≤ 1000 → href src st b lim = (none, d) → skipLead (sfx src st) st = at' →
    CaseOk [.str src t0, .int st t1, .bool b, .int lim t3, .none, .none, .int d t6, .int at' t7]
  | some (src y : Str) (st lim d at' a1 a2 : Int) (b : Bool) (t0 t1 t3 t4 t5 t6 t7 : Tok) : src.length ≤ 1000 → 0 ≤ st → st ≤ (src.length : Int) → 0 ≤ lim → lim ≤ 1000 → href src st b lim = (some (a1, a2), d) → y.cps.toList = cut src a1 a2 → PyData.strOk y = true → skipLead (sfx src st) st = at' →
    CaseOk [.str src t0, .int st t1, .bool b, .int lim t3, .str y t4, .int d t5, .int d t6, .int at' t7]

theorem units_at {w : World} {h : Heap} (X : (Mine.hd.heap_39 w.params).In h) : h.IsList 60 #[tx "a" 268, tx "Z" 269, tx "é" 270, tx "\\(" 271, tx "\\)" 272, tx "\\\\" 273, tx "\\a" 274, tx "()" 275, tx "(b)" 276, tx "((c))" 277, tx "(((d)))" 278, tx "&amp;" 279, tx "%20" 280, tx "\"" 281, tx ":" 282] := by
  rcases rows_60 (w := w) (pre := []) with ⟨n, e⟩ | e
  · cases e
  · exact e h X
theorem spoils_at {w : World} {h : Heap} (X : (Mine.hd.heap_39 w.params).In h) : h.IsList 64 #[tx "<" 309, tx "\n" 310, tx "\r" 311, tx "\x00" 312] := by
  rcases rows_64 (w := w) (pre := []) with ⟨n, e⟩ | e
  · cases e
  · exact e h X
theorem pickL_ctr (w : World) (pre : List (Addr × Obj)) (b l : Addr) (vs : List Value) (ns : List Int) (i z : Int) (t1 t2 : Tok) (n : Nat)
   (hi0 : 0 ≤ i) (hi1 : i ≤ 1000000) (hz0 : 0 ≤ z) (hz1 : z < 2147483647) (hpre : ∀ p ∈ pre, p.1 ≠ b) :
   Ctr w 78 4 40 ((b, boxO l i z t1 t2 n) :: pre) [.ref b, .ref 59] [] (ScriptAt l vs ns) (fun h₀ L m s Q =>
     ∀ (a : Addr) (ls : Str) (k : Int) (t u : Tok) (h' : Heap) (tk' : Nat) (z' : Int) (t1' t2' : Tok) (n' : Nat), LeadAt w a ls k t u → 0 ≤ k → k ≤ (ls.length : Int) → ls.length ≤ 4 → 0 ≤ z' → z' < 2147483647 → Fr h₀ L h' m → News h₀ L h' ((b, boxO l (i + 1) z' t1' t2' n') :: pre) → Q (.ref a) { s with heap := h', toks := tk' }) := by
  intro mean mg mb dp un gd cn cs a ccd cl outer A₀ base h₀ L m s Q E B F X N T hk hd hu hscr hret
  refine Ctr.use (pick_ctr w pre b l 59 vs _ ns i z t1 t2 n hi0 hi1 hz0 hz1 (by decide) (by decide) hpre rows_59) B F X N T hk hd hu hscr ?_
  intro v h' tk' z' t1' t2' n' hv hz0' hz1' F' N'
  obtain ⟨a, ls, k, t, u, e, LA⟩ := leads_are (w := w) hv
  subst e
  obtain ⟨b1, b2, b3⟩ := LA.bounds
  exact hret a ls k t u h' tk' z' t1' t2' n' LA b1 b2 b3 hz0' hz1' F' N'

section
local macro_rules | `(tactic| walk_at "subscriptTail Name Name str int") => `(tactic| (k_here; (with_reducible show wpAny _ _ (subscriptTail _ _ (Value.str _ _) (Value.int _ _)) _ _ _); refine st_item (by first | omega | (simp only [Bool.and_eq_true, decide_eq_true_eq] at *; omega)) (by first | omega | (simp only [Bool.and_eq_true, decide_eq_true_eq] at *; omega)) (by omega) ?_))
local macro_rules | `(tactic| walk_at "subscriptTail Name BinOp str int") => `(tactic| (k_here; (with_reducible show wpAny _ _ (subscriptTail _ _ (Value.str _ _) (Value.int _ _)) _ _ _); refine st_item (by first | omega | (simp only [Bool.and_eq_true, decide_eq_true_eq] at *; omega)) (by first | omega | (simp only [Bool.and_eq_true, decide_eq_true_eq] at *; omega)) (by omega) ?_))
local macro_rules | `(tactic| walk_at "compareOp In str str") => `(tactic| ((with_reducible show wpAny _ _ (compareOp _ (Value.str (sg _) _) (Value.str _ _)) _ _ _); refine st_in ?_))
local macro_rules | `(tactic| walk_at "compareOp Eq str str") => `(tactic| ((with_reducible show wpAny _ _ (compareOp _ (Value.str (sg _) _) (Value.str _ _)) _ _ _); refine st_eq ?_))
local macro_rules | `(tactic| walk_at "call builtin:ord") => `(tactic| ((with_reducible show wpAny _ _ (call (Value.builtin "ord") [Value.str (sg _) _]) _ _ _); refine st_ord ?_))
local macro_rules | `(tactic| walk_at "exec While") => `(tactic| (k_here; (with_reducible show wpAny _ _ (exec (Stmt.While _ _ _ _) _) _ _ _); refine Halt.mk ?_))
local macro_rules | `(tactic| walk_at "KswPost") => `(tactic| (dsimp only [KswPost]))
local macro_rules | `(tactic| walk_at "KswEnd") => `(tactic| (refine Halt.mk ?_))
local macro_rules | `(tactic| k_enter) => `(tactic| (refine' code_def ?k1 ?k2 ?k3 ?k4 ?k5 ?kA ?kF ?kK ?k6 ?k7 ?k8 ?k9 ?kB ?_ ?c2 ?c3 ?c4 ?c5; (case kA => exact rfl); (case kF => exact rfl); (case kK => assumption); (case k1 => k_asm); (case k2 => k_asm); (case k3 => k_asm); (case k4 => k_asm); (case k5 => k_asm); (case k6 => k_is); (case k7 => k_is); (case k8 => ktr_room); (case k9 => first | exact BindsTo.of_eq rfl | exact binds_K (by k_in) rfl (by k_is) rfl rfl rfl | exact kp_binds (by k_in) (fun _ => rfl)); (case c5 => decide); (case kB => exact locs rfl); (case c2 => exact rfl); (case c3 => exact rfl); (case c4 => exact rfl); k_whole; intro g' L' h' FG' F' N' B' X' T'; (try dsimp only); (try k_lift B'); (try k_fold)))
local macro_rules | `(tactic| walk_at "call ref") => `(tactic| (k_here; (with_reducible show wpAny _ _ (call (Value.ref 38) _ _) _ _ _); k_dflt (
  refine' Ctr.use (skip_ctr _ _ _ _ _ _ ?hx ?hp ?hp2) ?k1 ?k2 ?k3 ?k4 ?k5 ?kK ?kd ?ku trivial ?_
  (case k1 => k_asm)
  (case k2 => k_asm)
  (case k3 => k_asm)
  (case k4 => k_asm)
  (case k5 => k_asm)
  (case kK => first | exact rfl | assumption)
  (case kd => ktr_room)
  (case ku => ktr_units)
  (case hx => omega)
  (case hp => omega)
  (case hp2 => omega)
  k_whole
  intro q9 t9 h9 tk9 hq9 hq8 hq7 F9 N9
  subst hq9
  (try dsimp only)
  (try k_fold))))
local macro_rules | `(tactic| walk_at "call ref") => `(tactic| (k_here; (with_reducible show wpAny _ _ (call (Value.ref 45) _ _) _ _ _); k_dflt (
  refine' Ctr.use (angle_ctr _ _ _ _ _ _ ?hx ?hp ?hp2) ?k1 ?k2 ?k3 ?k4 ?k5 ?kK ?kd ?ku trivial ⟨?_, ?_⟩
  (case k1 => k_asm)
  (case k2 => k_asm)
  (case k3 => k_asm)
  (case k4 => k_asm)
  (case k5 => k_asm)
  (case kK => first | exact rfl | assumption)
  (case kd => ktr_room)
  (case ku => ktr_units)
  (case hx => omega)
  (case hp => omega)
  (case hp2 => omega)
  k_whole
  intro r9 h9 tk9 hq9 F9 N9
  rotate_left
  intro r9 h9 tk9 e9 y9 t9 u9 hq9 hq8 hq7 hq6 hq5 F9 N9
  rotate_left
  all_goals (try dsimp only)
  all_goals (try k_fold))))
theorem hrefN_ctr (w : World) (news : List (Addr × Obj)) (x : Str) (tx tp tl : Tok) (p lim k : Int) (b : Bool) (hx : x.length ≤ 1000) (hp : 0 ≤ p) (hp2 : p ≤ (x.length : Int)) (hl : 0 ≤ lim) (hl2 : lim ≤ 1000) (he : href x p b lim = (none, k)) :
   Ctr w 23 4 60 news [.str x tx, .int p tp] [(Str.ofString "block", .bool b), (Str.ofString "max_nested_level", .int lim tl)] (fun _ => True) (fun h₀ L m s Q =>
     ∀ (r : Addr) (h' : Heap) (tk' : Nat) (t : Tok), Fr h₀ L h' m → News h₀ L h' ((r, tupO [.none, .none, .int k t]) :: news) → Q (.ref r) { s with heap := h', toks := tk' }) := by
  intro mean mg mb dp un gd cn cs a ccd cl outer A₀ base h₀ L m s Q E B F X N T hk hd hu _ hret
  refine Ctr.use (href_ctr w news x tx tp tl p lim b hx hp hp2 hl hl2) B F X N T hk hd hu trivial ⟨?_, ?_⟩
  · intro r h' tk' k' t e F' N'
    have e9 := e.symm.trans he
    cases e9
    exact hret r h' tk' t F' N'
  · intro r h' tk' a' e' k' y t1 t2 t3 e
    have e9 := e.symm.trans he
    cases e9
theorem hrefS_ctr (w : World) (news : List (Addr × Obj)) (x y : Str) (tx tp tl : Tok) (p lim k a e : Int) (b : Bool) (hx : x.length ≤ 1000) (hp : 0 ≤ p) (hp2 : p ≤ (x.length : Int)) (hl : 0 ≤ lim) (hl2 : lim ≤ 1000) (he : href x p b lim = (some (a, e), k)) (hy : y.cps.toList = cut x a e) :
   Ctr w 23 4 60 news [.str x tx, .int p tp] [(Str.ofString "block", .bool b), (Str.ofString "max_nested_level", .int lim tl)] (fun _ => True) (fun h₀ L m s Q =>
     ∀ (r : Addr) (h' : Heap) (tk' : Nat) (t1 t2 t3 : Tok), Fr h₀ L h' m → News h₀ L h' ((r, tupO [.str y t1, .int k t2, .int k t3]) :: news) → Q (.ref r) { s with heap := h', toks := tk' }) := by
  intro mean mg mb dp un gd cn cs a' ccd cl outer A₀ base h₀ L m s Q E B F X N T hk hd hu _ hret
  refine Ctr.use (href_ctr w news x tx tp tl p lim b hx hp hp2 hl hl2) B F X N T hk hd hu trivial ⟨?_, ?_⟩
  · intro r h' tk' k' t e'
    have e9 := e'.symm.trans he
    cases e9
  · intro r h' tk' a' e' k' y' t1 t2 t3 e1 e2 _ F' N'
    have e9 := e1.symm.trans he
    cases e9
    have : y' = y := str_ext (e2.trans hy.symm)
    subst this
    exact hret r h' tk' t1 t2 t3 F' N'
local macro_rules | `(tactic| walk_at "call ref") => `(tactic| (k_here; (with_reducible show wpAny _ _ (call (Value.ref 23) _ _) _ _ _); k_dflt (
  first
  | (refine' Ctr.use (hrefN_ctr _ _ _ _ _ _ _ _ _ _ ?hx ?hp ?hp2 ?hl ?hl2 ?he) ?k1 ?k2 ?k3 ?k4 ?k5 ?kK ?kd ?ku trivial ?_
     (case he => assumption)
     (case k1 => k_asm)
     (case k2 => k_asm)
     (case k3 => k_asm)
     (case k4 => k_asm)
     (case k5 => k_asm)
     (case kK => first | exact rfl | assumption)
     (case kd => ktr_room)
     (case ku => ktr_units)
     (case hx => omega)
     (case hp => omega)
     (case hp2 => omega)
     (case hl => omega)
     (case hl2 => omega)
     k_whole
     intro r9 h9 tk9 t9 F9 N9
     (try dsimp only)
     (try k_fold))
  | (refine' Ctr.use (hrefS_ctr _ _ _ _ _ _ _ _ _ _ _ _ _ ?hx ?hp ?hp2 ?hl ?hl2 ?he ?hy) ?k1 ?k2 ?k3 ?k4 ?k5 ?kK ?kd ?ku trivial ?_
     (case he => assumption)
     (case hy => assumption)
     (case k1 => k_asm)
     (case k2 => k_asm)
     (case k3 => k_asm)
     (case k4 => k_asm)
     (case k5 => k_asm)
     (case kK => first | exact rfl | assumption)
     (case kd => ktr_room)
     (case ku => ktr_units)
     (case hx => omega)
     (case hp => omega)
     (case hp2 => omega)
     (case hl => omega)
     (case hl2 => omega)
     k_whole
     intro r9 h9 tk9 t9 u9 v9 F9 N9
     (try dsimp only)
     (try k_fold)))))
local macro_rules | `(tactic| ked_shaped) => `(tactic| first | exact shaped3 (by assumption) | exact shaped2 (by assumption))
/-- a case, as the law builds it -/
abbrev caseO (src : Str) (st lim d at' : Int) (b : Bool) (v4 v5 : Value) (t0 t1 t3 t6 t7 : Tok) (n : Nat) : Obj := listOf #[.str src t0, .int st t1, .bool b, .int lim t3, v4, v5, .int d t6, .int at' t7] n
set_option maxRecDepth 100000 in
set_option maxHeartbeats 8000000 in
theorem askN_ctr (w : World) (pre : List (Addr × Obj)) (c : Addr) (src : Str) (st lim d at' : Int) (b : Bool) (t0 t1 t3 t6 t7 : Tok) (n : Nat)
   (hx : src.length ≤ 1000) (hp : 0 ≤ st) (hp2 : st ≤ (src.length : Int)) (hl : 0 ≤ lim) (hl2 : lim ≤ 1000) (he : href src st b lim = (none, d)) (hs : skipLead (sfx src st) st = at') :
   Ctr w 99 6 90 ((c, caseO src st lim d at' b .none .none t0 t1 t3 t6 t7 n) :: pre) [.ref c] [] (fun _ => True) (fun h₀ L m s Q =>
     ∀ (h' : Heap) (tk' : Nat), Fr h₀ L h' m → News h₀ L h' ((c, caseO src st lim d at' b .none .none t0 t1 t3 t6 t7 n) :: pre) → Q (.bool true) { s with heap := h', toks := tk' }) := by
  unfold Ctr
  k_fill
  intro mean mg mb dp un gd cn cs a ccd cl outer A₀ base h₀ L m s Q E B F X N T hk hd hu _ hret
  refine wpAny_call ?_
  k_dflt k_enter
  k_steps
  have e9 : (skipLead (sfx src st) st == at') = true := beq_iff_eq.mpr hs
  rw [e9]
  refine hret _ _ (by assumption) (cb_drop (by assumption) ?_)
  intro p hp
  first
  | exact hp
  | exact .tail _ hp
  | exact .tail _ (.tail _ hp)
  | exact .tail _ (.tail _ (.tail _ hp))
  | exact .tail _ (.tail _ (.tail _ (.tail _ hp)))

set_option maxRecDepth 100000 in
set_option maxHeartbeats 8000000 in
theorem askS_ctr (w : World) (pre : List (Addr × Obj)) (c : Addr) (src : Str) (y : Str) (st lim d at' a1 a2 : Int) (b : Bool) (t0 t1 t3 t4 t5 t6 t7 : Tok) (n : Nat)
   (hx : src.length ≤ 1000) (hp : 0 ≤ st) (hp2 : st ≤ (src.length : Int)) (hl : 0 ≤ lim) (hl2 : lim ≤ 1000) (he : href src st b lim = (some (a1, a2), d)) (hy : y.cps.toList = cut src a1 a2) (hok : PyData.strOk y = true) (hs : skipLead (sfx src st) st = at') :
   Ctr w 99 6 90 ((c, caseO src st lim d at' b (.str y t4) (.int d t5) t0 t1 t3 t6 t7 n) :: pre) [.ref c] [] (fun _ => True) (fun h₀ L m s Q =>
     ∀ (h' : Heap) (tk' : Nat), Fr h₀ L h' m → News h₀ L h' ((c, caseO src st lim d at' b (.str y t4) (.int d t5) t0 t1 t3 t6 t7 n) :: pre) → Q (.bool true) { s with heap := h', toks := tk' }) := by
  unfold Ctr
  k_fill
  intro mean mg mb dp un gd cn cs a ccd cl outer A₀ base h₀ L m s Q E B F X N T hk hd hu _ hret
  refine wpAny_call ?_
  k_dflt k_enter
  k_steps
  have e9 : (skipLead (sfx src st) st == at') = true := beq_iff_eq.mpr hs
  rw [e9]
  refine hret _ _ (by assumption) (cb_drop (by assumption) ?_)
  intro p hp
  first
  | exact hp
  | exact .tail _ hp
  | exact .tail _ (.tail _ hp)
  | exact .tail _ (.tail _ (.tail _ hp))
  | exact .tail _ (.tail _ (.tail _ (.tail _ hp)))
end
/-! # the plain laws: what the scans answer on the texts that the law builds -/
abbrev cp (x : Str) : List Nat := x.cps.toList
theorem blank_eq (c : Nat) : blank c = decide (c ∈ [32, 9]) := by unfold blank; rw [show (Str.ofString " \t").cps.toList = [32, 9] by decide +kernel]
theorem newline_eq (c : Nat) : newline c = decide (c ∈ [10, 13]) := by unfold newline; rw [show (Str.ofString "\n\r").cps.toList = [10, 13] by decide +kernel]
theorem white_eq (c : Nat) : white c = decide (c ∈ [32, 9, 10, 13, 12]) := by unfold white; rw [show (Str.ofString " \t\n\r\x0c").cps.toList = [32, 9, 10, 13, 12] by decide +kernel]
theorem spoil_eq (c : Nat) : spoil c = decide (c ∈ [60, 10, 13, 0]) := by unfold spoil; rw [show (Str.ofString "<\n\r\x00").cps.toList = [60, 10, 13, 0] by decide +kernel]
theorem punct_eq (c : Nat) : punct c = decide (c ∈ [33, 34, 35, 36, 37, 38, 39, 40, 41, 42, 43, 44, 45, 46, 47, 58, 59, 60, 61, 62, 63, 64, 91, 92, 93, 94, 95, 96, 123, 124, 125, 126]) := by
  unfold punct
  rw [show (Str.ofString "!\"#$%&'()*+,-./:;<=>?@\x5b\\]^_`{|}~").cps.toList = [33, 34, 35, 36, 37, 38, 39, 40, 41, 42, 43, 44, 45, 46, 47, 58, 59, 60, 61, 62, 63, 64, 91, 92, 93, 94, 95, 96, 123, 124, 125, 126] by decide +kernel]

/-! ## the run -/
section
variable {lim lev k : Int} {R : List Nat} {c d : Nat}
theorem scanP (h1 : white c = false) (h2 : ¬ (c < 32 ∨ c = 127)) (h3 : c ≠ 40) (h4 : c ≠ 41) (h5 : c ≠ 92) : scan lim (c :: R) lev k = scan lim R lev (k + 1) := by
  rw [scan_cons, if_neg (by rw [h1]; decide), if_neg h2, if_neg h3, if_neg h4]
  cases R with
  | nil => rfl
  | cons d r => simp only [h5, false_and, if_false]
theorem scanE (h : punct d = true) : scan lim (92 :: d :: R) lev k = scan lim R lev (k + 2) := by
  rw [scan_cons, if_neg (white_no (by decide)), if_neg (by decide), if_neg (by decide), if_neg (by decide)]
  simp only [h, and_self, if_true]
theorem scanB (h : punct d = false) : scan lim (92 :: d :: R) lev k = scan lim (d :: R) lev (k + 1) := by
  rw [scan_cons, if_neg (white_no (by decide)), if_neg (by decide), if_neg (by decide), if_neg (by decide)]
  simp only [h, Bool.false_eq_true, and_false, if_false]
theorem scanO (h : lev + 1 ≤ lim) : scan lim (40 :: R) lev k = scan lim R (lev + 1) (k + 1) := by
  rw [scan_cons, if_neg (white_no (by decide)), if_neg (by decide), if_pos rfl, if_neg (by omega)]
theorem scanO' (h : ¬ lev + 1 ≤ lim) : scan lim (40 :: R) lev k = (none, k) := by
  rw [scan_cons, if_neg (white_no (by decide)), if_neg (by decide), if_pos rfl, if_pos (by omega)]
theorem scanC (h : lev ≠ 0) : scan lim (41 :: R) lev k = scan lim R (lev - 1) (k + 1) := by
  rw [scan_cons, if_neg (white_no (by decide)), if_neg (by decide), if_neg (by decide), if_pos rfl, if_neg h]
theorem scanC' : scan lim (41 :: R) 0 k = (some 0, k) := by
  rw [scan_cons, if_neg (white_no (by decide)), if_neg (by decide), if_neg (by decide), if_pos rfl, if_pos rfl]
theorem scanW (h : white c = true) : scan lim (c :: R) lev k = (some lev, k) := by rw [scan_cons, if_pos h]
theorem scanX (h1 : white c = false) (h2 : c < 32 ∨ c = 127) : scan lim (c :: R) lev k = (none, k) := by rw [scan_cons, if_neg (by rw [h1]; decide), if_pos h2]
theorem scanN : scan lim [] lev k = (some lev, k) := by rw [scan]
end

/-- a text that the run passes at this depth, whatever stands behind it -/
def Passes (lim lev : Int) (u : List Nat) : Prop := ∀ (R : List Nat) (k : Int), scan lim (u ++ R) lev k = scan lim R lev (k + (u.length : Int))
theorem Passes.nil {lim lev : Int} : Passes lim lev [] := fun R k => by simp
theorem Passes.app {lim lev : Int} {u v : List Nat} (hu : Passes lim lev u) (hv : Passes lim lev v) : Passes lim lev (u ++ v) := fun R k => by
  rw [List.append_assoc, hu, hv, List.length_append]
  congr 1
  omega
theorem Passes.all {lim lev : Int} : ∀ (us : List Str), (∀ u ∈ us, Passes lim lev (cp u)) → Passes lim lev (us.flatMap cp)
  | [], _ => .nil
  | u :: us, h => by
    rw [List.flatMap_cons]
    exact (h u (.head _)).app (Passes.all us fun v hv => h v (.tail _ hv))
theorem Passes.one {lim lev : Int} {c : Nat} (h1 : white c = false) (h2 : ¬ (c < 32 ∨ c = 127)) (h3 : c ≠ 40) (h4 : c ≠ 41) (h5 : c ≠ 92) : Passes lim lev [c] := fun R k => by
  rw [List.singleton_append, scanP h1 h2 h3 h4 h5]
  rfl
theorem Passes.esc {lim lev : Int} {d : Nat} (h : punct d = true) : Passes lim lev [92, d] := fun R k => by
  show scan lim (92 :: d :: R) lev k = _
  rw [scanE h]
  rfl
theorem Passes.bs {lim lev : Int} {d : Nat} (h : punct d = false) (hd : Passes lim lev [d]) : Passes lim lev [92, d] := fun R k => by
  show scan lim (92 :: d :: R) lev k = _
  rw [scanB h]
  have := hd R (k + 1)
  rw [List.singleton_append] at this
  rw [this]
  congr 1
  simp only [List.length_cons, List.length_nil]
  omega
theorem Passes.par {lim lev : Int} {u : List Nat} (h0 : 0 ≤ lev) (h : lev + 1 ≤ lim) (hu : Passes lim (lev + 1) u) : Passes lim lev (40 :: (u ++ [41])) := fun R k => by
  show scan lim (40 :: ((u ++ [41]) ++ R)) lev k = _
  rw [scanO h, List.append_assoc, hu, List.singleton_append, scanC (by omega), show lev + 1 - 1 = lev by omega]
  congr 1
  simp only [List.length_cons, List.length_append, List.length_nil]
  omega
theorem pass_a {lim lev : Int} : Passes lim lev [97] := .one (by rw [white_eq]; decide) (by decide) (by decide) (by decide) (by decide)
theorem pass_b {lim lev : Int} : Passes lim lev [98] := .one (by rw [white_eq]; decide) (by decide) (by decide) (by decide) (by decide)
theorem pass_c {lim lev : Int} : Passes lim lev [99] := .one (by rw [white_eq]; decide) (by decide) (by decide) (by decide) (by decide)
theorem pass_d {lim lev : Int} : Passes lim lev [100] := .one (by rw [white_eq]; decide) (by decide) (by decide) (by decide) (by decide)
theorem pass_k {lim lev : Int} : Passes lim lev [107] := .one (by rw [white_eq]; decide) (by decide) (by decide) (by decide) (by decide)
theorem pass_Z {lim lev : Int} : Passes lim lev [90] := .one (by rw [white_eq]; decide) (by decide) (by decide) (by decide) (by decide)
theorem pass_e {lim lev : Int} : Passes lim lev [233] := .one (by rw [white_eq]; decide) (by decide) (by decide) (by decide) (by decide)
theorem pass_amp {lim lev : Int} : Passes lim lev [38] := .one (by rw [white_eq]; decide) (by decide) (by decide) (by decide) (by decide)
theorem pass_m {lim lev : Int} : Passes lim lev [109] := .one (by rw [white_eq]; decide) (by decide) (by decide) (by decide) (by decide)
theorem pass_p {lim lev : Int} : Passes lim lev [112] := .one (by rw [white_eq]; decide) (by decide) (by decide) (by decide) (by decide)
theorem pass_semi {lim lev : Int} : Passes lim lev [59] := .one (by rw [white_eq]; decide) (by decide) (by decide) (by decide) (by decide)
theorem pass_pct {lim lev : Int} : Passes lim lev [37] := .one (by rw [white_eq]; decide) (by decide) (by decide) (by decide) (by decide)
theorem pass_2 {lim lev : Int} : Passes lim lev [50] := .one (by rw [white_eq]; decide) (by decide) (by decide) (by decide) (by decide)
theorem pass_0 {lim lev : Int} : Passes lim lev [48] := .one (by rw [white_eq]; decide) (by decide) (by decide) (by decide) (by decide)
theorem pass_q {lim lev : Int} : Passes lim lev [34] := .one (by rw [white_eq]; decide) (by decide) (by decide) (by decide) (by decide)
theorem pass_col {lim lev : Int} : Passes lim lev [58] := .one (by rw [white_eq]; decide) (by decide) (by decide) (by decide) (by decide)
abbrev plainT : List Str := [Str.ofString "a", Str.ofString "Z", Str.ofString "é", Str.ofString "\\(", Str.ofString "\\)", Str.ofString "\\\\", Str.ofString "\\a"]
abbrev unitT : List Str := [Str.ofString "a", Str.ofString "Z", Str.ofString "é", Str.ofString "\\(", Str.ofString "\\)", Str.ofString "\\\\", Str.ofString "\\a", Str.ofString "()", Str.ofString "(b)", Str.ofString "((c))", Str.ofString "(((d)))", Str.ofString "&amp;", Str.ofString "%20", Str.ofString "\"", Str.ofString ":"]
theorem plain_pass {lim lev : Int} : ∀ u ∈ plainT, Passes lim lev (cp u) := by
  intro u hu
  simp only [List.mem_cons, List.not_mem_nil, or_false] at hu
  rcases hu with h | h | h | h | h | h | h <;> subst h
  · rw [show cp (Str.ofString "a") = [97] by decide +kernel]; exact pass_a
  · rw [show cp (Str.ofString "Z") = [90] by decide +kernel]; exact pass_Z
  · rw [show cp (Str.ofString "é") = [233] by decide +kernel]; exact pass_e
  · rw [show cp (Str.ofString "\\(") = [92, 40] by decide +kernel]; exact .esc (by rw [punct_eq]; decide)
  · rw [show cp (Str.ofString "\\)") = [92, 41] by decide +kernel]; exact .esc (by rw [punct_eq]; decide)
  · rw [show cp (Str.ofString "\\\\") = [92, 92] by decide +kernel]; exact .esc (by rw [punct_eq]; decide)
  · rw [show cp (Str.ofString "\\a") = [92, 97] by decide +kernel]; exact .bs (by rw [punct_eq]; decide) pass_a
theorem unit_pass {lim : Int} (hl : 3 ≤ lim) : ∀ u ∈ unitT, Passes lim 0 (cp u) := by
  intro u hu
  rw [show unitT = plainT ++ [Str.ofString "()", Str.ofString "(b)", Str.ofString "((c))", Str.ofString "(((d)))", Str.ofString "&amp;", Str.ofString "%20", Str.ofString "\"", Str.ofString ":"] from rfl] at hu
  rcases List.mem_append.mp hu with hu | hu
  · exact plain_pass u hu
  simp only [List.mem_cons, List.not_mem_nil, or_false] at hu
  rcases hu with h | h | h | h | h | h | h | h <;> subst h
  · rw [show cp (Str.ofString "()") = 40 :: ([] ++ [41]) by decide +kernel]; exact .par (by decide) (by omega) .nil
  · rw [show cp (Str.ofString "(b)") = 40 :: ([98] ++ [41]) by decide +kernel]; exact .par (by decide) (by omega) pass_b
  · rw [show cp (Str.ofString "((c))") = 40 :: ((40 :: ([99] ++ [41])) ++ [41]) by decide +kernel]; exact .par (by decide) (by omega) (.par (by decide) (by omega) pass_c)
  · rw [show cp (Str.ofString "(((d)))") = 40 :: ((40 :: ((40 :: ([100] ++ [41])) ++ [41])) ++ [41]) by decide +kernel]; exact .par (by decide) (by omega) (.par (by decide) (by omega) (.par (by decide) (by omega) pass_d))
  · rw [show cp (Str.ofString "&amp;") = [38] ++ ([97] ++ ([109] ++ ([112] ++ [59]))) by decide +kernel]; exact pass_amp.app (pass_a.app (pass_m.app (pass_p.app pass_semi)))
  · rw [show cp (Str.ofString "%20") = [37] ++ ([50] ++ [48]) by decide +kernel]; exact pass_pct.app (pass_2.app pass_0)
  · rw [show cp (Str.ofString "\"") = [34] by decide +kernel]; exact pass_q
  · rw [show cp (Str.ofString ":") = [58] by decide +kernel]; exact pass_col
theorem joined_pass {lim lev mo : Int} {ts : List Str} {x : Str} (h : ∀ u ∈ ts, Passes lim lev (cp u)) (hj : Joined ts mo x) : Passes lim lev (cp x) := by
  obtain ⟨us, _, a, e⟩ := hj
  rw [show cp x = us.flatMap cp from e]
  exact Passes.all us fun u hu => h u (a u hu)
/-! ## the angle -/
section
variable {k : Int} {R : List Nat} {c d : Nat}
theorem angP (h1 : c ≠ 62) (h2 : c ≠ 92) (h3 : spoil c = false) : angle (c :: R) k = angle R (k + 1) := by
  cases R with
  | nil => simp [angle, h1]
  | cons d r => rw [angle, if_neg h1, if_neg (fun q => h2 q.1), if_neg (by rw [h3]; decide)]
theorem angE (h : punct d = true) : angle (92 :: d :: R) k = angle R (k + 2) := by
  rw [angle, if_neg (by decide), if_pos ⟨rfl, h⟩]
theorem angB (h : punct d = false) : angle (92 :: d :: R) k = angle (d :: R) (k + 1) := by
  rw [angle, if_neg (by decide), if_neg (by rw [h]; simp), if_neg (by rw [spoil_eq]; decide)]
theorem angH : angle (62 :: R) k = some k := by
  cases R with
  | nil => simp [angle]
  | cons d r => rw [angle, if_pos rfl]
theorem angX (h1 : c ≠ 62) (h2 : c ≠ 92) (h3 : spoil c = true) : angle (c :: R) k = none := by
  cases R with
  | nil => simp [angle, h1]
  | cons d r => rw [angle, if_neg h1, if_neg (fun q => h2 q.1), if_pos h3]
theorem angN : angle [] k = none := by rw [angle]
end
def PassesA (u : List Nat) : Prop := ∀ (R : List Nat) (k : Int), angle (u ++ R) k = angle R (k + (u.length : Int))
theorem PassesA.nil : PassesA [] := fun R k => by simp
theorem PassesA.app {u v : List Nat} (hu : PassesA u) (hv : PassesA v) : PassesA (u ++ v) := fun R k => by
  rw [List.append_assoc, hu, hv, List.length_append]
  congr 1
  omega
theorem PassesA.all : ∀ (us : List Str), (∀ u ∈ us, PassesA (cp u)) → PassesA (us.flatMap cp)
  | [], _ => .nil
  | u :: us, h => by
    rw [List.flatMap_cons]
    exact (h u (.head _)).app (PassesA.all us fun v hv => h v (.tail _ hv))
theorem PassesA.one {c : Nat} (h1 : c ≠ 62) (h2 : c ≠ 92) (h3 : spoil c = false) : PassesA [c] := fun R k => by
  rw [List.singleton_append, angP h1 h2 h3]
  rfl
theorem PassesA.esc {d : Nat} (h : punct d = true) : PassesA [92, d] := fun R k => by
  show angle (92 :: d :: R) k = _
  rw [angE h]
  rfl
theorem PassesA.bs {d : Nat} (h : punct d = false) (hd : PassesA [d]) : PassesA [92, d] := fun R k => by
  show angle (92 :: d :: R) k = _
  rw [angB h]
  have := hd R (k + 1)
  rw [List.singleton_append] at this
  rw [this]
  congr 1
  simp only [List.length_cons, List.length_nil]
  omega
theorem joined_passA {mo : Int} {ts : List Str} {x : Str} (h : ∀ u ∈ ts, PassesA (cp u)) (hj : Joined ts mo x) : PassesA (cp x) := by
  obtain ⟨us, _, a, e⟩ := hj
  rw [show cp x = us.flatMap cp from e]
  exact PassesA.all us fun u hu => h u (a u hu)
abbrev angT : List Str := [Str.ofString "a", Str.ofString " ", Str.ofString "(", Str.ofString ")", Str.ofString "\\<", Str.ofString "\\>", Str.ofString "\\\\", Str.ofString "\\a", Str.ofString "\t", Str.ofString "\x0c", Str.ofString "é"]
theorem ang_pass : ∀ u ∈ angT, PassesA (cp u) := by
  intro u hu
  simp only [List.mem_cons, List.not_mem_nil, or_false] at hu
  rcases hu with h | h | h | h | h | h | h | h | h | h | h <;> subst h
  · rw [show cp (Str.ofString "a") = [97] by decide +kernel]; exact .one (by decide) (by decide) (by rw [spoil_eq]; decide)
  · rw [show cp (Str.ofString " ") = [32] by decide +kernel]; exact .one (by decide) (by decide) (by rw [spoil_eq]; decide)
  · rw [show cp (Str.ofString "(") = [40] by decide +kernel]; exact .one (by decide) (by decide) (by rw [spoil_eq]; decide)
  · rw [show cp (Str.ofString ")") = [41] by decide +kernel]; exact .one (by decide) (by decide) (by rw [spoil_eq]; decide)
  · rw [show cp (Str.ofString "\\<") = [92, 60] by decide +kernel]; exact .esc (by rw [punct_eq]; decide)
  · rw [show cp (Str.ofString "\\>") = [92, 62] by decide +kernel]; exact .esc (by rw [punct_eq]; decide)
  · rw [show cp (Str.ofString "\\\\") = [92, 92] by decide +kernel]; exact .esc (by rw [punct_eq]; decide)
  · rw [show cp (Str.ofString "\\a") = [92, 97] by decide +kernel]; exact .bs (by rw [punct_eq]; decide) (.one (by decide) (by decide) (by rw [spoil_eq]; decide))
  · rw [show cp (Str.ofString "\t") = [9] by decide +kernel]; exact .one (by decide) (by decide) (by rw [spoil_eq]; decide)
  · rw [show cp (Str.ofString "\x0c") = [12] by decide +kernel]; exact .one (by decide) (by decide) (by rw [spoil_eq]; decide)
  · rw [show cp (Str.ofString "é") = [233] by decide +kernel]; exact .one (by decide) (by decide) (by rw [spoil_eq]; decide)
abbrev bcT : List Str := [Str.ofString "b", Str.ofString "c"]
theorem bc_pass : ∀ u ∈ bcT, PassesA (cp u) := by
  intro u hu
  simp only [List.mem_cons, List.not_mem_nil, or_false] at hu
  rcases hu with h | h <;> subst h
  · rw [show cp (Str.ofString "b") = [98] by decide +kernel]; exact .one (by decide) (by decide) (by rw [spoil_eq]; decide)
  · rw [show cp (Str.ofString "c") = [99] by decide +kernel]; exact .one (by decide) (by decide) (by rw [spoil_eq]; decide)
/-- a spoiling sign ends it -/
theorem spoil_ends {sp : Str} (h : sp ∈ [Str.ofString "<", Str.ofString "\n", Str.ofString "\r", Str.ofString "\x00"]) (R : List Nat) (k : Int) : angle (cp sp ++ R) k = none := by
  simp only [List.mem_cons, List.not_mem_nil, or_false] at h
  rcases h with h | h | h | h <;> subst h
  · rw [show cp (Str.ofString "<") = [60] by decide +kernel]; exact angX (by decide) (by decide) (by rw [spoil_eq]; decide)
  · rw [show cp (Str.ofString "\n") = [10] by decide +kernel]; exact angX (by decide) (by decide) (by rw [spoil_eq]; decide)
  · rw [show cp (Str.ofString "\r") = [13] by decide +kernel]; exact angX (by decide) (by decide) (by rw [spoil_eq]; decide)
  · rw [show cp (Str.ofString "\x00") = [0] by decide +kernel]; exact angX (by decide) (by decide) (by rw [spoil_eq]; decide)

/-! ## what stands first -/
def bareHead (l : List Nat) : Prop := ∀ c ∈ l.head?, white c = false ∧ c ≠ 60
def openHead (l : List Nat) : Prop := ∀ c ∈ l.head?, blank c = false ∧ newline c = false
theorem bareHead.nil : bareHead [] := fun _ h => nomatch h
theorem bareHead.cons {c : Nat} {r : List Nat} (h1 : white c = false) (h2 : c ≠ 60) : bareHead (c :: r) := fun d hd => by
  rw [List.head?_cons, Option.mem_some] at hd
  subst hd
  exact ⟨h1, h2⟩
theorem bareHead.app {u v : List Nat} (hu : bareHead u) (hv : bareHead v) : bareHead (u ++ v) := by
  cases u with
  | nil => exact hv
  | cons c r => exact .cons (hu c rfl).1 (hu c rfl).2
theorem bareHead.open {l : List Nat} (h : bareHead l) : openHead l := fun c hc => by
  have w := (h c hc).1
  rw [white_eq] at w
  rw [blank_eq, newline_eq]
  simp only [decide_eq_false_iff_not, List.mem_cons, List.not_mem_nil, or_false, not_or] at w ⊢
  exact ⟨⟨w.1, w.2.1⟩, w.2.2.1, w.2.2.2.1⟩
theorem bareHead.all : ∀ (us : List Str), (∀ u ∈ us, bareHead (cp u)) → bareHead (us.flatMap cp)
  | [], _ => .nil
  | u :: us, h => by
    rw [List.flatMap_cons]
    exact (h u (.head _)).app (bareHead.all us fun v hv => h v (.tail _ hv))
theorem joined_bare {mo : Int} {ts : List Str} {x : Str} (h : ∀ u ∈ ts, bareHead (cp u)) (hj : Joined ts mo x) : bareHead (cp x) := by
  obtain ⟨us, _, a, e⟩ := hj
  rw [show cp x = us.flatMap cp from e]
  exact bareHead.all us fun u hu => h u (a u hu)
theorem bare_of {l : List Nat} (h : (l.head?.all fun c => !decide (c ∈ [32, 9, 10, 13, 12]) && c != 60) = true) : bareHead l := fun c hc => by
  rw [Option.mem_def] at hc
  rw [hc] at h
  simp only [Option.all_some, Bool.and_eq_true, Bool.not_eq_true', bne_iff_ne] at h
  exact ⟨by rw [white_eq]; exact h.1, h.2⟩
theorem unit_bare : ∀ u ∈ unitT, bareHead (cp u) := by
  intro u hu
  have : ∀ u ∈ unitT, ((cp u).head?.all fun c => !decide (c ∈ [32, 9, 10, 13, 12]) && c != 60) = true := by decide +kernel
  exact bare_of (this u hu)
theorem plain_bare : ∀ u ∈ plainT, bareHead (cp u) := fun u hu => unit_bare u (by
  rw [show unitT = plainT ++ [Str.ofString "()", Str.ofString "(b)", Str.ofString "((c))", Str.ofString "(((d)))", Str.ofString "&amp;", Str.ofString "%20", Str.ofString "\"", Str.ofString ":"] from rfl]
  exact List.mem_append.mpr (.inl hu))

/-! ## the white space ahead -/
theorem skip_lead_whole {R : List Nat} (hR : openHead R) {q : Int} : ∀ p ∈ leadTab, p.2 = (p.1.length : Int) → skipLead (p.1 ++ R) q = q + p.2 := by
  have hb : ∀ q, skipLead R q = q := by
    intro q
    cases R with
    | nil => rw [skipLead]
    | cons c r =>
      have h := hR c rfl
      rw [skipLead, if_neg (by rw [h.1]; decide), skipNl, if_neg (by rw [h.2]; decide)]
  have hs : ∀ q, span R q = q := by
    intro q
    cases R with
    | nil => rw [span]
    | cons c r => rw [span, if_neg (by rw [(hR c rfl).1]; decide)]
  have h10 : ¬ R.head? = some 10 := fun e => by
    have h := (hR 10 e).2
    rw [newline_eq] at h
    exact absurd h (by decide)
  intro p hp he
  simp only [leadTab, List.mem_cons, List.not_mem_nil, or_false] at hp
  rcases hp with h | h | h | h | h | h | h | h | h | h | h | h | h <;> subst h <;> first
    | (exfalso; revert he; decide)
    | (simp [skipLead, skipNl, span, blank_eq, newline_eq, hb, hs, h10]; done)
    | (simp [skipLead, skipNl, span, blank_eq, newline_eq, hb, hs, h10]; omega)
theorem skip_lead_part {q : Int} : ∀ p ∈ leadTab, p.2 ≠ (p.1.length : Int) → skipLead (p.1 ++ [98]) q = q + p.2 ∧ ∃ c r, (p.1 ++ [98]).drop p.2.toNat = c :: r ∧ white c = true ∧ c ≠ 60 := by
  intro p hp he
  simp only [leadTab, List.mem_cons, List.not_mem_nil, or_false] at hp
  rcases hp with h | h | h | h | h | h | h | h | h | h | h | h | h <;> subst h <;> first
    | (exfalso; revert he; decide)
    | (refine ⟨?_, _, _, rfl, ?_, ?_⟩
       · simp [skipLead, skipNl, span, blank_eq, newline_eq]
         try omega
       · rw [white_eq]; decide
       · decide)
/-! ## the cases -/
theorem cp_len (x : Str) : (cp x).length = x.length := (len_toList x).symm
theorem spot {src hd ls : Str} {R : List Nat} {k : Int} (hs : cp src = cp hd ++ (cp ls ++ R)) (h0 : 0 ≤ k) (h1 : k ≤ (ls.length : Int)) :
    sfx src (hd.length : Int) = cp ls ++ R ∧ sfx src ((hd.length : Int) + k) = (cp ls ++ R).drop k.toNat ∧ (hd.length : Int) ≤ (src.length : Int) := by
  have e : sfx src (hd.length : Int) = cp ls ++ R := by
    unfold sfx
    rw [show src.cps.toList = cp hd ++ (cp ls ++ R) from hs, show ((hd.length : Int)).toNat = (cp hd).length by rw [cp_len]; omega, List.drop_left]
  refine ⟨e, ?_, ?_⟩
  · unfold sfx at e ⊢
    rw [← e, List.drop_drop]
    congr 1
    omega
  · have := congrArg List.length hs
    rw [List.length_append, cp_len, cp_len] at this
    omega
theorem spot_whole {src hd ls : Str} {R : List Nat} {k lim : Int} {b : Bool} (hs : cp src = cp hd ++ (cp ls ++ R)) (ht : (cp ls, k) ∈ leadTab) (hk : (hd.length : Int) + k = ((hd ++ ls).length : Int)) (hR : openHead R) :
    skipLead (sfx src (hd.length : Int)) (hd.length : Int) = (hd.length : Int) + k ∧ sfx src ((hd.length : Int) + k) = R ∧ href src (hd.length : Int) b lim = hrefAt R ((hd.length : Int) + k) b lim ∧ (hd.length : Int) ≤ (src.length : Int) := by
  rw [PySem.Str.length_append] at hk
  have hk' : k = (ls.length : Int) := by omega
  obtain ⟨a, c, d⟩ := spot hs (k := k) (by omega) (by omega)
  have e1 : skipLead (sfx src (hd.length : Int)) (hd.length : Int) = (hd.length : Int) + k := by
    rw [a]
    exact skip_lead_whole hR _ ht (by rw [cp_len]; exact hk')
  have e2 : sfx src ((hd.length : Int) + k) = R := by
    rw [c, show k.toNat = (cp ls).length by rw [cp_len]; omega, List.drop_left]
  refine ⟨e1, e2, ?_, d⟩
  unfold href
  rw [e1, e2]
section
variable {src hd ls : Str} {R : List Nat} {k d lim : Int} {b : Bool} {t0 t1 t3 t4 t5 t6 t7 : Tok}
theorem mkNone (hs : cp src = cp hd ++ (cp ls ++ R)) (ht : (cp ls, k) ∈ leadTab) (hk : (hd.length : Int) + k = ((hd ++ ls).length : Int)) (hR : openHead R) (hx : src.length ≤ 1000) (hl : 0 ≤ lim) (hl2 : lim ≤ 1000)
    (he : hrefAt R ((hd.length : Int) + k) b lim = (none, d)) : CaseOk [.str src t0, .int (hd.length : Int) t1, .bool b, .int lim t3, .none, .none, .int d t6, .int ((hd.length : Int) + k) t7] := by
  obtain ⟨e1, _, e3, e4⟩ := spot_whole (b := b) (lim := lim) hs ht hk hR
  exact .none src _ lim d _ b t0 t1 t3 t6 t7 hx (by omega) e4 hl hl2 (e3.trans he) e1
theorem mkSome {y : Str} {P Z : List Nat} {a1 a2 : Int} (hs : cp src = cp hd ++ (cp ls ++ R)) (ht : (cp ls, k) ∈ leadTab) (hk : (hd.length : Int) + k = ((hd ++ ls).length : Int)) (hR : openHead R) (hx : src.length ≤ 1000) (hl : 0 ≤ lim) (hl2 : lim ≤ 1000)
    (he : hrefAt R ((hd.length : Int) + k) b lim = (some (a1, a2), d)) (hy : R = P ++ (cp y ++ Z)) (h1 : a1 = (hd.length : Int) + k + (P.length : Int)) (h2 : a2 = a1 + (y.length : Int)) (hok : PyData.strOk y = true) :
    CaseOk [.str src t0, .int (hd.length : Int) t1, .bool b, .int lim t3, .str y t4, .int d t5, .int d t6, .int ((hd.length : Int) + k) t7] := by
  obtain ⟨e1, e2, e3, e4⟩ := spot_whole (b := b) (lim := lim) hs ht hk hR
  refine .some src y _ lim d _ a1 a2 b t0 t1 t3 t4 t5 t6 t7 hx (by omega) e4 hl hl2 (e3.trans he) ?_ hok e1
  rw [PySem.Str.length_append] at hk
  have e5 : sfx src a1 = cp y ++ Z := by
    have : sfx src a1 = (sfx src ((hd.length : Int) + k)).drop P.length := by
      unfold sfx
      rw [List.drop_drop]
      congr 1
      have := leadTab_bounds _ ht
      omega
    rw [this, e2, hy, List.drop_left]
  unfold cut
  rw [e5, show (a2 - a1).toNat = (cp y).length by rw [cp_len]; omega, List.take_left]
end
section
variable {R : List Nat} {q d l lim : Int} {b : Bool}
theorem hrefAt_none (hne : R ≠ []) (hb : bareHead R) (s : scan lim R 0 q = (none, d)) : hrefAt R q b lim = (none, d) := by
  cases R with
  | nil => exact absurd rfl hne
  | cons c r =>
    obtain ⟨h1, h2⟩ := hb c rfl
    unfold hrefAt
    simp only [h2, h1, s, if_false, Bool.false_eq_true, and_false]
theorem hrefAt_deep (hne : R ≠ []) (hb : bareHead R) (hl : l ≠ 0) (s : scan lim R 0 q = (some l, d)) : hrefAt R q b lim = (none, d) := by
  cases R with
  | nil => exact absurd rfl hne
  | cons c r =>
    obtain ⟨h1, h2⟩ := hb c rfl
    unfold hrefAt
    simp only [h2, h1, s, hl, if_false, Bool.false_eq_true, and_false]
theorem hrefAt_some (hne : R ≠ []) (hb : bareHead R) (s : scan lim R 0 q = (some 0, d)) : hrefAt R q b lim = (some (q, d), d) := by
  cases R with
  | nil => exact absurd rfl hne
  | cons c r =>
    obtain ⟨h1, h2⟩ := hb c rfl
    unfold hrefAt
    simp only [h2, h1, s, if_false, if_true, Bool.false_eq_true, and_false]
theorem hrefAt_ang0 (s : angle R (q + 1) = none) : hrefAt (60 :: R) q b lim = (none, q) := by
  unfold hrefAt
  simp only [s, if_true]
theorem hrefAt_ang1 (s : angle R (q + 1) = some d) : hrefAt (60 :: R) q b lim = (some (q + 1, d), d + 1) := by
  unfold hrefAt
  simp only [s, if_true]
end
theorem angle_open {R : List Nat} : openHead (60 :: R) := fun c hc => by
  rw [List.head?_cons, Option.mem_some] at hc
  subst hc
  exact ⟨by rw [blank_eq]; decide, by rw [newline_eq]; decide⟩
theorem ok_all {x : Str} : PyData.strOk x = true ↔ ∀ c ∈ cp x, c < 0x110000 := by
  unfold PyData.strOk
  rw [← Array.all_toList, List.all_eq_true]
  simp only [decide_eq_true_eq]
theorem joined_ok {mo : Int} {ts : List Str} {x : Str} (h : ∀ u ∈ ts, PyData.strOk u = true) (hj : Joined ts mo x) : PyData.strOk x = true := by
  obtain ⟨us, _, a, e⟩ := hj
  rw [ok_all]
  intro c hc
  rw [show cp x = us.flatMap cp from e, List.mem_flatMap] at hc
  obtain ⟨u, hu, hc⟩ := hc
  exact ok_all.mp (h u (a u hu)) c hc
theorem cp_add (x y : Str) : cp (x ++ y) = cp x ++ cp y := cps_add x y
theorem cp_k : cp (Str.ofString "k") = [107] := by decide +kernel
theorem cp_z : cp (Str.ofString "z") = [122] := by decide +kernel
theorem cp_op : cp (Str.ofString "(") = [40] := by decide +kernel
theorem cp_cl : cp (Str.ofString ")") = [41] := by decide +kernel
theorem cp_lt : cp (Str.ofString "<") = [60] := by decide +kernel
theorem cp_gtz : cp (Str.ofString ">z") = [62, 122] := by decide +kernel
theorem cp_e : cp (Str.ofString "e") = [101] := by decide +kernel
theorem cp_b : cp (Str.ofString "b") = [98] := by decide +kernel
theorem len_k : (Str.ofString "k").length = 1 := by decide +kernel
theorem bare_k {R : List Nat} : bareHead (107 :: R) := .cons (by rw [white_eq]; decide) (by decide)
section
variable {w : World} {a : Addr} {hd ls bd sg : Str} {k : Int} {b : Bool} {t u t0 t1 t3 t4 t5 t6 t7 : Tok}
/-- nothing behind the white space -/
theorem end0 (LA : LeadAt w a ls k t u) (hk : (hd.length : Int) + k = ((hd ++ ls).length : Int)) (hx : (hd ++ ls).length ≤ 1000) :
    CaseOk [.str (hd ++ ls) t0, .int (hd.length : Int) t1, .bool b, .int 20 t3, .none, .none, .int ((hd.length : Int) + k) t6, .int ((hd.length : Int) + k) t7] :=
  mkNone (R := []) (by rw [List.append_nil]; exact cp_add _ _) LA.tab hk bareHead.nil.open hx (by decide) (by decide) rfl
/-- a control sign -/
theorem end1 (LA : LeadAt w a ls k t u) (hk : (hd.length : Int) + k = ((hd ++ ls).length : Int)) (hj : Joined plainT 4 bd) (hg : sg ∈ [Str.ofString "\x00", Str.ofString "\x01", Str.ofString "\x1f", Str.ofString "\x7f"])
    (hx : (hd ++ ls ++ (bd ++ Str.ofString "k") ++ sg ++ Str.ofString "z").length ≤ 1000) :
    CaseOk [.str (hd ++ ls ++ (bd ++ Str.ofString "k") ++ sg ++ Str.ofString "z") t0, .int (hd.length : Int) t1, .bool b, .int 20 t3, .none, .none, .int ((hd.length : Int) + k + ((bd ++ Str.ofString "k").length : Int)) t6, .int ((hd.length : Int) + k) t7] := by
  have hp : Passes 20 0 (cp (bd ++ Str.ofString "k")) := by rw [cp_add]; exact (joined_pass plain_pass hj).app (by rw [cp_k]; exact pass_k)
  have hb : bareHead (cp (bd ++ Str.ofString "k") ++ (cp sg ++ [122])) := by rw [cp_add, List.append_assoc]; exact (joined_bare plain_bare hj).app (by rw [cp_k]; exact bare_k)
  refine mkNone (R := cp (bd ++ Str.ofString "k") ++ (cp sg ++ [122])) ?_ LA.tab hk hb.open hx (by decide) (by decide) (hrefAt_none ?_ hb ?_)
  · rw [cp_add, cp_add, cp_add, cp_add, cp_z]; simp only [List.append_assoc]
  · rw [cp_add, cp_k]; simp
  · rw [hp, cp_len]
    simp only [List.mem_cons, List.not_mem_nil, or_false] at hg
    rcases hg with h | h | h | h <;> subst h
    · rw [show cp (Str.ofString "\x00") = [0] by decide +kernel]; exact scanX (by rw [white_eq]; decide) (by decide)
    · rw [show cp (Str.ofString "\x01") = [1] by decide +kernel]; exact scanX (by rw [white_eq]; decide) (by decide)
    · rw [show cp (Str.ofString "\x1f") = [31] by decide +kernel]; exact scanX (by rw [white_eq]; decide) (by decide)
    · rw [show cp (Str.ofString "\x7f") = [127] by decide +kernel]; exact scanX (by rw [white_eq]; decide) (by decide)
theorem scan_deep {lim : Int} (R : List Nat) : ∀ (n : Nat) (lev k : Int), lev + (n : Int) = lim → scan lim (List.replicate n 40 ++ (40 :: R)) lev k = (none, k + (n : Int))
  | 0, lev, k, h => by
    rw [List.replicate_zero, List.nil_append, scanO' (by omega)]
    simp
  | n + 1, lev, k, h => by
    rw [List.replicate_succ, List.cons_append, scanO (by omega), scan_deep R n (lev + 1) (k + 1) (by omega)]
    congr 1
    omega
/-- parentheses too deep -/
theorem end2 {q : Int} (LA : LeadAt w a ls k t u) (hk : (hd.length : Int) + k = ((hd ++ ls).length : Int)) (hj : Joined plainT 4 bd) (hq : 0 ≤ q) (hq4 : q < 4)
    (hx1 : (hd ++ ls).length ≤ 20) (hx2 : (bd ++ Str.ofString "k").length ≤ 50) :
    CaseOk [.str (hd ++ ls ++ (bd ++ Str.ofString "k") ++ Txt.mul (Str.ofString "(") (1 + q) ++ Str.ofString "(" ++ Str.ofString "e" ++ Txt.mul (Str.ofString ")") (1 + q + 1)) t0, .int (hd.length : Int) t1, .bool b, .int (1 + q) t3, .none, .none, .int ((hd.length : Int) + k + ((bd ++ Str.ofString "k").length : Int) + (1 + q)) t6, .int ((hd.length : Int) + k) t7] := by
  have hp : Passes (1 + q) 0 (cp (bd ++ Str.ofString "k")) := by rw [cp_add]; exact (joined_pass plain_pass hj).app (by rw [cp_k]; exact pass_k)
  have hm : cp (Txt.mul (Str.ofString "(") (1 + q)) = List.replicate (1 + q).toNat 40 := by
    rw [show Str.ofString "(" = ⟨#[40]⟩ by decide +kernel]
    exact mul_one_list 40 _
  have hm2 : cp (Txt.mul (Str.ofString ")") (1 + q + 1)) = List.replicate (1 + q + 1).toNat 41 := by
    rw [show Str.ofString ")" = ⟨#[41]⟩ by decide +kernel]
    exact mul_one_list 41 _
  have hx : (hd ++ ls ++ (bd ++ Str.ofString "k") ++ Txt.mul (Str.ofString "(") (1 + q) ++ Str.ofString "(" ++ Str.ofString "e" ++ Txt.mul (Str.ofString ")") (1 + q + 1)).length ≤ 1000 := by
    have e1 := cp_len (Txt.mul (Str.ofString "(") (1 + q))
    have e2 := cp_len (Txt.mul (Str.ofString ")") (1 + q + 1))
    have e3 := cp_len (Str.ofString "(")
    have e4 := cp_len (Str.ofString "e")
    rw [hm, List.length_replicate] at e1
    rw [hm2, List.length_replicate] at e2
    rw [cp_op, List.length_singleton] at e3
    rw [cp_e, List.length_singleton] at e4
    rw [PySem.Str.length_append, PySem.Str.length_append, PySem.Str.length_append, PySem.Str.length_append, PySem.Str.length_append]
    omega
  have hb : ∀ Z, bareHead (cp (bd ++ Str.ofString "k") ++ Z) := fun Z => by rw [cp_add, List.append_assoc]; exact (joined_bare plain_bare hj).app (by rw [cp_k]; exact bare_k)
  refine mkNone (R := cp (bd ++ Str.ofString "k") ++ (List.replicate (1 + q).toNat 40 ++ (40 :: (101 :: cp (Txt.mul (Str.ofString ")") (1 + q + 1)))))) ?_ LA.tab hk (hb _).open hx (by omega) (by omega) (hrefAt_none ?_ (hb _) ?_)
  · rw [cp_add, cp_add, cp_add, cp_add, cp_add, cp_add, hm, cp_op, cp_e]; simp only [List.append_assoc, List.cons_append, List.nil_append]
  · rw [cp_add, cp_k]; simp
  · rw [hp, cp_len, scan_deep _ _ _ _ (by omega)]
    congr 1
    omega
/-- one left open -/
theorem end3 {Z : List Nat} (LA : LeadAt w a ls k t u) (hk : (hd.length : Int) + k = ((hd ++ ls).length : Int)) (hj : Joined plainT 4 bd) {src : Str} (hs : cp src = cp hd ++ (cp ls ++ (40 :: (cp (bd ++ Str.ofString "k") ++ Z)))) (hZ : Z = [] ∨ ∃ c r, Z = c :: r ∧ white c = true) (hx : src.length ≤ 1000) :
    CaseOk [.str src t0, .int (hd.length : Int) t1, .bool b, .int 20 t3, .none, .none, .int ((hd.length : Int) + k + 1 + ((bd ++ Str.ofString "k").length : Int)) t6, .int ((hd.length : Int) + k) t7] := by
  have hp : Passes 20 (0 + 1) (cp (bd ++ Str.ofString "k")) := by rw [cp_add]; exact (joined_pass plain_pass hj).app (by rw [cp_k]; exact pass_k)
  have hb : bareHead (40 :: (cp (bd ++ Str.ofString "k") ++ Z)) := .cons (by rw [white_eq]; decide) (by decide)
  refine mkNone hs LA.tab hk hb.open hx (by decide) (by decide) (hrefAt_deep (l := 0 + 1) (by simp) hb (by decide) ?_)
  rw [scanO (by decide), hp, cp_len]
  rcases hZ with h | ⟨c, r, h, hc⟩ <;> subst h
  · exact scanN
  · exact scanW hc
/-- in angles, whole -/
theorem end4 (LA : LeadAt w a ls k t u) (hk : (hd.length : Int) + k = ((hd ++ ls).length : Int)) (hj : Joined angT 4 bd) (hx : (hd ++ ls ++ Str.ofString "<" ++ bd ++ Str.ofString ">z").length ≤ 1000) :
    CaseOk [.str (hd ++ ls ++ Str.ofString "<" ++ bd ++ Str.ofString ">z") t0, .int (hd.length : Int) t1, .bool b, .int 20 t3, .str bd t4, .int ((hd.length : Int) + k + (bd.length : Int) + 2) t5, .int ((hd.length : Int) + k + (bd.length : Int) + 2) t6, .int ((hd.length : Int) + k) t7] := by
  have ha : angle (cp bd ++ [62, 122]) ((hd.length : Int) + k + 1) = some ((hd.length : Int) + k + 1 + (bd.length : Int)) := by rw [joined_passA ang_pass hj, cp_len]; exact angH
  have he : hrefAt (60 :: (cp bd ++ [62, 122])) ((hd.length : Int) + k) b 20 = (some ((hd.length : Int) + k + 1, (hd.length : Int) + k + 1 + (bd.length : Int)), (hd.length : Int) + k + (bd.length : Int) + 2) := by
    rw [hrefAt_ang1 ha]
    congr 1
    omega
  refine mkSome (R := 60 :: (cp bd ++ [62, 122])) (P := [60]) (Z := [62, 122]) ?_ LA.tab hk angle_open hx (by decide) (by decide) he rfl rfl rfl (joined_ok (by decide +kernel) hj)
  rw [cp_add, cp_add, cp_add, cp_add, cp_lt, cp_gtz]; simp only [List.append_assoc, List.cons_append, List.nil_append]
/-- in angles, spoiled -/
theorem end5 {sp rs : Str} (LA : LeadAt w a ls k t u) (hk : (hd.length : Int) + k = ((hd ++ ls).length : Int)) (hj : Joined angT 3 bd) (hg : sp ∈ [Str.ofString "<", Str.ofString "\n", Str.ofString "\r", Str.ofString "\x00", Str.ofString ""]) (hr : Joined bcT 2 rs) (hx : (hd ++ ls ++ Str.ofString "<" ++ bd ++ sp ++ rs).length ≤ 1000) :
    CaseOk [.str (hd ++ ls ++ Str.ofString "<" ++ bd ++ sp ++ rs) t0, .int (hd.length : Int) t1, .bool b, .int 20 t3, .none, .none, .int ((hd.length : Int) + k) t6, .int ((hd.length : Int) + k) t7] := by
  have ha : angle (cp bd ++ (cp sp ++ cp rs)) ((hd.length : Int) + k + 1) = none := by
    rw [joined_passA ang_pass hj]
    by_cases h0 : sp = Str.ofString ""
    · rw [h0, show cp (Str.ofString "") = [] from cps_empty, List.nil_append]
      have := joined_passA bc_pass hr [] ((hd.length : Int) + k + 1 + ((cp bd).length : Int))
      rw [List.append_nil] at this
      rw [this]
      exact angN
    · refine spoil_ends ?_ _ _
      simp only [List.mem_cons, List.not_mem_nil, or_false] at hg ⊢
      rcases hg with h | h | h | h | h
      · exact .inl h
      · exact .inr (.inl h)
      · exact .inr (.inr (.inl h))
      · exact .inr (.inr (.inr h))
      · exact absurd h h0
  refine mkNone (R := 60 :: (cp bd ++ (cp sp ++ cp rs))) ?_ LA.tab hk angle_open hx (by decide) (by decide) (hrefAt_ang0 ha)
  rw [cp_add, cp_add, cp_add, cp_add, cp_add, cp_lt]; simp only [List.append_assoc, List.cons_append, List.nil_append]
/-- the destination, whole -/
theorem end6 {src y : Str} {Z : List Nat} {d : Int} (LA : LeadAt w a ls k t u) (hk : (hd.length : Int) + k = ((hd ++ ls).length : Int)) (hp : Passes 20 0 (cp y)) (hy : bareHead (cp y)) (hok : PyData.strOk y = true) (hs : cp src = cp hd ++ (cp ls ++ (cp y ++ Z)))
    (hZ : (Z = [] ∧ cp y ≠ []) ∨ (∃ c r, Z = c :: r ∧ white c = true ∧ cp y ≠ []) ∨ ∃ r, Z = 41 :: r) (hd' : d = (hd.length : Int) + k + (y.length : Int)) (hx : src.length ≤ 1000) :
    CaseOk [.str src t0, .int (hd.length : Int) t1, .bool b, .int 20 t3, .str y t4, .int d t5, .int d t6, .int ((hd.length : Int) + k) t7] := by
  have hb : bareHead (cp y ++ Z) := by
    rcases hZ with ⟨h, _⟩ | ⟨c, r, h, hc, hn⟩ | ⟨r, h⟩
    · rw [h, List.append_nil]; exact hy
    · cases e : cp y with
      | nil => exact absurd e hn
      | cons c' r' => exact .cons (hy c' (by rw [e]; rfl)).1 (hy c' (by rw [e]; rfl)).2
    · rw [h]; exact hy.app (.cons (by rw [white_eq]; decide) (by decide))
  have hne : cp y ++ Z ≠ [] := by
    rcases hZ with ⟨_, h⟩ | ⟨c, r, h, _⟩ | ⟨r, h⟩
    · exact fun e => h (List.append_eq_nil_iff.mp e).1
    · rw [h]; simp
    · rw [h]; simp
  have hsc : scan 20 (cp y ++ Z) 0 ((hd.length : Int) + k) = (some 0, d) := by
    rw [hp, cp_len, ← hd']
    rcases hZ with ⟨h, _⟩ | ⟨c, r, h, hc, _⟩ | ⟨r, h⟩ <;> subst h
    · exact scanN
    · exact scanW hc
    · exact scanC'
  refine mkSome (R := cp y ++ Z) (P := []) (Z := Z) hs LA.tab hk hb.open hx (by decide) (by decide) (hrefAt_some hne hb hsc) rfl (by simp) hd' hok

/-- white space at the place: for block use it refuses -/
theorem spot_part (LA : LeadAt w a ls k t u) (hk : (hd.length : Int) + k ≠ ((hd ++ ls).length : Int)) :
    skipLead (sfx (hd ++ ls ++ Str.ofString "b") (hd.length : Int)) (hd.length : Int) = (hd.length : Int) + k ∧ href (hd ++ ls ++ Str.ofString "b") (hd.length : Int) b 20 = (if b = true then none else some ((hd.length : Int) + k, (hd.length : Int) + k), (hd.length : Int) + k) ∧ (hd.length : Int) ≤ ((hd ++ ls ++ Str.ofString "b").length : Int) := by
  rw [PySem.Str.length_append] at hk
  obtain ⟨b0, b1, b2⟩ := LA.bounds
  have hs : cp (hd ++ ls ++ Str.ofString "b") = cp hd ++ (cp ls ++ [98]) := by rw [cp_add, cp_add, cp_b, List.append_assoc]
  obtain ⟨x1, x2, x3⟩ := spot hs b0 b1
  obtain ⟨y1, c, r, y2, y3, y4⟩ := skip_lead_part (q := (hd.length : Int)) _ LA.tab (by rw [cp_len]; omega)
  have e1 : skipLead (sfx (hd ++ ls ++ Str.ofString "b") (hd.length : Int)) (hd.length : Int) = (hd.length : Int) + k := by rw [x1]; exact y1
  refine ⟨e1, ?_, x3⟩
  unfold href
  rw [e1, x2, y2]
  unfold hrefAt
  simp only [y4, y3, and_true, if_false]
  cases b with
  | true => simp
  | false => simp [scanW y3]
theorem endW0 (LA : LeadAt w a ls k t u) (hk : (hd.length : Int) + k ≠ ((hd ++ ls).length : Int)) (hb : b = true) (hx : (hd ++ ls ++ Str.ofString "b").length ≤ 1000) :
    CaseOk [.str (hd ++ ls ++ Str.ofString "b") t0, .int (hd.length : Int) t1, .bool b, .int 20 t3, .none, .none, .int ((hd.length : Int) + k) t6, .int ((hd.length : Int) + k) t7] := by
  obtain ⟨e1, e2, e3⟩ := spot_part (b := b) LA hk
  exact .none _ _ 20 _ _ b t0 t1 t3 t6 t7 hx (by omega) e3 (by decide) (by decide) (by rw [e2, if_pos hb]) e1
theorem endW1 (LA : LeadAt w a ls k t u) (hk : (hd.length : Int) + k ≠ ((hd ++ ls).length : Int)) (hb : b = false) (hx : (hd ++ ls ++ Str.ofString "b").length ≤ 1000) :
    CaseOk [.str (hd ++ ls ++ Str.ofString "b") t0, .int (hd.length : Int) t1, .bool b, .int 20 t3, .str (Str.ofString "") t4, .int ((hd.length : Int) + k) t5, .int ((hd.length : Int) + k) t6, .int ((hd.length : Int) + k) t7] := by
  obtain ⟨e1, e2, e3⟩ := spot_part (b := b) LA hk
  refine .some _ _ _ 20 _ _ ((hd.length : Int) + k) ((hd.length : Int) + k) b t0 t1 t3 t4 t5 t6 t7 hx (by omega) e3 (by decide) (by decide) (by rw [e2, hb]; rfl) ?_ (by decide +kernel) e1
  rw [cps_empty]
  unfold cut
  simp
end
theorem cp_nil_of {x : Str} (h : (x.length : Int) = 0) : cp x = [] := List.length_eq_zero_iff.mp (by rw [cp_len]; omega)
theorem stop_white {x : Str} {R : List Nat} (hg : x ∈ [Str.ofString " ", Str.ofString "\n", Str.ofString "\x0c", Str.ofString ""]) (h : (x.length : Int) ≠ 0) : ∃ c r, cp x ++ R = c :: r ∧ white c = true := by
  simp only [List.mem_cons, List.not_mem_nil, or_false] at hg
  rcases hg with e | e | e | e <;> subst e
  · exact ⟨32, R, by rw [show cp (Str.ofString " ") = [32] by decide +kernel]; rfl, by rw [white_eq]; decide⟩
  · exact ⟨10, R, by rw [show cp (Str.ofString "\n") = [10] by decide +kernel]; rfl, by rw [white_eq]; decide⟩
  · exact ⟨12, R, by rw [show cp (Str.ofString "\x0c") = [12] by decide +kernel]; rfl, by rw [white_eq]; decide⟩
  · exact absurd (by rw [len_empty]; rfl) h
abbrev endT : List Str := [Str.ofString "", Str.ofString " ", Str.ofString "\t", Str.ofString "\n", Str.ofString "\r", Str.ofString "\x0c", Str.ofString ")"]
theorem end_stop {x : Str} {R : List Nat} (hg : x ∈ endT) (h : (x.length : Int) ≠ 0) : (∃ c r, cp x ++ R = c :: r ∧ white c = true) ∨ (x = Str.ofString ")" ∧ ∃ r, cp x ++ R = 41 :: r) := by
  simp only [List.mem_cons, List.not_mem_nil, or_false] at hg
  rcases hg with e | e | e | e | e | e | e <;> subst e
  · exact absurd (by rw [len_empty]; rfl) h
  · exact .inl ⟨32, R, by rw [show cp (Str.ofString " ") = [32] by decide +kernel]; rfl, by rw [white_eq]; decide⟩
  · exact .inl ⟨9, R, by rw [show cp (Str.ofString "\t") = [9] by decide +kernel]; rfl, by rw [white_eq]; decide⟩
  · exact .inl ⟨10, R, by rw [show cp (Str.ofString "\n") = [10] by decide +kernel]; rfl, by rw [white_eq]; decide⟩
  · exact .inl ⟨13, R, by rw [show cp (Str.ofString "\r") = [13] by decide +kernel]; rfl, by rw [white_eq]; decide⟩
  · exact .inl ⟨12, R, by rw [show cp (Str.ofString "\x0c") = [12] by decide +kernel]; rfl, by rw [white_eq]; decide⟩
  · exact .inr ⟨rfl, R, by rw [cp_cl]; rfl⟩
theorem sign_absurd {x : Str} (h : (x != Str.ofString ")") = false) (h0 : (x.length : Int) = 0) : False := by
  have e : x = Str.ofString ")" := by simpa using h
  subst e
  revert h0
  decide +kernel
section
variable {w : World} {a : Addr} {hd ls bd sg : Str} {k : Int} {b : Bool} {t u t0 t1 t3 t4 t5 t6 t7 : Tok}
theorem end3a (LA : LeadAt w a ls k t u) (hk : (hd.length : Int) + k = ((hd ++ ls).length : Int)) (hj : Joined plainT 4 bd) (hg : sg ∈ [Str.ofString " ", Str.ofString "\n", Str.ofString "\x0c", Str.ofString ""]) (h0 : (sg.length : Int) ≠ 0) (hx : (hd ++ ls ++ Str.ofString "(" ++ (bd ++ Str.ofString "k") ++ sg ++ Str.ofString ")").length ≤ 1000) :
    CaseOk [.str (hd ++ ls ++ Str.ofString "(" ++ (bd ++ Str.ofString "k") ++ sg ++ Str.ofString ")") t0, .int (hd.length : Int) t1, .bool b, .int 20 t3, .none, .none, .int ((hd.length : Int) + k + 1 + ((bd ++ Str.ofString "k").length : Int)) t6, .int ((hd.length : Int) + k) t7] :=
  end3 (Z := cp sg ++ cp (Str.ofString ")")) LA hk hj (by rw [cp_add, cp_add, cp_add, cp_add, cp_add hd ls, cp_op]; simp only [List.append_assoc, List.cons_append, List.nil_append]) (.inr (stop_white hg h0)) hx
theorem end3b (LA : LeadAt w a ls k t u) (hk : (hd.length : Int) + k = ((hd ++ ls).length : Int)) (hj : Joined plainT 4 bd) (h0 : (sg.length : Int) = 0) (hx : (hd ++ ls ++ Str.ofString "(" ++ (bd ++ Str.ofString "k") ++ sg ++ Str.ofString "").length ≤ 1000) :
    CaseOk [.str (hd ++ ls ++ Str.ofString "(" ++ (bd ++ Str.ofString "k") ++ sg ++ Str.ofString "") t0, .int (hd.length : Int) t1, .bool b, .int 20 t3, .none, .none, .int ((hd.length : Int) + k + 1 + ((bd ++ Str.ofString "k").length : Int)) t6, .int ((hd.length : Int) + k) t7] :=
  end3 (Z := []) LA hk hj (by rw [cp_add, cp_add, cp_add, cp_add, cp_add hd ls, cp_op, cp_nil_of h0, show cp (Str.ofString "") = [] from cps_empty]; simp only [List.append_assoc, List.cons_append, List.nil_append]) (.inl rfl) hx
theorem k_pass : Passes 20 0 (cp (Str.ofString "k")) := by rw [cp_k]; exact pass_k
theorem k_bare : bareHead (cp (Str.ofString "k")) := by rw [cp_k]; exact bare_k
theorem end6a (LA : LeadAt w a ls k t u) (hk : (hd.length : Int) + k = ((hd ++ ls).length : Int)) (hg : sg ∈ endT) (h0 : (sg.length : Int) ≠ 0) (hx : (hd ++ ls ++ Str.ofString "k" ++ (sg ++ Str.ofString "z")).length ≤ 1000) :
    CaseOk [.str (hd ++ ls ++ Str.ofString "k" ++ (sg ++ Str.ofString "z")) t0, .int (hd.length : Int) t1, .bool b, .int 20 t3, .str (Str.ofString "k") t4, .int ((hd.length : Int) + k + ((1 : Nat) : Int)) t5, .int ((hd.length : Int) + k + ((1 : Nat) : Int)) t6, .int ((hd.length : Int) + k) t7] :=
  end6 (Z := cp sg ++ cp (Str.ofString "z")) LA hk k_pass k_bare (by decide +kernel) (by rw [cp_add, cp_add, cp_add, cp_add]; simp only [List.append_assoc])
    ((end_stop hg h0).elim (fun ⟨c, r, e, f⟩ => .inr (.inl ⟨c, r, e, f, by rw [cp_k]; simp⟩)) (fun ⟨_, r, e⟩ => .inr (.inr ⟨r, e⟩))) (by rw [len_k]) hx
theorem end6b (LA : LeadAt w a ls k t u) (hk : (hd.length : Int) + k = ((hd ++ ls).length : Int)) (hx : (hd ++ ls ++ Str.ofString "k" ++ Str.ofString "").length ≤ 1000) :
    CaseOk [.str (hd ++ ls ++ Str.ofString "k" ++ Str.ofString "") t0, .int (hd.length : Int) t1, .bool b, .int 20 t3, .str (Str.ofString "k") t4, .int ((hd.length : Int) + k + ((1 : Nat) : Int)) t5, .int ((hd.length : Int) + k + ((1 : Nat) : Int)) t6, .int ((hd.length : Int) + k) t7] :=
  end6 (Z := []) LA hk k_pass k_bare (by decide +kernel) (by rw [cp_add, cp_add, cp_add, show cp (Str.ofString "") = [] from cps_empty]; simp only [List.append_assoc]) (.inl ⟨rfl, by rw [cp_k]; simp⟩) (by rw [len_k]) hx
theorem end6c (LA : LeadAt w a ls k t u) (hk : (hd.length : Int) + k = ((hd ++ ls).length : Int)) (hj : Joined unitT 5 bd) (hs : (sg != Str.ofString ")") = false) (hx : (hd ++ ls ++ bd ++ (sg ++ Str.ofString "z")).length ≤ 1000) :
    CaseOk [.str (hd ++ ls ++ bd ++ (sg ++ Str.ofString "z")) t0, .int (hd.length : Int) t1, .bool b, .int 20 t3, .str bd t4, .int ((hd.length : Int) + k + (bd.length : Int)) t5, .int ((hd.length : Int) + k + (bd.length : Int)) t6, .int ((hd.length : Int) + k) t7] := by
  have e : sg = Str.ofString ")" := by simpa using hs
  subst e
  exact end6 (Z := cp (Str.ofString ")") ++ cp (Str.ofString "z")) LA hk (joined_pass (unit_pass (by decide)) hj) (joined_bare unit_bare hj) (joined_ok (by decide +kernel) hj) (by rw [cp_add, cp_add, cp_add, cp_add]; simp only [List.append_assoc]) (.inr (.inr ⟨_, by rw [cp_cl]; rfl⟩)) rfl hx
theorem ne_of_beq {x : Str} (h : (x == Str.ofString "") = false) : cp x ≠ [] := fun e => by
  have : x = Str.ofString "" := str_ext (by rw [cps_empty]; exact e)
  rw [this] at h
  revert h
  decide +kernel
theorem end6d (LA : LeadAt w a ls k t u) (hk : (hd.length : Int) + k = ((hd ++ ls).length : Int)) (hj : Joined unitT 5 bd) (hn : (bd == Str.ofString "") = false) (hg : sg ∈ endT) (h0 : (sg.length : Int) ≠ 0) (hx : (hd ++ ls ++ bd ++ (sg ++ Str.ofString "z")).length ≤ 1000) :
    CaseOk [.str (hd ++ ls ++ bd ++ (sg ++ Str.ofString "z")) t0, .int (hd.length : Int) t1, .bool b, .int 20 t3, .str bd t4, .int ((hd.length : Int) + k + (bd.length : Int)) t5, .int ((hd.length : Int) + k + (bd.length : Int)) t6, .int ((hd.length : Int) + k) t7] :=
  end6 (Z := cp sg ++ cp (Str.ofString "z")) LA hk (joined_pass (unit_pass (by decide)) hj) (joined_bare unit_bare hj) (joined_ok (by decide +kernel) hj) (by rw [cp_add, cp_add, cp_add, cp_add]; simp only [List.append_assoc])
    ((end_stop hg h0).elim (fun ⟨c, r, e, f⟩ => .inr (.inl ⟨c, r, e, f, ne_of_beq hn⟩)) (fun ⟨_, r, e⟩ => .inr (.inr ⟨r, e⟩))) rfl hx
theorem end6e (LA : LeadAt w a ls k t u) (hk : (hd.length : Int) + k = ((hd ++ ls).length : Int)) (hj : Joined unitT 5 bd) (hn : (bd == Str.ofString "") = false) (hx : (hd ++ ls ++ bd ++ Str.ofString "").length ≤ 1000) :
    CaseOk [.str (hd ++ ls ++ bd ++ Str.ofString "") t0, .int (hd.length : Int) t1, .bool b, .int 20 t3, .str bd t4, .int ((hd.length : Int) + k + (bd.length : Int)) t5, .int ((hd.length : Int) + k + (bd.length : Int)) t6, .int ((hd.length : Int) + k) t7] :=
  end6 (Z := []) LA hk (joined_pass (unit_pass (by decide)) hj) (joined_bare unit_bare hj) (joined_ok (by decide +kernel) hj) (by rw [cp_add, cp_add, cp_add, show cp (Str.ofString "") = [] from cps_empty]; simp only [List.append_assoc]) (.inl ⟨rfl, ne_of_beq hn⟩) rfl hx
end
theorem news_fin2 {h₀ h : Heap} {L : Addr} {a b c : Addr × Obj} {r : List (Addr × Obj)} (N : News h₀ L h (a :: b :: c :: r)) : News h₀ L h (b :: a :: r) := fun p hp => N p (by
  simp only [List.mem_cons] at hp ⊢
  rcases hp with e | e | e
  · exact .inr (.inl e)
  · exact .inl e
  · exact .inr (.inr (.inr e)))

section
local macro_rules | `(tactic| walk_at "subscriptTail Name Name str int") => `(tactic| (k_here; (with_reducible show wpAny _ _ (subscriptTail _ _ (Value.str _ _) (Value.int _ _)) _ _ _); refine st_item (by first | omega | (simp only [Bool.and_eq_true, decide_eq_true_eq] at *; omega)) (by first | omega | (simp only [Bool.and_eq_true, decide_eq_true_eq] at *; omega)) (by omega) ?_))
local macro_rules | `(tactic| walk_at "subscriptTail Name BinOp str int") => `(tactic| (k_here; (with_reducible show wpAny _ _ (subscriptTail _ _ (Value.str _ _) (Value.int _ _)) _ _ _); refine st_item (by first | omega | (simp only [Bool.and_eq_true, decide_eq_true_eq] at *; omega)) (by first | omega | (simp only [Bool.and_eq_true, decide_eq_true_eq] at *; omega)) (by omega) ?_))
local macro_rules | `(tactic| walk_at "compareOp In str str") => `(tactic| ((with_reducible show wpAny _ _ (compareOp _ (Value.str (sg _) _) (Value.str _ _)) _ _ _); refine st_in ?_))
local macro_rules | `(tactic| walk_at "compareOp Eq str str") => `(tactic| ((with_reducible show wpAny _ _ (compareOp _ (Value.str (sg _) _) (Value.str _ _)) _ _ _); refine st_eq ?_))
local macro_rules | `(tactic| walk_at "call builtin:ord") => `(tactic| ((with_reducible show wpAny _ _ (call (Value.builtin "ord") [Value.str (sg _) _]) _ _ _); refine st_ord ?_))
local macro_rules | `(tactic| walk_at "exec While") => `(tactic| (k_here; (with_reducible show wpAny _ _ (exec (Stmt.While _ _ _ _) _) _ _ _); refine Halt.mk ?_))
local macro_rules | `(tactic| walk_at "KswPost") => `(tactic| (dsimp only [KswPost]))
local macro_rules | `(tactic| walk_at "KswEnd") => `(tactic| (refine Halt.mk ?_))
local macro_rules | `(tactic| k_enter) => `(tactic| (refine' code_def ?k1 ?k2 ?k3 ?k4 ?k5 ?kA ?kF ?kK ?k6 ?k7 ?k8 ?k9 ?kB ?_ ?c2 ?c3 ?c4 ?c5; (case kA => exact rfl); (case kF => exact rfl); (case kK => assumption); (case k1 => k_asm); (case k2 => k_asm); (case k3 => k_asm); (case k4 => k_asm); (case k5 => k_asm); (case k6 => k_is); (case k7 => k_is); (case k8 => ktr_room); (case k9 => first | exact BindsTo.of_eq rfl | exact binds_K (by k_in) rfl (by k_is) rfl rfl rfl | exact kp_binds (by k_in) (fun _ => rfl)); (case c5 => decide); (case kB => exact locs rfl); (case c2 => exact rfl); (case c3 => exact rfl); (case c4 => exact rfl); k_whole; intro g' L' h' FG' F' N' B' X' T'; (try dsimp only); (try k_lift B'); (try k_fold)))
local macro_rules | `(tactic| k_all) => `(tactic| assumption)
local macro_rules | `(tactic| walk_at "call ref") => `(tactic| (k_here; (with_reducible show wpAny _ _ (call (Value.ref 71) _ _) _ _ _); k_dflt (
  refine' Ctr.use (draw_ctr _ _ _ _ _ _ _ _ _ _ _ _ _ ?hi0 ?hi1 ?hz0 ?hz1 ?hk0 ?hk1 ?hpre) ?k1 ?k2 ?k3 ?k4 ?k5 ?kK ?kd ?ku ?kp ?_
  (case k1 => k_asm)
  (case k2 => k_asm)
  (case k3 => k_asm)
  (case k4 => first | k_asm | exact news_swap (by k_asm))
  (case k5 => k_asm)
  (case kK => first | exact rfl | assumption)
  (case kd => ktr_room)
  (case ku => ktr_units)
  (case kp => assumption)
  (case hi0 => omega)
  (case hi1 => omega)
  (case hz0 => omega)
  (case hz1 => omega)
  (case hk0 => (try simp only [List.size_toArray]); omega)
  (case hk1 => (try simp only [List.size_toArray]); omega)
  (case hpre => k_all)
  k_whole
  intro q9 t9 h9 tk9 z9 u9 v9 n9 hq9 hq8 hq7 hq6 F9 N9
  (try simp only [List.size_toArray] at hq8)
  (try dsimp only)
  (try k_fold))))
local macro_rules | `(tactic| walk_at "call ref") => `(tactic| (k_here; (with_reducible show wpAny _ _ (call (Value.ref 78) _ _) _ _ _); k_dflt (
  refine' Ctr.use (pickT_ctr _ _ _ _ _ _ _ _ _ _ _ _ _ _ ?hi0 ?hi1 ?hz0 ?hz1 ?hu0 ?hu1 ?hpre ?hrows ?hS ?hlen) ?k1 ?k2 ?k3 ?k4 ?k5 ?kK ?kd ?ku ?kp ?_
  (case k1 => k_asm)
  (case k2 => k_asm)
  (case k3 => k_asm)
  (case k4 => first | k_asm | exact news_swap (by k_asm) | exact news_swap3 (by k_asm))
  (case k5 => k_asm)
  (case kK => first | exact rfl | assumption)
  (case kd => ktr_room)
  (case ku => ktr_units)
  (case kp => assumption)
  (case hrows => first | assumption | exact rows_led | exact rows_59 | exact rows_60 | exact rows_61 | exact rows_62 | exact rows_63 | exact rows_64)
  (case hS => first | assumption | (refine' strs_texts ?e9; (case e9 => exact rfl)))
  (case hlen => first | assumption | (dsimp only [textsOf]; decide +kernel))
  (case hi0 => omega)
  (case hi1 => omega)
  (case hz0 => omega)
  (case hz1 => omega)
  (case hu0 => first | omega | exact Nat.le_of_ble_eq_true rfl)
  (case hu1 => first | omega | exact Nat.le_of_ble_eq_true rfl)
  (case hpre => k_all)
  k_whole
  intro x9 t9 h9 tk9 z9 u9 v9 n9 hq9 hq8 hq7 hq6 F9 N9
  (try dsimp only [textsOf] at hq9)
  (try dsimp only [textsOf] at hj9)
  (try (have N9 := news_drop2 N9))
  (try dsimp only)
  (try k_fold))))
local macro_rules | `(tactic| walk_at "call ref") => `(tactic| (k_here; (with_reducible show wpAny _ _ (call (Value.ref 78) [Value.ref _, Value.ref 59] _) _ _ _); k_dflt (
  refine' Ctr.use (pickL_ctr _ _ _ _ _ _ _ _ _ _ _ ?hi0 ?hi1 ?hz0 ?hz1 ?hpre) ?k1 ?k2 ?k3 ?k4 ?k5 ?kK ?kd ?ku ?kp ?_
  (case k1 => k_asm)
  (case k2 => k_asm)
  (case k3 => k_asm)
  (case k4 => first | k_asm | exact news_swap (by k_asm) | exact news_swap3 (by k_asm))
  (case k5 => k_asm)
  (case kK => first | exact rfl | assumption)
  (case kd => ktr_room)
  (case ku => ktr_units)
  (case kp => assumption)
  (case hi0 => omega)
  (case hi1 => omega)
  (case hz0 => omega)
  (case hz1 => omega)
  (case hpre => k_all)
  k_whole
  intro a9 x9 k9 s9 t9 h9 tk9 z9 u9 v9 n9 hq9 hq8 hq7 hq5 hq4 hq3 F9 N9
  (try dsimp only)
  (try k_fold))))
local macro_rules | `(tactic| walk_at "subscriptTail Name Constant ref int") => `(tactic| (k_here; first
  | ((with_reducible show wpAny _ _ (subscriptTail _ _ (Value.ref _) (Value.int 1 _)) _ _ _); refine st_lead1 (by assumption) (by assumption) (by assumption) ?_)
  | ((with_reducible show wpAny _ _ (subscriptTail _ _ (Value.ref _) (Value.int 0 _)) _ _ _); refine st_lead0 (by assumption) (by assumption) (by assumption) ?_)))
local macro_rules | `(tactic| walk_at "call ref") => `(tactic| (k_here; (with_reducible show wpAny _ _ (call (Value.ref 85) _ _) _ _ _); k_dflt (
  refine' Ctr.use (join_ctr _ _ _ _ _ _ _ _ _ _ _ _ _ _ _ _ ?hi0 ?hi1 ?hz0 ?hz1 ?hu0 ?hu1 ?hS ?hlen ?hm0 ?hm1 ?hpre ?hrows) ?k1 ?k2 ?k3 ?k4 ?k5 ?kK ?kd ?ku ?kp ?_
  (case k1 => k_asm)
  (case k2 => k_asm)
  (case k3 => k_asm)
  (case k4 => first | k_asm | exact news_swap (by k_asm) | exact news_swap3 (by k_asm))
  (case k5 => k_asm)
  (case kK => first | exact rfl | assumption)
  (case kd => ktr_room)
  (case ku => ktr_units)
  (case kp => assumption)
  (case hrows => first | assumption | exact rows_led | exact rows_60 | exact rows_61 | exact rows_62 | exact rows_63 | exact rows_64)
  (case hS => first | assumption | (refine' strs_texts ?e9; (case e9 => exact rfl)))
  (case hlen => first | assumption | (dsimp only [textsOf]; decide +kernel))
  (case hi0 => omega)
  (case hi1 => omega)
  (case hz0 => omega)
  (case hz1 => omega)
  (case hu0 => first | omega | exact Nat.le_of_ble_eq_true rfl)
  (case hu1 => first | omega | exact Nat.le_of_ble_eq_true rfl)
  (case hm0 => first | omega | decide)
  (case hm1 => first | omega | decide)
  (case hpre => k_all)
  k_whole
  intro x9 t9 h9 tk9 i9 z9 u9 v9 n9 hj9 hq9 hq8 hq7 hq6 hq5 F9 N9
  (try dsimp only [textsOf] at hq9)
  (try dsimp only [textsOf] at hj9)
  (try (have N9 := news_drop2 N9))
  (try dsimp only)
  (try k_fold))))
set_option maxRecDepth 100000 in
set_option maxHeartbeats 8000000 in
theorem case_ctr (w : World) (pre : List (Addr × Obj)) (b l : Addr) (vs : List Value) (ns : List Int) (i z : Int) (t1 t2 : Tok) (n : Nat)
   (hi0 : 0 ≤ i) (hi1 : i ≤ 900000) (hz0 : 0 ≤ z) (hz1 : z < 2147483647) (hpre : ∀ p ∈ pre, p.1 ≠ b) :
   Ctr w 92 8 100 ((b, boxO l i z t1 t2 n) :: pre) [.ref b] [] (ScriptAt l vs ns) (fun h₀ L m s Q =>
     ∀ (c : Addr) (cv : List Value) (h' : Heap) (tk' : Nat) (i' z' : Int) (t1' t2' : Tok) (n' nc : Nat), CaseOk cv → c ≠ b → i ≤ i' → i' ≤ i + 60 → 0 ≤ z' → z' < 2147483647 → Fr h₀ L h' m → News h₀ L h' ((b, boxO l i' z' t1' t2' n') :: (c, listOf cv.toArray nc) :: pre) → Q (.ref c) { s with heap := h', toks := tk' }) := by
  unfold Ctr
  k_fill
  intro mean mg mb dp un gd cn cs a ccd cl outer A₀ base h₀ L m s Q E B F X N T hk hd hu hscr hret
  refine wpAny_call ?_
  k_dflt k_enter
  rename Frag.In _ _ => X1
  have hU := units_at X1
  have hSp := spoils_at X1
  k_steps
  · refine' hret _ _ _ _ _ _ _ _ _ _ ?hc ?hcb ?hi1 ?hi2 ?hz0 ?hz1 ?hF ?hN
    (case hF => assumption)
    (case hN => exact news_swap (by assumption))
    (case hcb => k_ne)
    (case hi1 => omega)
    (case hi2 => omega)
    (case hz0 => assumption)
    (case hz1 => assumption)
    (case hc => exact endW0 (by assumption) (by assumption) (beq_iff_eq.mpr (by assumption)) (by omega))
  · exfalso; omega
  · exfalso; omega
  · refine' hret _ _ _ _ _ _ _ _ _ _ ?hc ?hcb ?hi1 ?hi2 ?hz0 ?hz1 ?hF ?hN
    (case hF => assumption)
    (case hN => exact news_swap (by assumption))
    (case hcb => k_ne)
    (case hi1 => omega)
    (case hi2 => omega)
    (case hz0 => assumption)
    (case hz1 => assumption)
    (case hc => exact endW1 (by assumption) (by assumption) (beq_eq_false_iff_ne.mpr (by assumption)) (by omega))
  · refine' hret _ _ _ _ _ _ _ _ _ _ ?hc ?hcb ?hi1 ?hi2 ?hz0 ?hz1 ?hF ?hN
    (case hF => assumption)
    (case hN => exact news_swap (by assumption))
    (case hcb => k_ne)
    (case hi1 => omega)
    (case hi2 => omega)
    (case hz0 => assumption)
    (case hz1 => assumption)
    (case hc => exact end0 (by assumption) (by assumption) (by omega))
  · refine' hret _ _ _ _ _ _ _ _ _ _ ?hc ?hcb ?hi1 ?hi2 ?hz0 ?hz1 ?hF ?hN
    (case hF => assumption)
    (case hN => exact news_swap (by assumption))
    (case hcb => k_ne)
    (case hi1 => omega)
    (case hi2 => omega)
    (case hz0 => assumption)
    (case hz1 => assumption)
    (case hc => exact end1 (by assumption) (by assumption) (by assumption) (by assumption) (by omega))
  · refine' hret _ _ _ _ _ _ _ _ _ _ ?hc ?hcb ?hi1 ?hi2 ?hz0 ?hz1 ?hF ?hN
    (case hF => assumption)
    (case hN => exact news_swap (by assumption))
    (case hcb => k_ne)
    (case hi1 => omega)
    (case hi2 => omega)
    (case hz0 => assumption)
    (case hz1 => assumption)
    (case hc => exact end2 (by assumption) (by assumption) (by assumption) (by assumption) (by assumption) (by omega) (by omega))
  · refine' hret _ _ _ _ _ _ _ _ _ _ ?hc ?hcb ?hi1 ?hi2 ?hz0 ?hz1 ?hF ?hN
    (case hF => assumption)
    (case hN => exact news_swap (by assumption))
    (case hcb => k_ne)
    (case hi1 => omega)
    (case hi2 => omega)
    (case hz0 => assumption)
    (case hz1 => assumption)
    (case hc => exact end3a (by assumption) (by assumption) (by assumption) (by assumption) (by assumption) (by omega))
  · refine' hret _ _ _ _ _ _ _ _ _ _ ?hc ?hcb ?hi1 ?hi2 ?hz0 ?hz1 ?hF ?hN
    (case hF => assumption)
    (case hN => exact news_swap (by assumption))
    (case hcb => k_ne)
    (case hi1 => omega)
    (case hi2 => omega)
    (case hz0 => assumption)
    (case hz1 => assumption)
    (case hc => exact end3b (by assumption) (by assumption) (by assumption) (by assumption) (by omega))
  · refine' hret _ _ _ _ _ _ _ _ _ _ ?hc ?hcb ?hi1 ?hi2 ?hz0 ?hz1 ?hF ?hN
    (case hF => assumption)
    (case hN => exact news_swap (by assumption))
    (case hcb => k_ne)
    (case hi1 => omega)
    (case hi2 => omega)
    (case hz0 => assumption)
    (case hz1 => assumption)
    (case hc => exact end4 (by assumption) (by assumption) (by assumption) (by omega))
  · refine' hret _ _ _ _ _ _ _ _ _ _ ?hc ?hcb ?hi1 ?hi2 ?hz0 ?hz1 ?hF ?hN
    (case hF => assumption)
    (case hN => exact news_fin2 (by assumption))
    (case hcb => k_ne)
    (case hi1 => omega)
    (case hi2 => omega)
    (case hz0 => assumption)
    (case hz1 => assumption)
    (case hc => exact end5 (by assumption) (by assumption) (by assumption) (by assumption) (by assumption) (by omega))
  · refine' hret _ _ _ _ _ _ _ _ _ _ ?hc ?hcb ?hi1 ?hi2 ?hz0 ?hz1 ?hF ?hN
    (case hF => assumption)
    (case hN => exact news_swap (by assumption))
    (case hcb => k_ne)
    (case hi1 => omega)
    (case hi2 => omega)
    (case hz0 => assumption)
    (case hz1 => assumption)
    (case hc => exact end6a (by assumption) (by assumption) (by assumption) (by assumption) (by omega))
  · refine' hret _ _ _ _ _ _ _ _ _ _ ?hc ?hcb ?hi1 ?hi2 ?hz0 ?hz1 ?hF ?hN
    (case hF => assumption)
    (case hN => exact news_swap (by assumption))
    (case hcb => k_ne)
    (case hi1 => omega)
    (case hi2 => omega)
    (case hz0 => assumption)
    (case hz1 => assumption)
    (case hc => exact end6b (by assumption) (by assumption) (by omega))
  · refine' hret _ _ _ _ _ _ _ _ _ _ ?hc ?hcb ?hi1 ?hi2 ?hz0 ?hz1 ?hF ?hN
    (case hF => assumption)
    (case hN => exact news_swap (by assumption))
    (case hcb => k_ne)
    (case hi1 => omega)
    (case hi2 => omega)
    (case hz0 => assumption)
    (case hz1 => assumption)
    (case hc => exact end6c (by assumption) (by assumption) (by assumption) (by assumption) (by omega))
  · exact (sign_absurd (by assumption) (by assumption)).elim
  · refine' hret _ _ _ _ _ _ _ _ _ _ ?hc ?hcb ?hi1 ?hi2 ?hz0 ?hz1 ?hF ?hN
    (case hF => assumption)
    (case hN => exact news_swap (by assumption))
    (case hcb => k_ne)
    (case hi1 => omega)
    (case hi2 => omega)
    (case hz0 => assumption)
    (case hz1 => assumption)
    (case hc => exact end6d (by assumption) (by assumption) (by assumption) (by assumption) (by assumption) (by assumption) (by omega))
  · refine' hret _ _ _ _ _ _ _ _ _ _ ?hc ?hcb ?hi1 ?hi2 ?hz0 ?hz1 ?hF ?hN
    (case hF => assumption)
    (case hN => exact news_swap (by assumption))
    (case hcb => k_ne)
    (case hi1 => omega)
    (case hi2 => omega)
    (case hz0 => assumption)
    (case hz1 => assumption)
    (case hc => exact end6e (by assumption) (by assumption) (by assumption) (by assumption) (by omega))
end
theorem cp_gt : cp (Str.ofString ">") = [62] := by decide +kernel
theorem cp_bgt : cp (Str.ofString "b>") = [98, 62] := by decide +kernel
theorem sfx_at {x : Str} {A B : List Nat} {p : Int} (h : cp x = A ++ B) (hp : p = (A.length : Int)) : sfx x p = B := by
  unfold sfx
  rw [show x.cps.toList = A ++ B from h, hp, show ((A.length : Int)).toNat = A.length by omega, List.drop_left]
theorem text_sfx {hd bd : Str} {R : List Nat} {x : Str} (h : cp x = cp hd ++ ([60] ++ R)) : sfx x ((hd.length : Int) + 1) = R :=
  sfx_at (A := cp hd ++ [60]) (by rw [h, List.append_assoc]) (by rw [List.length_append, cp_len, List.length_singleton]; omega)
/-- a text in angles, as the law asks -/
theorem textS_ctr (w : World) (news : List (Addr × Obj)) (hd bd : Str) (tx tp : Tok) (hh : hd.length ≤ 8) (hb : bd.length ≤ 40) (hj : Joined angT 4 bd) :
   Ctr w 45 2 20 news [.str (hd ++ Str.ofString "<" ++ bd ++ Str.ofString ">") tx, .int (hd.length : Int) tp] [] (fun _ => True) (fun h₀ L m s Q =>
     ∀ (r : Addr) (h' : Heap) (tk' : Nat) (t1 t2 : Tok), PyData.strOk bd = true → (hd ++ Str.ofString "<" ++ bd ++ Str.ofString ">").length ≤ 60 → Fr h₀ L h' m → News h₀ L h' ((r, tupO [.str bd t1, .int ((hd ++ Str.ofString "<" ++ bd ++ Str.ofString ">").length : Int) t2]) :: news) → Q (.ref r) { s with heap := h', toks := tk' }) := by
  have hs : cp (hd ++ Str.ofString "<" ++ bd ++ Str.ofString ">") = cp hd ++ ([60] ++ (cp bd ++ [62])) := by rw [cp_add, cp_add, cp_add, cp_lt, cp_gt]; simp only [List.append_assoc]
  have hl : (hd ++ Str.ofString "<" ++ bd ++ Str.ofString ">").length = hd.length + (1 + (bd.length + 1)) := by
    rw [← cp_len, hs]
    simp only [List.length_append, cp_len, List.length_singleton]
  have hx := text_sfx (bd := bd) hs
  have ha : angle (sfx (hd ++ Str.ofString "<" ++ bd ++ Str.ofString ">") ((hd.length : Int) + 1)) ((hd.length : Int) + 1) = some ((hd.length : Int) + 1 + (bd.length : Int)) := by
    rw [hx, joined_passA ang_pass hj, cp_len]
    exact angH
  intro mean mg mb dp un gd cn cs a ccd cl outer A₀ base h₀ L m s Q E B F X N T hk hd' hu _ hret
  refine Ctr.use (angle_ctr w news _ tx tp _ (by omega) (by omega) (by omega)) B F X N T hk hd' hu trivial ⟨?_, ?_⟩
  · intro r h' tk' e
    rw [ha] at e
    cases e
  · intro r h' tk' e y t1 t2 he hy _ _ _ F' N'
    have he' := Option.some.inj (he.symm.trans ha)
    subst he'
    have : y = bd := str_ext (by
      rw [hy]
      unfold cut
      rw [hx, show ((hd.length : Int) + 1 + (bd.length : Int) - ((hd.length : Int) + 1)).toNat = (cp bd).length by rw [cp_len]; omega, List.take_left])
    subst this
    refine hret r h' tk' t1 t2 (joined_ok (by decide +kernel) hj) (by omega) F' ?_
    rw [show (((hd ++ Str.ofString "<" ++ y ++ Str.ofString ">").length : Nat) : Int) = (hd.length : Int) + 1 + (y.length : Int) + 1 by omega]
    exact N'
theorem spoilN_ctr (w : World) (news : List (Addr × Obj)) (hd bd sp : Str) (tx tp : Tok) (hh : hd.length ≤ 8) (hb : bd.length ≤ 40) (hs8 : sp.length ≤ 8) (hj : Joined angT 4 bd) (hsp : sp ∈ [Str.ofString "<", Str.ofString "\n", Str.ofString "\r", Str.ofString "\x00"]) :
   Ctr w 45 2 20 news [.str (hd ++ Str.ofString "<" ++ bd ++ sp ++ Str.ofString "b>") tx, .int (hd.length : Int) tp] [] (fun _ => True) (fun h₀ L m s Q =>
     ∀ (r : Addr) (h' : Heap) (tk' : Nat), Fr h₀ L h' m → News h₀ L h' ((r, tupO [.none, .none]) :: news) → Q (.ref r) { s with heap := h', toks := tk' }) := by
  have hs : cp (hd ++ Str.ofString "<" ++ bd ++ sp ++ Str.ofString "b>") = cp hd ++ ([60] ++ (cp bd ++ (cp sp ++ [98, 62]))) := by rw [cp_add, cp_add, cp_add, cp_add, cp_lt, cp_bgt]; simp only [List.append_assoc]
  have hl : (hd ++ Str.ofString "<" ++ bd ++ sp ++ Str.ofString "b>").length = hd.length + (1 + (bd.length + (sp.length + 2))) := by
    rw [← cp_len, hs]
    simp only [List.length_append, cp_len, List.length_cons, List.length_nil]
  have ha : angle (sfx (hd ++ Str.ofString "<" ++ bd ++ sp ++ Str.ofString "b>") ((hd.length : Int) + 1)) ((hd.length : Int) + 1) = none := by
    rw [text_sfx (bd := bd) hs, joined_passA ang_pass hj]
    exact spoil_ends hsp _ _
  intro mean mg mb dp un gd cn cs a ccd cl outer A₀ base h₀ L m s Q E B F X N T hk hd' hu _ hret
  refine Ctr.use (angle_ctr w news _ tx tp _ (by omega) (by omega) (by omega)) B F X N T hk hd' hu trivial ⟨?_, ?_⟩
  · intro r h' tk' _ F' N'
    exact hret r h' tk' F' N'
  · intro r h' tk' e y t1 t2 he
    rw [ha] at he
    cases he
theorem st_len {prog : Program} {w : World} {A : Around} {E : Value → Shared → Prop} {s : Shared} {x : Str} {t : Tok} {Q : Value → Shared → Prop} (h1 : x.length ≤ 16777216) (h : Q (.int x.length (s.toks + 1)) { s with toks := s.toks + 1 + 1 }) :
    wpAny (model prog w) A (call (.builtin "len") [.str x t]) Q E s := P.len_str (by omega) h
theorem news_only {h₀ h : Heap} {L : Addr} {p : Addr × Obj} {l : List (Addr × Obj)} (hp : p ∈ l) (N : News h₀ L h l) : News h₀ L h [p] := fun q hq => by rw [List.mem_singleton.mp hq]; exact N _ hp
theorem st_add {prog : Program} {w : World} {A : Around} {E : Value → Shared → Prop} {s : Shared} {x y : Str} {t u : Tok} {a b : Nat} {Q : Value → Shared → Prop} (hx : x.length ≤ a) (hy : y.length ≤ b) (hab : a + b ≤ 10000)
    (h : ∀ t' tk, (x ++ y).length ≤ a + b → Q (.str (x ++ y) t') { s with toks := tk }) : wpAny (model prog w) A (binaryOp .Add (.str x t) (.str y u)) Q E s :=
  add_str (fun t' tk => h t' tk (by rw [PySem.Str.length_append]; omega)) (by rw [sizeLine_eq]; omega)
theorem lit8 {x : Str} (h : x.length ≤ 8) : x.length ≤ 8 := h

/-! the white space that the law cuts off -/
def white10 : Str := ⟨#[32, 9, 10, 13, 12, 32, 9, 10, 13, 12]⟩
theorem white10_mul : Txt.mul (Str.ofString " \t\n\r\x0c") 2 = white10 := by decide +kernel
theorem white10_len : white10.length = 10 := rfl
def whites (j : Int) : Str := Txt.slice white10 none (some j)
theorem whites_cp {j : Int} (h0 : 0 ≤ j) (h1 : j ≤ 10) : cp (whites j) = (cp white10).take j.toNat := by
  have e : whites j = Txt.slice white10 (some 0) (some j) := by
    unfold whites Txt.slice
    rw [StrLaws.sliceIdx_none_lo]
  rw [e]
  have := cut_slice (x := white10) (a := 0) (b := j) (by decide) h0 (by rw [white10_len]; omega)
  rw [show cp (Txt.slice white10 (some 0) (some j)) = cut white10 0 j from this]
  unfold cut sfx
  simp
theorem whites_len {j : Int} (h0 : 0 ≤ j) (h1 : j ≤ 10) : (whites j).length = j.toNat := by
  rw [← cp_len, whites_cp h0 h1, List.length_take, cp_len, white10_len]
  omega
section
variable {prog : Program} {w : World} {A : Around} {E : Value → Shared → Prop} {s : Shared} {value slice : PySem.Expr} {t u : Tok} {h₀ : Heap} {L : Addr} {m : Str → Option Value} {news : List (Addr × Obj)} {Q : Value → Shared → Prop}
theorem st_mul10 (h : ∀ t' k, Q (.str white10 t') { s with toks := k }) : wpAny (model prog w) A (binaryOp .Mult (.str (Str.ofString " \t\n\r\x0c") t) (.int 2 u)) Q E s :=
  KXi.mul (n := 5) (by decide +kernel) (by decide) (by decide) (by decide) fun t' k _ _ => by rw [white10_mul]; exact h t' k
theorem st_slice10 {j : Int} {uj : Tok} (h0 : 0 ≤ j) (h1 : j ≤ 5) (hF : Fr h₀ L s.heap m) (hN : News h₀ L s.heap news) (h : ∀ h' t' k, (whites j).length ≤ 8 → Fr h₀ L h' m → News h₀ L h' news → Q (.str (whites j) t') { s with heap := h', toks := k })
    (hs : subscripted slice false (.str white10 t) (.ref s.heap.objs.size) = operate [.ref s.heap.objs.size, .str white10 t] (getItem (.str white10 t) (.ref s.heap.objs.size)) := by with_unfolding_all rfl)
    (ht : ∀ r, letTemporaryGo value (.str white10 t) r = pure () := by intro _; with_unfolding_all rfl) :
    wpAny (model prog w) A (subscriptTail value slice (.str white10 t) (.ref s.heap.objs.size)) Q E { s with heap := s.heap.push { cls := .type "slice", data := .fields #[.none, .int j uj, .none] } } :=
  slice_strN_ns (hsz := by decide) hF hN (fun h' t' k => h h' t' k (by rw [whites_len h0 (by omega)]; omega)) hs ht
end
theorem skipTo_whites {mx : Int} {R : List Nat} : ∀ (W : List Nat) (k : Int), (∀ c ∈ W, white c = true) → k ≤ mx → mx ≤ k + (W.length : Int) → skipTo mx (W ++ R) k = mx
  | [], k, _, h1, h2 => by
    have e : mx = k := by simp only [List.length_nil] at h2; omega
    rw [List.nil_append, e]
    cases R with
    | nil => rw [skipTo]
    | cons c r => rw [skipTo, if_neg (fun q => absurd q.1 (Int.lt_irrefl k))]
  | c :: W, k, hw, h1, h2 => by
    rw [List.cons_append, skipTo]
    by_cases h : k < mx
    · rw [if_pos ⟨h, hw c (.head _)⟩]
      exact skipTo_whites W (k + 1) (fun d hd => hw d (.tail _ hd)) (by omega) (by simp only [List.length_cons] at h2; omega)
    · rw [if_neg (fun q => h q.1)]
      omega
theorem skipTo_stop {mx : Int} {d : Nat} {R : List Nat} (hd : white d = false) : ∀ (W : List Nat) (k : Int), (∀ c ∈ W, white c = true) → k + (W.length : Int) ≤ mx → skipTo mx (W ++ (d :: R)) k = k + (W.length : Int)
  | [], k, _, _ => by
    rw [List.nil_append, skipTo, if_neg (by rw [hd]; simp)]
    simp
  | c :: W, k, hw, h => by
    simp only [List.length_cons] at h
    rw [List.cons_append, skipTo, if_pos ⟨by omega, hw c (.head _)⟩, skipTo_stop hd W (k + 1) (fun d hd => hw d (.tail _ hd)) (by omega)]
    simp only [List.length_cons]
    omega
theorem whites_white {j : Int} (h0 : 0 ≤ j) (h1 : j ≤ 10) : ∀ c ∈ cp (whites j), white c = true := by
  intro c hc
  rw [whites_cp h0 h1] at hc
  have h : ∀ c ∈ cp white10, c ∈ [32, 9, 10, 13, 12] := by decide +kernel
  rw [white_eq]
  exact decide_eq_true (h c (List.mem_of_mem_take hc))
theorem cp_x : cp (Str.ofString "x") = [120] := by decide +kernel
theorem cp_y : cp (Str.ofString "y") = [121] := by decide +kernel
theorem cp_vy : cp (Str.ofString "\x0by") = [11, 121] := by decide +kernel
theorem to1_ctr (w : World) (news : List (Addr × Obj)) (j : Int) (tx tp : Tok) (h0 : 0 ≤ j) (h1 : j ≤ 5) :
   Ctr w 31 2 20 news [.str (Str.ofString "x" ++ whites j ++ Str.ofString "\x0by") tx, .int 1 tp] [] (fun _ => True) (RetInt news (1 + j)) := by
  have hs : cp (Str.ofString "x" ++ whites j ++ Str.ofString "\x0by") = [120] ++ (cp (whites j) ++ [11, 121]) := by rw [cp_add, cp_add, cp_x, cp_vy, List.append_assoc]
  have hw := whites_len (j := j) h0 (by omega)
  have hl : (Str.ofString "x" ++ whites j ++ Str.ofString "\x0by").length = 1 + (j.toNat + 2) := by
    rw [← cp_len, hs, List.length_append, List.length_append, cp_len, hw]
    rfl
  have e : skipTo ((Str.ofString "x" ++ whites j ++ Str.ofString "\x0by").length : Int) (sfx (Str.ofString "x" ++ whites j ++ Str.ofString "\x0by") 1) 1 = 1 + j := by
    have e0 : sfx (Str.ofString "x" ++ whites j ++ Str.ofString "\x0by") 1 = cp (whites j) ++ [11, 121] := sfx_at (A := [120]) hs rfl
    rw [e0, skipTo_stop (by rw [white_eq]; decide) _ _ (whites_white h0 (by omega)) (by rw [cp_len, hw]; omega), cp_len, hw]
    omega
  have := to_ctr2 w news (Str.ofString "x" ++ whites j ++ Str.ofString "\x0by") tx tp 1 (by omega) (by decide) (by omega)
  rw [e] at this
  exact this
theorem to2_ctr (w : World) (news : List (Addr × Obj)) (j i : Int) (tx tp tm : Tok) (h0 : 0 ≤ i) (h1 : i ≤ j) (h5 : j ≤ 5) :
   Ctr w 31 2 20 news [.str (Str.ofString "x" ++ whites j ++ Str.ofString "y") tx, .int 1 tp, .int (1 + i) tm] [] (fun _ => True) (RetInt news (1 + i)) := by
  have hs : cp (Str.ofString "x" ++ whites j ++ Str.ofString "y") = [120] ++ (cp (whites j) ++ [121]) := by rw [cp_add, cp_add, cp_x, cp_y, List.append_assoc]
  have hw := whites_len (j := j) (by omega) (by omega)
  have hl : (Str.ofString "x" ++ whites j ++ Str.ofString "y").length = 1 + (j.toNat + 1) := by
    rw [← cp_len, hs, List.length_append, List.length_append, cp_len, hw]
    rfl
  have e : skipTo (1 + i) (sfx (Str.ofString "x" ++ whites j ++ Str.ofString "y") 1) 1 = 1 + i := by
    have e0 : sfx (Str.ofString "x" ++ whites j ++ Str.ofString "y") 1 = cp (whites j) ++ [121] := sfx_at (A := [120]) hs rfl
    rw [e0]
    exact skipTo_whites _ _ (whites_white (by omega) (by omega)) (by omega) (by rw [cp_len, hw]; omega)
  have := to_ctr w news (Str.ofString "x" ++ whites j ++ Str.ofString "y") tx tp tm 1 (1 + i) (by omega) (by decide) (by omega) (by omega)
  rw [e] at this
  exact this
theorem ask_ctr (w : World) (pre : List (Addr × Obj)) (c : Addr) (cv : List Value) (n : Nat) (hc : CaseOk cv) :
   Ctr w 99 6 90 ((c, listOf cv.toArray n) :: pre) [.ref c] [] (fun _ => True) (fun h₀ L m s Q =>
     ∀ (h' : Heap) (tk' : Nat), Fr h₀ L h' m → News h₀ L h' pre → Q (.bool true) { s with heap := h', toks := tk' }) := by
  intro mean mg mb dp un gd cn cs a ccd cl outer A₀ base h₀ L m s Q E B F X N T hk hd hu _ hret
  cases hc with
  | none src st lim d at' b t0 t1 t3 t6 t7 x1 x2 x3 x4 x5 x6 x7 =>
    exact Ctr.use (askN_ctr w pre c src st lim d at' b t0 t1 t3 t6 t7 n x1 x2 x3 x4 x5 x6 x7) B F X N T hk hd hu trivial (fun h' tk' F' N' => hret h' tk' F' (fun p hp => N' p (.tail _ hp)))
  | some src y st lim d at' a1 a2 b t0 t1 t3 t4 t5 t6 t7 x1 x2 x3 x4 x5 x6 x7 x8 x9 =>
    exact Ctr.use (askS_ctr w pre c src y st lim d at' a1 a2 b t0 t1 t3 t4 t5 t6 t7 n x1 x2 x3 x4 x5 x6 x7 x8 x9) B F X N T hk hd hu trivial (fun h' tk' F' N' => hret h' tk' F' (fun p hp => N' p (.tail _ hp)))

section
local macro_rules | `(tactic| walk_at "subscriptTail Name Name str int") => `(tactic| (k_here; (with_reducible show wpAny _ _ (subscriptTail _ _ (Value.str _ _) (Value.int _ _)) _ _ _); refine st_item (by first | omega | (simp only [Bool.and_eq_true, decide_eq_true_eq] at *; omega)) (by first | omega | (simp only [Bool.and_eq_true, decide_eq_true_eq] at *; omega)) (by omega) ?_))
local macro_rules | `(tactic| walk_at "subscriptTail Name BinOp str int") => `(tactic| (k_here; (with_reducible show wpAny _ _ (subscriptTail _ _ (Value.str _ _) (Value.int _ _)) _ _ _); refine st_item (by first | omega | (simp only [Bool.and_eq_true, decide_eq_true_eq] at *; omega)) (by first | omega | (simp only [Bool.and_eq_true, decide_eq_true_eq] at *; omega)) (by omega) ?_))
local macro_rules | `(tactic| walk_at "compareOp In str str") => `(tactic| ((with_reducible show wpAny _ _ (compareOp _ (Value.str (sg _) _) (Value.str _ _)) _ _ _); refine st_in ?_))
local macro_rules | `(tactic| walk_at "compareOp Eq str str") => `(tactic| ((with_reducible show wpAny _ _ (compareOp _ (Value.str (sg _) _) (Value.str _ _)) _ _ _); refine st_eq ?_))
local macro_rules | `(tactic| walk_at "call builtin:ord") => `(tactic| ((with_reducible show wpAny _ _ (call (Value.builtin "ord") [Value.str (sg _) _]) _ _ _); refine st_ord ?_))
local macro_rules | `(tactic| walk_at "exec While") => `(tactic| (k_here; (with_reducible show wpAny _ _ (exec (Stmt.While _ _ _ _) _) _ _ _); refine Halt.mk ?_))
local macro_rules | `(tactic| walk_at "KswPost") => `(tactic| (dsimp only [KswPost]))
local macro_rules | `(tactic| walk_at "KswEnd") => `(tactic| (refine Halt.mk ?_))
local macro_rules | `(tactic| k_enter) => `(tactic| (refine' code_def ?k1 ?k2 ?k3 ?k4 ?k5 ?kA ?kF ?kK ?k6 ?k7 ?k8 ?k9 ?kB ?_ ?c2 ?c3 ?c4 ?c5; (case kA => exact rfl); (case kF => exact rfl); (case kK => assumption); (case k1 => k_asm); (case k2 => k_asm); (case k3 => k_asm); (case k4 => k_asm); (case k5 => k_asm); (case k6 => k_is); (case k7 => k_is); (case k8 => ktr_room); (case k9 => first | exact BindsTo.of_eq rfl | exact binds_K (by k_in) rfl (by k_is) rfl rfl rfl | exact kp_binds (by k_in) (fun _ => rfl)); (case c5 => decide); (case kB => exact locs rfl); (case c2 => exact rfl); (case c3 => exact rfl); (case c4 => exact rfl); k_whole; intro g' L' h' FG' F' N' B' X' T'; (try dsimp only); (try k_lift B'); (try k_fold)))
local macro_rules | `(tactic| k_all) => `(tactic| assumption)
local macro_rules | `(tactic| walk_at "call ref") => `(tactic| (k_here; (with_reducible show wpAny _ _ (call (Value.ref 71) _ _) _ _ _); k_dflt (
  refine' Ctr.use (draw_ctr _ _ _ _ _ _ _ _ _ _ _ _ _ ?hi0 ?hi1 ?hz0 ?hz1 ?hk0 ?hk1 ?hpre) ?k1 ?k2 ?k3 ?k4 ?k5 ?kK ?kd ?ku ?kp ?_
  (case k1 => k_asm)
  (case k2 => k_asm)
  (case k3 => k_asm)
  (case k4 => first | k_asm | exact news_swap (by k_asm))
  (case k5 => k_asm)
  (case kK => first | exact rfl | assumption)
  (case kd => ktr_room)
  (case ku => ktr_units)
  (case kp => assumption)
  (case hi0 => omega)
  (case hi1 => omega)
  (case hz0 => omega)
  (case hz1 => omega)
  (case hk0 => (try simp only [List.size_toArray]); omega)
  (case hk1 => (try simp only [List.size_toArray]); omega)
  (case hpre => k_all)
  k_whole
  intro q9 t9 h9 tk9 z9 u9 v9 n9 hq9 hq8 hq7 hq6 F9 N9
  (try simp only [List.size_toArray] at hq8)
  (try dsimp only)
  (try k_fold))))
local macro_rules | `(tactic| walk_at "call ref") => `(tactic| (k_here; (with_reducible show wpAny _ _ (call (Value.ref 78) _ _) _ _ _); k_dflt (
  refine' Ctr.use (pickT_ctr _ _ _ _ _ _ _ _ _ _ _ _ _ _ ?hi0 ?hi1 ?hz0 ?hz1 ?hu0 ?hu1 ?hpre ?hrows ?hS ?hlen) ?k1 ?k2 ?k3 ?k4 ?k5 ?kK ?kd ?ku ?kp ?_
  (case k1 => k_asm)
  (case k2 => k_asm)
  (case k3 => k_asm)
  (case k4 => first | k_asm | exact news_swap (by k_asm) | exact news_swap3 (by k_asm))
  (case k5 => k_asm)
  (case kK => first | exact rfl | assumption)
  (case kd => ktr_room)
  (case ku => ktr_units)
  (case kp => assumption)
  (case hrows => first | assumption | exact rows_led | exact rows_59 | exact rows_60 | exact rows_61 | exact rows_62 | exact rows_63 | exact rows_64)
  (case hS => first | assumption | (refine' strs_texts ?e9; (case e9 => exact rfl)))
  (case hlen => first | assumption | (dsimp only [textsOf]; decide +kernel))
  (case hi0 => omega)
  (case hi1 => omega)
  (case hz0 => omega)
  (case hz1 => omega)
  (case hu0 => first | omega | exact Nat.le_of_ble_eq_true rfl)
  (case hu1 => first | omega | exact Nat.le_of_ble_eq_true rfl)
  (case hpre => k_all)
  k_whole
  intro x9 t9 h9 tk9 z9 u9 v9 n9 hq9 hq8 hq7 hq6 F9 N9
  (try dsimp only [textsOf] at hq9)
  (try dsimp only [textsOf] at hj9)
  (try (have N9 := news_drop2 N9))
  (try dsimp only)
  (try k_fold))))
local macro_rules | `(tactic| walk_at "call ref") => `(tactic| (k_here; (with_reducible show wpAny _ _ (call (Value.ref 78) [Value.ref _, Value.ref 59] _) _ _ _); k_dflt (
  refine' Ctr.use (pickL_ctr _ _ _ _ _ _ _ _ _ _ _ ?hi0 ?hi1 ?hz0 ?hz1 ?hpre) ?k1 ?k2 ?k3 ?k4 ?k5 ?kK ?kd ?ku ?kp ?_
  (case k1 => k_asm)
  (case k2 => k_asm)
  (case k3 => k_asm)
  (case k4 => first | k_asm | exact news_swap (by k_asm) | exact news_swap3 (by k_asm))
  (case k5 => k_asm)
  (case kK => first | exact rfl | assumption)
  (case kd => ktr_room)
  (case ku => ktr_units)
  (case kp => assumption)
  (case hi0 => omega)
  (case hi1 => omega)
  (case hz0 => omega)
  (case hz1 => omega)
  (case hpre => k_all)
  k_whole
  intro a9 x9 k9 s9 t9 h9 tk9 z9 u9 v9 n9 hq9 hq8 hq7 hq5 hq4 hq3 F9 N9
  (try dsimp only)
  (try k_fold))))
local macro_rules | `(tactic| walk_at "subscriptTail Name Constant ref int") => `(tactic| (k_here; first
  | ((with_reducible show wpAny _ _ (subscriptTail _ _ (Value.ref _) (Value.int 1 _)) _ _ _); refine st_lead1 (by assumption) (by assumption) (by assumption) ?_)
  | ((with_reducible show wpAny _ _ (subscriptTail _ _ (Value.ref _) (Value.int 0 _)) _ _ _); refine st_lead0 (by assumption) (by assumption) (by assumption) ?_)))
local macro_rules | `(tactic| walk_at "call ref") => `(tactic| (k_here; (with_reducible show wpAny _ _ (call (Value.ref 85) _ _) _ _ _); k_dflt (
  refine' Ctr.use (join_ctr _ _ _ _ _ _ _ _ _ _ _ _ _ _ _ _ ?hi0 ?hi1 ?hz0 ?hz1 ?hu0 ?hu1 ?hS ?hlen ?hm0 ?hm1 ?hpre ?hrows) ?k1 ?k2 ?k3 ?k4 ?k5 ?kK ?kd ?ku ?kp ?_
  (case k1 => k_asm)
  (case k2 => k_asm)
  (case k3 => k_asm)
  (case k4 => first | k_asm | exact news_swap (by k_asm) | exact news_swap3 (by k_asm))
  (case k5 => k_asm)
  (case kK => first | exact rfl | assumption)
  (case kd => ktr_room)
  (case ku => ktr_units)
  (case kp => assumption)
  (case hrows => first | assumption | exact rows_led | exact rows_60 | exact rows_61 | exact rows_62 | exact rows_63 | exact rows_64)
  (case hS => first | assumption | (refine' strs_texts ?e9; (case e9 => exact rfl)))
  (case hlen => first | assumption | (dsimp only [textsOf]; decide +kernel))
  (case hi0 => omega)
  (case hi1 => omega)
  (case hz0 => omega)
  (case hz1 => omega)
  (case hu0 => first | omega | exact Nat.le_of_ble_eq_true rfl)
  (case hu1 => first | omega | exact Nat.le_of_ble_eq_true rfl)
  (case hm0 => first | omega | decide)
  (case hm1 => first | omega | decide)
  (case hpre => k_all)
  k_whole
  intro x9 t9 h9 tk9 i9 z9 u9 v9 n9 hj9 hq9 hq8 hq7 hq6 hq5 F9 N9
  (try dsimp only [textsOf] at hq9)
  (try dsimp only [textsOf] at hj9)
  (try (have N9 := news_drop2 N9))
  (try dsimp only)
  (try k_fold))))
local macro_rules | `(tactic| walk_at "call ref") => `(tactic| (k_here; (with_reducible show wpAny _ _ (call (Value.ref 92) _ _) _ _ _); k_dflt (
  refine' Ctr.use (case_ctr _ _ _ _ _ _ _ _ _ _ _ ?hi0 ?hi1 ?hz0 ?hz1 ?hpre) ?k1 ?k2 ?k3 ?k4 ?k5 ?kK ?kd ?ku ?kp ?_
  (case k1 => k_asm)
  (case k2 => k_asm)
  (case k3 => k_asm)
  (case k4 => first | k_asm | exact news_swap (by k_asm) | exact news_swap3 (by k_asm))
  (case k5 => k_asm)
  (case kK => first | exact rfl | assumption)
  (case kd => ktr_room)
  (case ku => ktr_units)
  (case kp => assumption)
  (case hi0 => omega)
  (case hi1 => omega)
  (case hz0 => omega)
  (case hz1 => omega)
  (case hpre => k_all)
  k_whole
  intro c9 cv9 h9 tk9 i9 z9 u9 v9 n9 nc9 hc9 hq9 hq8 hq7 hq6 hq5 F9 N9
  (try dsimp only)
  (try k_fold))))
local macro_rules | `(tactic| walk_at "call ref") => `(tactic| (k_here; (with_reducible show wpAny _ _ (call (Value.ref 99) _ _) _ _ _); k_dflt (
  refine' Ctr.use (ask_ctr _ _ _ _ _ ?hc) ?k1 ?k2 ?k3 ?k4 ?k5 ?kK ?kd ?ku trivial ?_
  (case k1 => k_asm)
  (case k2 => k_asm)
  (case k3 => k_asm)
  (case hc => assumption)
  (case k4 => first | k_asm | exact news_swap (by k_asm) | exact news_swap3 (by k_asm))
  (case k5 => k_asm)
  (case kK => first | exact rfl | assumption)
  (case kd => ktr_room)
  (case ku => ktr_units)
  k_whole
  intro h9 tk9 F9 N9
  (try dsimp only)
  (try k_fold))))
local macro_rules | `(tactic| walk_at "call ref") => `(tactic| (k_here; (with_reducible show wpAny _ _ (call (Value.ref 45) [Value.str (_ ++ PySem.Str.ofString ">") _, _] _) _ _ _); k_dflt (
  refine' Ctr.use (textS_ctr _ _ _ _ _ _ ?hh ?hb ?hj) ?k1 ?k2 ?k3 ?k4 ?k5 ?kK ?kd ?ku trivial ?_
  (case k1 => k_asm)
  (case k2 => k_asm)
  (case k3 => k_asm)
  (case k4 => k_asm)
  (case k5 => k_asm)
  (case kK => first | exact rfl | assumption)
  (case kd => ktr_room)
  (case ku => ktr_units)
  (case hj => assumption)
  (case hh => omega)
  (case hb => omega)
  k_whole
  intro r9 h9 tk9 t9 u9 hok9 hlx9 F9 N9
  (try dsimp only)
  (try k_fold))))
local macro_rules | `(tactic| walk_at "call ref") => `(tactic| (k_here; (with_reducible show wpAny _ _ (call (Value.ref 45) [Value.str (_ ++ PySem.Str.ofString "b>") _, _] _) _ _ _); k_dflt (
  refine' Ctr.use (spoilN_ctr _ _ _ _ _ _ _ ?hh ?hb ?hs ?hj ?hsp) ?k1 ?k2 ?k3 ?k4 ?k5 ?kK ?kd ?ku trivial ?_
  (case k1 => k_asm)
  (case k2 => k_asm)
  (case k3 => k_asm)
  (case k4 => k_asm)
  (case k5 => k_asm)
  (case kK => first | exact rfl | assumption)
  (case kd => ktr_room)
  (case ku => ktr_units)
  (case hj => assumption)
  (case hsp => assumption)
  (case hh => omega)
  (case hb => omega)
  (case hs => omega)
  k_whole
  intro r9 h9 tk9 F9 N9
  (try dsimp only)
  (try k_fold))))
local macro_rules | `(tactic| ked_shaped) => `(tactic| first | exact shaped3 (by assumption) | exact shaped2 (by assumption))
local macro_rules | `(tactic| walk_at "call builtin:len") => `(tactic| (k_here; (with_reducible show wpAny _ _ (call (Value.builtin "len") [Value.str _ _]) _ _ _); refine st_len (by first | (refine Nat.le_trans (m := 60) ?_ (by decide); assumption) | omega) ?_))
local macro_rules | `(tactic| walk_at "call ref") => `(tactic| (k_here; (with_reducible show wpAny _ _ (call (Value.ref 78) [Value.ref _, Value.ref 64] _) _ _ _); k_dflt (
  refine' Ctr.use (pickT_ctr _ _ _ _ _ _ _ _ _ _ _ _ _ _ ?hi0 ?hi1 ?hz0 ?hz1 ?hu0 ?hu1 ?hpre ?hrows ?hS ?hlen) ?k1 ?k2 ?k3 ?k4 ?k5 ?kK ?kd ?ku ?kp ?_
  (case k1 => k_asm)
  (case k2 => k_asm)
  (case k3 => k_asm)
  (case k4 => (refine' news_only ?km ?kn; (case kn => k_asm); (case km => k_mem)))
  (case k5 => k_asm)
  (case kK => first | exact rfl | assumption)
  (case kd => ktr_room)
  (case ku => ktr_units)
  (case kp => assumption)
  (case hrows => exact rows_64)
  (case hS => (refine' strs_texts ?e9; (case e9 => exact rfl)))
  (case hlen => (dsimp only [textsOf]; decide +kernel))
  (case hi0 => omega)
  (case hi1 => omega)
  (case hz0 => omega)
  (case hz1 => omega)
  (case hu0 => exact Nat.le_of_ble_eq_true rfl)
  (case hu1 => exact Nat.le_of_ble_eq_true rfl)
  (case hpre => k_all)
  k_whole
  intro x9 t9 h9 tk9 z9 u9 v9 n9 hq9 hq8 hq7 hq6 F9 N9
  (try dsimp only [textsOf] at hq9)
  (try dsimp only)
  (try k_fold))))
local macro_rules | `(tactic| walk_at "call ref") => `(tactic| (k_here; (with_reducible show wpAny _ _ (call (Value.ref 71) _ _) _ _ _); k_dflt (
  refine' Ctr.use (draw_ctr _ _ _ _ _ _ _ _ _ _ _ _ _ ?hi0 ?hi1 ?hz0 ?hz1 ?hk0 ?hk1 ?hpre) ?k1 ?k2 ?k3 ?k4 ?k5 ?kK ?kd ?ku ?kp ?_
  (case k1 => k_asm)
  (case k2 => k_asm)
  (case k3 => k_asm)
  (case k4 => (refine' news_only ?km ?kn; (case kn => k_asm); (case km => k_mem)))
  (case k5 => k_asm)
  (case kK => first | exact rfl | assumption)
  (case kd => ktr_room)
  (case ku => ktr_units)
  (case kp => assumption)
  (case hi0 => omega)
  (case hi1 => omega)
  (case hz0 => omega)
  (case hz1 => omega)
  (case hk0 => omega)
  (case hk1 => omega)
  (case hpre => k_all)
  k_whole
  intro q9 t9 h9 tk9 z9 u9 v9 n9 hq9 hq8 hq7 hq6 F9 N9
  (try dsimp only)
  (try k_fold))))
local macro_rules | `(tactic| walk_at "binaryOp Add str str") => `(tactic| (k_here; (with_reducible show wpAny _ _ (binaryOp Operator.Add (Value.str _ _) (Value.str _ _)) _ _ _); (refine' st_add ?sx ?sy ?sz ?_); (case sx => first | (with_reducible assumption) | exact lit8 (by decide +kernel)); (case sy => first | (with_reducible assumption) | exact lit8 (by decide +kernel)); (case sz => decide); intro t9 k9 hl9))
local macro_rules | `(tactic| walk_at "binaryOp Mult str int") => `(tactic| (k_here; (with_reducible show wpAny _ _ (binaryOp Operator.Mult (Value.str _ _) (Value.int _ _)) _ _ _); refine st_mul10 ?_; intro t9 k9))
local macro_rules | `(tactic| walk_at "subscriptTail") => `(tactic| (k_here; (with_reducible show wpAny _ _ (subscriptTail _ (Expr.Slice none (some _) none _) (Value.str Mine.white10 _) (Value.ref _)) _ _ _); (with_reducible rename Fr _ _ _ _ => F8); (with_reducible rename News _ _ _ _ => N8); (refine st_slice10 (s := ⟨_, _, _, _, _⟩) (by omega) (by omega) F8 N8 ?_); intro h9 t9 k9 hl9 F9 N9))
local macro_rules | `(tactic| walk_at "call ref") => `(tactic| (k_here; (with_reducible show wpAny _ _ (call (Value.ref 31) [_, _] _) _ _ _); k_dflt (
  refine' Ctr.use (to1_ctr _ _ _ _ _ ?h0 ?h1) ?k1 ?k2 ?k3 ?k4 ?k5 ?kK ?kd ?ku trivial ?_
  (case k1 => k_asm)
  (case k2 => k_asm)
  (case k3 => k_asm)
  (case k4 => k_asm)
  (case k5 => k_asm)
  (case kK => first | exact rfl | assumption)
  (case kd => ktr_room)
  (case ku => ktr_units)
  (case h0 => omega)
  (case h1 => omega)
  k_whole
  intro r9 t9 h9 tk9 hr9 F9 N9
  subst hr9
  (try dsimp only)
  (try k_fold))))
local macro_rules | `(tactic| walk_at "call ref") => `(tactic| (k_here; (with_reducible show wpAny _ _ (call (Value.ref 31) [_, _, _] _) _ _ _); k_dflt (
  refine' Ctr.use (to2_ctr _ _ _ _ _ _ _ ?h0 ?h1 ?h5) ?k1 ?k2 ?k3 ?k4 ?k5 ?kK ?kd ?ku trivial ?_
  (case k1 => k_asm)
  (case k2 => k_asm)
  (case k3 => k_asm)
  (case k4 => k_asm)
  (case k5 => k_asm)
  (case kK => first | exact rfl | assumption)
  (case kd => ktr_room)
  (case ku => ktr_units)
  (case h0 => omega)
  (case h1 => omega)
  (case h5 => omega)
  k_whole
  intro r9 t9 h9 tk9 hr9 F9 N9
  subst hr9
  (try dsimp only)
  (try k_fold))))
set_option maxRecDepth 100000 in
set_option maxHeartbeats 8000000 in
theorem law_holds : PySem.Challenge.rw_ah6018_01.Holds := by
  refine Mine.hd ?_
  k_go0
  rename Heap.IsList _ _ _ => hL
  rename IntsAre _ _ => hI
  rename ¬ _ < (List.length _ : Int) => hcnd
  have hscr := (⟨hL, hI, by omega⟩ : ScriptAt _ _ _ _)
  (all_goals try k_fold)
  k_steps
end
end Mine

theorem PySem.Challenge.cw_ah6018_01_holds : PySem.Challenge.rw_ah6018_01.Holds := by
  exact Mine.law_holds
