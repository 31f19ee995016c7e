import PyProof.Rows.All
import Wide.All
import OpenK.AllK
import Wide.FinOn
import PySem.Challenge.RW_ph0047_01
set_option Elab.async false
section PartH1
open PySem PySem.W PyProof.Rows
namespace Mine
set_option maxRecDepth 100000
set_option maxHeartbeats 8000000
open_top hd for PySem.Challenge.rw_ph0047_01
end Mine
end PartH1
section PartC0
open PySem PySem.W PySem.Spec PySem.Calls PyProof.Rows
set_option maxRecDepth 100000
namespace Mine
/-- a call of the def at f with the values vs, from any frame whose ledger is news, ends in Ret -/
abbrev Ctr (w : World) (d u : Nat) (f : Addr) (news : List (Addr × Obj)) (vs : List Value) (kw : List (Str × Value))
    (Ret : (h₀ : Heap) → (L : Addr) → (m : Str → Option Value) → (s : Shared) → (Q : Value → Shared → Prop) → Prop) : Prop :=
  ∀ (p : Program) (loose : List Str) (mean : ExcName → Option Value) (mg mb : Str → Option Value) (dp un : Nat) (gd : Option (List Code)) (cn : Str) (cs : Scope) (a : Addr) (ccd : Value) (cl : List (Str × Addr)) (outer : List Env) (A₀ : Around) (base h₀ : Heap) (L : Addr) (m : Str → Option Value) (s : Shared) (Q E : Value → Shared → Prop),
    Below A₀ base outer h₀ → Fr h₀ L s.heap m → (hd.heap_39 w.params).In h₀ → News h₀ L s.heap news → Top p loose mean mg mb h₀ → cs.kind = .function →
    dp + d < recursionLimit → un + u < cLine → Ret h₀ L m s Q →
    wpAny (model PySem.Challenge.rw_ph0047_01.row.prog w) (ktrTop dp un gd cn cs L a ccd cl outer) (call (.ref f) vs kw) Q E s
end Mine
end PartC0
section PartE1
open PySem PySem.W PySem.Spec PySem.Calls PyProof.Rows
set_option maxRecDepth 100000
namespace Mine
section
variable {prog : Program} {w : World} {A : Around} {E : Value → Shared → Prop} {s : Shared} {h₀ : Heap} {L a b : Addr} {news : List (Addr × Obj)} {Q : Value → Shared → Prop} {x1 x2 y1 y2 : Str} {i1 i2 j1 j2 : Int} {t1 t2 u1 u2 : Tok} {c d : Nat}
theorem is_tup {o : Obj} {items : Array Value} {n : Nat} (N : News h₀ L s.heap news) (ha : (a, o) ∈ news) (hc : o.cls = .type "tuple") (hd : o.data = .seq items n) : s.heap.IsTuple a items := ⟨o, (N _ ha).1, hc, n, hd⟩
theorem two_eq {α : Type} [DecidableEq α] {x1 x2 y1 y2 : α} {e : Nat → Bool} (e0 : e 0 = (x1 == y1)) (e1 : e 1 = (x2 == y2)) : ((List.range (min 2 2)).all e && (2 == 2)) = decide ((x1, x2) = (y1, y2)) := by
  have : List.range (min 2 2) = [0, 1] := rfl
  rw [this]
  simp only [List.all_cons, List.all_nil, e0, e1, Prod.mk.injEq]
  by_cases q1 : x1 = y1 <;> by_cases q2 : x2 = y2 <;> simp [q1, q2]
theorem reads_tupI (N : News h₀ L s.heap news) (ha : (a, ({ cls := .type "tuple", data := .seq #[.int i1 t1, .int i2 t2] c } : Obj)) ∈ news) : ∃ as, Reads s.heap (.ref a) (.tuple [.int i1, .int i2]) as :=
  ⟨_, reads_tuple_at (News.get N ha) rfl rfl (ReadsAll.cons (Reads.int _ _) (ReadsAll.cons (Reads.int _ _) ReadsAll.nil))⟩
theorem eqv_I : PyData.eqv (.tuple [.int i1, .int i2]) (.tuple [.int j1, .int j2]) = decide ((i1, i2) = (j1, j2)) := by
  simp only [PyData.eqv, PyData.eqvAll, Prod.mk.injEq, Bool.and_true]
  by_cases e1 : i1 = j1 <;> by_cases e2 : i2 = j2 <;> simp [e1, e2]
theorem eq_tupS (N : News h₀ L s.heap news) (ha : (a, ({ cls := .type "tuple", data := .seq #[.str x1 t1, .str x2 t2] c } : Obj)) ∈ news) (hb : (b, ({ cls := .type "tuple", data := .seq #[.str y1 u1, .str y2 u2] d } : Obj)) ∈ news)
    (hu : A.units + 64 < cLine) (h : Q (.bool (decide ((x1, x2) = (y1, y2)))) s) : wpAny (model prog w) A (compareOp .Eq (.ref a) (.ref b)) Q E s := by
  have q := SeqAt.RcAt.tuples (A := A) (e := fun j => if j = 0 then x1 == y1 else x2 == y2) (is_tup N ha rfl rfl) (is_tup N hb rfl rfl) (by omega) (fun j h1 h2 => by
    match j, h1, h2 with
    | 0, _, _ => exact SeqAt.EqAt.str_str _ _ _ _
    | 1, _, _ => exact SeqAt.EqAt.str_str _ _ _ _) prog w E Q
  refine q ?_
  rw [show (((List.range (min (#[Value.str x1 t1, Value.str x2 t2] : Array Value).size (#[Value.str y1 u1, Value.str y2 u2] : Array Value).size)).all (fun j => if j = 0 then x1 == y1 else x2 == y2)) && (#[Value.str x1 t1, Value.str x2 t2] : Array Value).size == (#[Value.str y1 u1, Value.str y2 u2] : Array Value).size) = decide ((x1, x2) = (y1, y2)) from two_eq rfl rfl]
  exact h
theorem ne_tupS (N : News h₀ L s.heap news) (ha : (a, ({ cls := .type "tuple", data := .seq #[.str x1 t1, .str x2 t2] c } : Obj)) ∈ news) (hb : (b, ({ cls := .type "tuple", data := .seq #[.str y1 u1, .str y2 u2] d } : Obj)) ∈ news)
    (hu : A.units + 64 < cLine) (h : Q (.bool (!decide ((x1, x2) = (y1, y2)))) s) : wpAny (model prog w) A (compareOp .NotEq (.ref a) (.ref b)) Q E s := by
  have q := SeqAt.RcNeAt.tuples (A := A) (e := fun j => if j = 0 then x1 == y1 else x2 == y2) (is_tup N ha rfl rfl) (is_tup N hb rfl rfl) (by omega) (fun j h1 h2 => by
    match j, h1, h2 with
    | 0, _, _ => exact SeqAt.EqAt.str_str _ _ _ _
    | 1, _, _ => exact SeqAt.EqAt.str_str _ _ _ _) prog w E Q
  refine q ?_
  rw [show (((List.range (min (#[Value.str x1 t1, Value.str x2 t2] : Array Value).size (#[Value.str y1 u1, Value.str y2 u2] : Array Value).size)).all (fun j => if j = 0 then x1 == y1 else x2 == y2)) && (#[Value.str x1 t1, Value.str x2 t2] : Array Value).size == (#[Value.str y1 u1, Value.str y2 u2] : Array Value).size) = decide ((x1, x2) = (y1, y2)) from two_eq rfl rfl]
  exact h
theorem ne_tupI (N : News h₀ L s.heap news) (ha : (a, ({ cls := .type "tuple", data := .seq #[.int i1 t1, .int i2 t2] c } : Obj)) ∈ news) (hb : (b, ({ cls := .type "tuple", data := .seq #[.int j1 u1, .int j2 u2] d } : Obj)) ∈ news)
    (hu : A.units + 64 < cLine) (h : Q (.bool (!decide ((i1, i2) = (j1, j2)))) s) : wpAny (model prog w) A (compareOp .NotEq (.ref a) (.ref b)) Q E s := by
  obtain ⟨as, ra⟩ := reads_tupI N ha
  obtain ⟨bs, rb⟩ := reads_tupI N hb
  exact ne_dataH ra rb rfl rfl hu (by rw [eqv_I]; exact h)
theorem less_news {h : Heap} {q : Addr × Obj} (N : News h₀ L h (q :: news)) : News h₀ L h news := fun r hr => N r (.tail _ hr)
theorem more_news {h : Heap} {q : Addr × Obj} (N : News h₀ L h news) (hm : q ∈ news) : News h₀ L h (q :: news) := fun r hr => by
  rcases List.mem_cons.mp hr with rfl | hr
  · exact N _ hm
  · exact N _ hr
theorem two_news {h : Heap} {q r : Addr × Obj} (N : News h₀ L h news) (hm : q ∈ news) (hr : r ∈ news) : News h₀ L h (q :: r :: news) := fun x hx => by
  rcases List.mem_cons.mp hx with rfl | hx
  · exact N _ hm
  · rcases List.mem_cons.mp hx with rfl | hx
    · exact N _ hr
    · exact N _ hx
end
end Mine
end PartE1
section PartS1
open PySem PySem.W PySem.Spec PySem.Calls PyProof.Rows
set_option maxRecDepth 100000
set_option maxHeartbeats 8000000
namespace Mine
abbrev nl : Str := Str.ofString "\n"
def sdL (ls : List Str) : Str × Str :=
  match ls with
  | [] => (Str.ofString "", Str.ofString "")
  | [a] => (a, Str.ofString "")
  | a :: b :: r => if (Txt.rstrip b).length = 0 then (a, Str.join nl r) else (Str.ofString "", Str.join nl (a :: b :: r))
def sd (x : Str) : Str × Str := sdL (Txt.split (Txt.strip x) nl)
theorem y_len {ls : List Str} {n i : Nat} {y : Str} (h1 : ∀ a ∈ ls, a.length ≤ n) (h2 : ls[i]? = some y) : y.length ≤ n := h1 y (List.mem_of_getElem? h2)
theorem sum_drop_le (l : List Nat) (k : Nat) : (l.drop k).sum ≤ l.sum := by
  conv => rhs; rw [← List.take_append_drop k l, List.sum_append]
  omega
theorem split_weight {z : Str} (k : Nat) (hz : z.length ≤ 1000) : (((Txt.split z nl).drop k).map (·.length)).sum + ((Txt.split z nl).drop k).length * nl.length ≤ 16777216 := by
  have h1 := len_join_ge_sum nl (Txt.split z nl)
  rw [show Txt.join nl (Txt.split z nl) = z from (StrLaws.glued_eq_join _ _).trans (StrLaws.join_split z nl)] at h1
  have h2 := split_le z nl
  have h3 : nl.length = 1 := by decide +kernel
  have h4 := sum_drop_le ((Txt.split z nl).map (·.length)) k
  rw [← List.map_drop] at h4
  rw [h3, List.length_drop]
  omega
theorem strs_from {vs : List Value} {ys : List Str} (h : StrsAre vs ys) : StrsAre (slicePick vs.toArray (some 2) none none).toList (ys.drop 2) := by
  rw [kms_pick_eq]
  unfold kms_pick kms_lo kms_hi
  show StrsAre ((vs.drop (if (2 : Int) < 0 then vs.length - (-2 : Int).toNat else min (2 : Int).toNat vs.length)).take (vs.length - (if (2 : Int) < 0 then vs.length - (-2 : Int).toNat else min (2 : Int).toNat vs.length))) _
  rw [if_neg (by decide), List.take_of_length_le (by rw [List.length_drop]; exact Nat.le_refl _)]
  rw [kmk_drop_min]
  obtain ⟨l, rfl, rfl⟩ := strsAre_values h
  have := strsAre_of_values (l.drop 2)
  rw [List.map_drop] at this
  have e : strValues (l.drop 2) = (strValues l).drop 2 := by
    unfold strValues
    rw [List.map_drop]
  rw [e] at this
  exact this
section
variable {prog : Program} {w : World} {A : Around} {E : Value → Shared → Prop} {s : Shared} {h₀ : Heap} {L : Addr} {news : List (Addr × Obj)} {D : Addr} {l : List (Str × Tok)} {z : Str} {t : Tok} {n : Nat} {Q : Value → Shared → Prop}
theorem my_joinA (N : News h₀ L s.heap news) (hm : (D, listOf (strValues l).toArray n) ∈ news) (e : l.map (·.1) = Txt.split z nl) (hz : z.length ≤ 1000)
    (h : ∀ t' k, Q (.str (Str.join nl (Txt.split z nl)) t') { s with toks := k }) : wpAny (model prog w) A (call (.builtin "str.join") [.str nl t, .ref D]) Q E s := by
  have hi : StrsAre (strValues l) (Txt.split z nl) := by rw [← e]; exact strsAre_of_values l
  refine join_list (ys := Txt.split z nl) (News.isList N hm) hi ?_ fun t' k => ?_
  · have := split_weight 0 hz
    rw [List.drop_zero] at this
    exact this
  · rw [show Txt.join nl (Txt.split z nl) = Str.join nl (Txt.split z nl) from StrLaws.glued_eq_join _ _]
    exact h t' k
theorem my_joinB (N : News h₀ L s.heap news) (hm : (D, listOf (slicePick (strValues l).toArray (some 2) none none) n) ∈ news) (e : l.map (·.1) = Txt.split z nl) (hz : z.length ≤ 1000)
    (h : ∀ t' k, Q (.str (Str.join nl ((Txt.split z nl).drop 2)) t') { s with toks := k }) : wpAny (model prog w) A (call (.builtin "str.join") [.str nl t, .ref D]) Q E s := by
  have hi : StrsAre (strValues l) (Txt.split z nl) := by rw [← e]; exact strsAre_of_values l
  refine join_list (ys := (Txt.split z nl).drop 2) (News.isList N hm) (strs_from hi) (split_weight 2 hz) fun t' k => ?_
  rw [show Txt.join nl ((Txt.split z nl).drop 2) = Str.join nl ((Txt.split z nl).drop 2) from StrLaws.glued_eq_join _ _]
  exact h t' k
end
theorem sd_one {l : List (Str × Tok)} {x y : Str} (h : ((l.length : Nat) : Int) = 1) (e : l.map (·.1) = Txt.split (Txt.strip x) nl) (h0 : (l.map (·.1))[Int.toNat 0]? = some y) : sd x = (y, Str.ofString "") := by
  unfold sd
  rw [e] at h0
  have h' : (Txt.split (Txt.strip x) nl).length = 1 := by rw [← e, List.length_map]; omega
  obtain ⟨a, ha⟩ := List.length_eq_one_iff.mp h'
  rw [ha] at h0 ⊢
  simp only [Int.toNat_zero, List.getElem?_cons_zero, Option.some.injEq] at h0
  subst h0
  rfl
theorem sd_two {l : List (Str × Tok)} {x y z : Str} (h : 2 ≤ ((l.length : Nat) : Int)) (e : l.map (·.1) = Txt.split (Txt.strip x) nl) (h1 : (l.map (·.1))[Int.toNat 1]? = some z) (hz : ((Txt.rstrip z).length : Int) = 0) (h0 : (l.map (·.1))[Int.toNat 0]? = some y) :
    sd x = (y, Str.join nl ((Txt.split (Txt.strip x) nl).drop 2)) := by
  unfold sd
  rw [e] at h0 h1
  have h' : 2 ≤ (Txt.split (Txt.strip x) nl).length := by rw [← e, List.length_map]; omega
  revert h0 h1 h'
  generalize Txt.split (Txt.strip x) nl = ls
  intro h1 h0 h'
  match ls, h' with
  | a :: b :: r, _ =>
    have h0' : a = y := by simpa using h0
    have h1' : b = z := by simpa using h1
    subst h0'; subst h1'
    have : (Txt.rstrip b).length = 0 := by omega
    simp [sdL, this]
theorem sd_more {l : List (Str × Tok)} {x z : Str} (h : 2 ≤ ((l.length : Nat) : Int)) (e : l.map (·.1) = Txt.split (Txt.strip x) nl) (h1 : (l.map (·.1))[Int.toNat 1]? = some z) (hz : ((Txt.rstrip z).length : Int) ≠ 0) :
    sd x = (Str.ofString "", Str.join nl (Txt.split (Txt.strip x) nl)) := by
  unfold sd
  rw [e] at h1
  have h' : 2 ≤ (Txt.split (Txt.strip x) nl).length := by rw [← e, List.length_map]; omega
  revert h1 h'
  generalize Txt.split (Txt.strip x) nl = ls
  intro h1 h'
  match ls, h' with
  | a :: b :: r, _ =>
    have h1' : b = z := by simpa using h1
    subst h1'
    have : ¬ (Txt.rstrip b).length = 0 := by omega
    simp [sdL, this]
theorem sd_none {l : List (Str × Tok)} {x : Str} {P : Prop} (e : l.map (·.1) = Txt.split (Txt.strip x) nl) (h1 : ((l.length : Nat) : Int) ≠ 1) (h : ¬ 2 ≤ ((l.length : Nat) : Int)) : P := by
  have := len_of_split e
  omega
theorem tup_drop {h₀ h : Heap} {L D : Addr} {o : Obj} {news news' : List (Addr × Obj)} (N : News h₀ L h news') (hm : (D, o) ∈ news') (hs : ∀ p ∈ news, p ∈ news') : News h₀ L h ((D, o) :: news) := fun p hp => by
  rcases List.mem_cons.mp hp with rfl | hp
  · exact N _ hm
  · exact N _ (hs p hp)
theorem all_of_allLt {d : Addr} : ∀ {l : List (Addr × Obj)}, AllLt d l → ∀ p ∈ l, p.1 < d
  | [], _, _, h => nomatch h
  | _ :: _, ⟨h, _⟩, _, .head _ => h
  | _ :: _, ⟨_, h⟩, _, .tail _ q => all_of_allLt h _ q
local macro_rules | `(tactic| walk_at "call builtin:str.rstrip") => `(tactic| ((have hyl := y_len (by assumption) (by assumption)); dsimp only; (refine SCL.rstrip (hsz := ?hsz) ?_); (case hsz => size_fits); intro _ _ _))
local macro_rules | `(tactic| walk_at "call builtin:str.join") => `(tactic| (k_here; first
  | (exfalso; exact sd_none (by assumption) (by assumption) (by assumption))
  | (refine my_joinA (z := Txt.strip _) (by assumption) (by k_mem) (by assumption) (by omega) ?_; intro _ _)
  | (refine my_joinB (z := Txt.strip _) (by assumption) (by k_mem) (by assumption) (by omega) ?_; intro _ _)))
theorem splitdoc_ctr (w : World) (x : Str) (tk : Tok) (news : List (Addr × Obj)) (hx : x.length ≤ 1000) :
    Ctr w 1 8 21 news [.str x tk] [] (fun h₀ L m s Q => ∀ (D : Addr) (t1 t2 : Tok) (c : Nat) (h' : Heap) (tk' : Nat), Fr h₀ L h' m →
      News h₀ L h' ((D, ({ cls := .type "tuple", data := .seq #[.str (sd x).1 t1, .str (sd x).2 t2] c } : Obj)) :: news) → (∀ p ∈ news, p.1 < D) → Q (.ref D) { s with heap := h', toks := tk' }) := by
  w_top off
  k_with_none
  unfold Ctr; k_fill
  intro p loose mean mg mb dp un gd cn cs a ccd cl outer A₀ base h₀ L m s Q E B F X N T hk hd hu hret
  refine wpAny_call ?_
  k_dflt cell_enter
  k_steps
  all_goals (
    first
    | ((have e9 := sd_one (by assumption) (by assumption) (by assumption)); rw [e9] at hret)
    | ((have e9 := sd_two (by assumption) (by assumption) (by assumption) (by assumption) (by assumption)); rw [e9] at hret)
    | ((have e9 := sd_more (by assumption) (by assumption) (by assumption) (by assumption)); rw [e9] at hret)
    refine hret _ _ _ _ _ _ (by assumption) (tup_drop (by assumption) (by k_mem) (by kcj_all)) ?_
    exact all_of_allLt (by first | assumption | exact And.right (by assumption) | exact And.right (And.right (by assumption))))
end Mine
end PartS1
section PartS2
open PySem PySem.W PySem.Spec PySem.Calls PyProof.Rows
set_option maxRecDepth 100000
set_option maxHeartbeats 8000000
namespace Mine
/-- the halving search for the first place in [lo, hi) where the test holds -/
def bis (g : Int → Bool) (lo hi : Int) : Int :=
  if h : lo < hi then
    if g ((lo + hi).fdiv 2) then bis g lo ((lo + hi).fdiv 2) else bis g ((lo + hi).fdiv 2 + 1) hi
  else lo
termination_by (hi - lo).toNat
decreasing_by
  · have := Int.fdiv_eq_ediv_of_nonneg (lo + hi) (b := 2) (by decide); omega
  · have := Int.fdiv_eq_ediv_of_nonneg (lo + hi) (b := 2) (by decide); omega
def blG (ns : List Int) (x : Int) (i : Int) : Bool := !decide (ns.getD i.toNat 0 < x)
def brG (ns : List Int) (x : Int) (i : Int) : Bool := decide (x < ns.getD i.toNat 0)
theorem bis_out {g : Int → Bool} {lo hi : Int} (h : ¬ lo < hi) : bis g lo hi = lo := by rw [bis, dif_neg h]
theorem bis_yes {g : Int → Bool} {lo hi : Int} (h : lo < hi) (hg : g ((lo + hi).fdiv 2) = true) : bis g lo hi = bis g lo ((lo + hi).fdiv 2) := by rw [bis, dif_pos h, if_pos hg]
theorem bis_no {g : Int → Bool} {lo hi : Int} (h : lo < hi) (hg : g ((lo + hi).fdiv 2) = false) : bis g lo hi = bis g ((lo + hi).fdiv 2 + 1) hi := by rw [bis, dif_pos h, if_neg (by rw [hg]; decide)]
theorem mid_in {lo hi : Int} (h : lo < hi) : lo ≤ (lo + hi).fdiv 2 ∧ (lo + hi).fdiv 2 < hi := by
  have := Int.fdiv_eq_ediv_of_nonneg (lo + hi) (b := 2) (by decide); omega
theorem bl_startA {g : Int → Bool} {n : Nat} : (0 : Int) ≤ 0 ∧ (0 : Int) ≤ (n : Int) ∧ (n : Int) ≤ (n : Int) ∧ bis g 0 n = bis g 0 n := ⟨by omega, by omega, by omega, rfl⟩
theorem bl_no {g : Int → Bool} {lo hi R : Int} {n : Nat} (h : lo < hi) (h0 : 0 ≤ lo) (h2 : hi ≤ n) (e : bis g lo hi = R) (hg : g ((lo + hi).fdiv 2) = false) :
    0 ≤ (lo + hi).fdiv 2 + 1 ∧ (lo + hi).fdiv 2 + 1 ≤ hi ∧ hi ≤ n ∧ bis g ((lo + hi).fdiv 2 + 1) hi = R := by
  have hm := mid_in h
  exact ⟨by omega, by omega, h2, by rw [← bis_no h hg]; exact e⟩
theorem bl_yes {g : Int → Bool} {lo hi R : Int} {n : Nat} (h : lo < hi) (h0 : 0 ≤ lo) (h2 : hi ≤ n) (e : bis g lo hi = R) (hg : g ((lo + hi).fdiv 2) = true) :
    0 ≤ lo ∧ lo ≤ (lo + hi).fdiv 2 ∧ (lo + hi).fdiv 2 ≤ n ∧ bis g lo ((lo + hi).fdiv 2) = R := by
  have hm := mid_in h
  exact ⟨by omega, by omega, by omega, by rw [← bis_yes h hg]; exact e⟩
theorem blG_no {ns : List Int} {x i : Int} (h : ns.getD i.toNat 0 < x) : blG ns x i = false := by unfold blG; rw [decide_eq_true h]; rfl
theorem blG_yes {ns : List Int} {x i : Int} (h : ¬ ns.getD i.toNat 0 < x) : blG ns x i = true := by unfold blG; rw [decide_eq_false h]; rfl
theorem brG_no {ns : List Int} {x i : Int} (h : ¬ x < ns.getD i.toNat 0) : brG ns x i = false := by unfold brG; rw [decide_eq_false h]
theorem brG_yes {ns : List Int} {x i : Int} (h : x < ns.getD i.toNat 0) : brG ns x i = true := by unfold brG; rw [decide_eq_true h]
theorem bl_lessA {lo hi : Int} (h : lo < hi) : (hi - ((lo + hi).fdiv 2 + 1)).toNat < (hi - lo).toNat := by have := mid_in h; omega
theorem bl_lessB {lo hi : Int} (h : lo < hi) : ((lo + hi).fdiv 2 - lo).toNat < (hi - lo).toNat := by have := mid_in h; omega
theorem bl_end {g : Int → Bool} {lo hi R : Int} (h : ¬ lo < hi) (e : bis g lo hi = R) : R = lo := by rw [← e, bis_out h]
local macro_rules | `(tactic| cell_enter) => `(tactic| (refine' code_def ?k1 ?k2 ?k3 ?k4 ?k5 ?kA ?kF ?kK ?k6 ?k7 ?k8 ?k9 ?kB ?_ ?c2 ?c3 ?c4 ?c5; (case kA => exact rfl); (case kF => exact rfl); (case kK => assumption); (case k1 => k_asm); (case k2 => k_asm); (case k3 => k_asm); (case k4 => k_asm); (case k5 => k_asm); (case k6 => k_is); (case k7 => k_is); (case k8 => ktr_room); (case k9 => (refine' kp_binds ?kx ?ke; (case kx => k_in); (case ke => exact fun _ => rfl))); (case c5 => decide); (case kB => exact locs rfl); (case c2 => exact rfl); (case c3 => exact rfl); (case c4 => exact rfl); k_whole; intro g' L' h' FG' F' N' B' X' T'; (try dsimp only); (try k_lift B'); (try k_fold)))
theorem bl_ctr (w : World) (l : Addr) (vs : List Value) (ns : List Int) (x : Int) (tx : Tok) (c : Nat) (news : List (Addr × Obj)) (hi : IntsAre vs ns) (hn : ns.length ≤ 100) :
    Ctr w 1 8 39 ((l, listOf vs.toArray c) :: news) [.ref l, .int x tx] [] (fun h₀ L m s Q => ∀ (t : Tok) (h' : Heap) (tk' : Nat), Fr h₀ L h' m → News h₀ L h' ((l, listOf vs.toArray c) :: news) → Q (.int (bis (blG ns x) 0 ns.length) t) { s with heap := h', toks := tk' }) := by
  w_top off
  k_with_none
  unfold Ctr; k_fill
  intro p loose mean mg mb dp un gd cn cs a ccd cl outer A₀ base h₀ L m s Q E B F X N T hk hd hu hret
  refine wpAny_call ?_
  k_dflt cell_enter
  k_with_none
  k_with "exec While Compare cons nil" => k_while_given ["a", "x"] (fun a x _ lo hi => 0 ≤ lo ∧ lo ≤ hi ∧ hi ≤ (a.length : Int) ∧ bis (blG a x) lo hi = bis (blG a x) 0 a.length) (fun _ _ _ lo hi => (hi - lo).toNat) "lo" "hi"
  k_with "state" => first | exact bl_startA | exact bl_no (by assumption) (by assumption) (by assumption) (by assumption) (blG_no (by assumption)) | exact bl_yes (by assumption) (by assumption) (by assumption) (by assumption) (blG_yes (by assumption))
  k_with "measure" => first | exact bl_lessA (by assumption) | exact bl_lessB (by assumption)
  k_steps
  k_with_none
  have e9 := bl_end (by assumption) (by assumption)
  rw [e9] at hret
  exact hret _ _ _ (by assumption) (by assumption)
theorem br_ctr (w : World) (l : Addr) (vs : List Value) (ns : List Int) (x : Int) (tx : Tok) (c : Nat) (news : List (Addr × Obj)) (hi : IntsAre vs ns) (hn : ns.length ≤ 100) :
    Ctr w 1 8 30 ((l, listOf vs.toArray c) :: news) [.ref l, .int x tx] [] (fun h₀ L m s Q => ∀ (t : Tok) (h' : Heap) (tk' : Nat), Fr h₀ L h' m → News h₀ L h' ((l, listOf vs.toArray c) :: news) → Q (.int (bis (brG ns x) 0 ns.length) t) { s with heap := h', toks := tk' }) := by
  w_top off
  k_with_none
  unfold Ctr; k_fill
  intro p loose mean mg mb dp un gd cn cs a ccd cl outer A₀ base h₀ L m s Q E B F X N T hk hd hu hret
  refine wpAny_call ?_
  k_dflt cell_enter
  k_with_none
  k_with "exec While Compare cons nil" => k_while_given ["a", "x"] (fun a x _ lo hi => 0 ≤ lo ∧ lo ≤ hi ∧ hi ≤ (a.length : Int) ∧ bis (brG a x) lo hi = bis (brG a x) 0 a.length) (fun _ _ _ lo hi => (hi - lo).toNat) "lo" "hi"
  k_with "state" => first | exact bl_startA | exact bl_no (by assumption) (by assumption) (by assumption) (by assumption) (brG_no (by assumption)) | exact bl_yes (by assumption) (by assumption) (by assumption) (by assumption) (brG_yes (by assumption))
  k_with "measure" => first | exact bl_lessA (by assumption) | exact bl_lessB (by assumption)
  k_steps
  k_with_none
  have e9 := bl_end (by assumption) (by assumption)
  rw [e9] at hret
  exact hret _ _ _ (by assumption) (by assumption)
end Mine
end PartS2
section PartS6
open PySem PySem.W PySem.Spec PySem.Calls PyProof.Rows
set_option maxRecDepth 100000
set_option maxHeartbeats 8000000
namespace Mine
local macro_rules | `(tactic| k_steps) => `(tactic| repeat' (first | (k_unfold; (try dsimp only)) | (k_end; wrow_close) | (walk1 <;> try dsimp only) | (dsimp only; walk1) | (leave1; walk_say "STEP leave1"; try dsimp only) | fail "no step"))
local macro_rules | `(tactic| cell_enter) => `(tactic| (refine' code_def ?k1 ?k2 ?k3 ?k4 ?k5 ?kA ?kF ?kK ?k6 ?k7 ?k8 ?k9 ?kB ?_ ?c2 ?c3 ?c4 ?c5; (case kA => exact rfl); (case kF => exact rfl); (case kK => assumption); (case k1 => k_asm); (case k2 => k_asm); (case k3 => k_asm); (case k4 => k_asm); (case k5 => k_asm); (case k6 => k_is); (case k7 => k_is); (case k8 => ktr_room); (case k9 => (refine' kp_binds ?kx ?ke; (case kx => k_in); (case ke => exact fun _ => rfl))); (case c5 => decide); (case kB => exact locs rfl); (case c2 => exact rfl); (case c3 => exact rfl); (case c4 => exact rfl); k_whole; intro g' L' h' FG' F' N' B' X' T'; (try dsimp only); (try k_lift B'); (try k_fold)))
/-- what a call of the key f gives, at every place below n -/
def KeyOk (w : World) (f : Addr) (led : List (Addr × Obj)) (n : Nat) (g : Int → Int) : Prop :=
  ∀ (e : Int) (te : Tok), 0 ≤ e → e < (n : Int) → Ctr w 2 100 f led [.int e te] [] (fun h₀ L m s Q => ∀ (t : Tok) (h' : Heap) (tk' : Nat), Fr h₀ L h' m → News h₀ L h' led → Q (.int (g e) t) { s with heap := h', toks := tk' })
def bkG (g : Int → Int) (i : Int) : Bool := !decide (g i < 1)
theorem bkG_no {g : Int → Int} {i : Int} (h : g (0 + i) < 1) : bkG g i = false := by rw [Int.zero_add] at h; unfold bkG; rw [decide_eq_true h]; rfl
theorem bkG_yes {g : Int → Int} {i : Int} (h : ¬ g (0 + i) < 1) : bkG g i = true := by rw [Int.zero_add] at h; unfold bkG; rw [decide_eq_false h]; rfl
section
variable {w : World} {p : Program} {loose : List Str} {mean : ExcName → Option Value} {mg mb : Str → Option Value} {dp un : Nat} {gd : Option (List Code)} {cn : Str} {cs : Scope} {a : Addr} {ccd : Value} {cl : List (Str × Addr)} {outer : List Env} {A₀ : Around} {base h₀ : Heap} {L : Addr} {m : Str → Option Value} {s : Shared} {Q E : Value → Shared → Prop} {news : List (Addr × Obj)} {f : Addr} {n : Nat} {g : Int → Int} {e : Int} {te : Tok}
theorem key_use (K : KeyOk w f news n g) (h0 : 0 ≤ e) (h1 : e < (n : Int)) (B : Below A₀ base outer h₀) (F : Fr h₀ L s.heap m) (X : (hd.heap_39 w.params).In h₀) (N : News h₀ L s.heap news) (T : Top p loose mean mg mb h₀) (hk : cs.kind = .function) (hdp : dp + 2 < recursionLimit) (hu : un + 100 < cLine)
    (ret : ∀ (t : Tok) (h' : Heap) (tk' : Nat), Fr h₀ L h' m → News h₀ L h' news → Q (.int (g e) t) { s with heap := h', toks := tk' }) :
    wpAny (model PySem.Challenge.rw_ph0047_01.row.prog w) (ktrTop dp un gd cn cs L a ccd cl outer) (call (.ref f) [.int e te]) Q E s :=
  K e te h0 h1 _ _ _ _ _ _ _ _ _ _ _ _ _ _ _ _ _ _ _ _ _ _ B F X N T hk hdp hu ret
end
local macro_rules | `(tactic| walk_at "callWith ref") => `(tactic| (k_here; k_dflt (refine' callWith_F ?k1 ?_; (case k1 => exact FnAt.of (by k_asm) (by k_mem)); k_whole)))
local macro_rules | `(tactic| walk_at "call ref") => `(tactic| (k_here; (with_reducible show wpAny _ _ (call (Value.ref _) [Value.int _ _]) _ _ _); k_dflt (refine' key_use ?kx ?k0 ?k00 ?k1 ?k2 ?k3 ?k4 ?k5 ?kK ?kd ?ku ?_; (case kx => assumption); (case kK => first | exact rfl | assumption); (case k1 => k_asm); (case k2 => k_asm); (case k3 => k_asm); (case k4 => k_asm); (case k5 => k_asm); (case k0 => l_idx); (case k00 => l_idx); (case kd => ktr_room); (case ku => ktr_units); k_whole); intro t' h' tk' F' N'; (try dsimp only)))
theorem bk_start {g : Int → Bool} {lo : Int} {n : Nat} (h0 : 0 ≤ lo) (h1 : lo ≤ (n : Int)) : (0 : Int) ≤ lo ∧ lo ≤ (n : Int) ∧ (n : Int) ≤ (n : Int) ∧ bis g lo n = bis g lo n := ⟨h0, h1, by omega, rfl⟩
theorem bk_ctr (w : World) (l : Addr) (vs : List Value) (n : Nat) (lo : Int) (t1 tlo : Tok) (c : Nat) (f : Addr) (oc : Value) (od : Option Addr) (fd : FuncData) (sl : Array (Option Value)) (g : Int → Int) (news : List (Addr × Obj)) (hi : IntsAre vs (rangeKs 0 n)) (hn : n ≤ 100) (h0 : 0 ≤ lo) (h1 : lo ≤ (n : Int))
    (hkey : KeyOk w f ((l, listOf vs.toArray c) :: (f, ⟨oc, od, .func fd, sl⟩) :: news) n g) :
    Ctr w 3 120 39 ((l, listOf vs.toArray c) :: (f, ⟨oc, od, .func fd, sl⟩) :: news) [.ref l, .int 1 t1, .int lo tlo] [(Str.ofString "key", .ref f)] (fun h₀ L m s Q => ∀ (t : Tok) (h' : Heap) (tk' : Nat), Fr h₀ L h' m → News h₀ L h' ((l, listOf vs.toArray c) :: (f, ⟨oc, od, .func fd, sl⟩) :: news) → Q (.int (bis (bkG g) lo n) t) { s with heap := h', toks := tk' }) := by
  w_top off
  k_with_none
  unfold Ctr; k_fill
  intro p loose mean mg mb dp un gd cn cs a ccd cl outer A₀ base h₀ L m s Q E B F X N T hk hd hu hret
  refine wpAny_call ?_
  k_dflt cell_enter
  k_with_none
  k_with "exec While Compare cons nil" => k_while_given ["lo!"] (fun lo₀ _ lo hi => 0 ≤ lo ∧ lo ≤ hi ∧ hi ≤ (n : Int) ∧ bis (bkG g) lo hi = bis (bkG g) lo₀ n) (fun _ _ lo hi => (hi - lo).toNat) "lo" "hi"
  k_with "state" => first | (rw [rangeKs_length]; exact bk_start (by assumption) (by assumption)) | exact bl_no (by assumption) (by assumption) (by assumption) (by assumption) (bkG_no (by assumption)) | exact bl_yes (by assumption) (by assumption) (by assumption) (by assumption) (bkG_yes (by assumption))
  k_with "measure" => first | exact bl_lessA (by assumption) | exact bl_lessB (by assumption)
  k_steps
  k_with_none
  have e9 := bl_end (by assumption) (by assumption)
  rw [e9] at hret
  exact hret _ _ _ (by assumption) (by assumption)
end Mine
end PartS6
section PartS5
open PySem PySem.W PySem.Spec PySem.Calls PyProof.Rows
set_option maxRecDepth 100000
set_option maxHeartbeats 1500000
namespace Mine
local macro_rules | `(tactic| k_steps) => `(tactic| repeat' (first | (k_unfold; (try dsimp only)) | (k_end; wrow_close) | (walk1 <;> try dsimp only) | (dsimp only; walk1) | (leave1; walk_say "STEP leave1"; try dsimp only) | fail "no step"))
local macro_rules | `(tactic| cell_enter) => `(tactic| (refine' code_defC ?k1 ?k2 ?k3 ?k4 ?k5 ?kA ?kF ?kK ?k6 ?k7 ?k8 ?k9 ?kB ?kD ?_ ?c2 ?c3 ?c4; (case kA => exact rfl); (case kF => exact rfl); (case kK => assumption); (case k1 => k_asm); (case k2 => k_asm); (case k3 => k_asm); (case k4 => k_asm); (case k5 => k_asm); (case k6 => k_is); (case k7 => k_is); (case k8 => ktr_room); (case k9 => exact BindsTo.of_eq rfl); (case kB => exact rfl); (case kD => decide +kernel); (case c2 => exact rfl); (case c3 => exact rfl); (case c4 => exact rfl); k_whole; intro g' L' h' tk' cells' FG' F' N' Y' B' X' T' l1; (try k_lt l1); k_cells Y'; (try simp only [List.cons_append, List.nil_append] at N'); (try dsimp only); (try k_lift B'); (try k_fold)))
section
variable {prog : Program} {w : World} {A : Around} {E : Value → Shared → Prop} {s : Shared} {h₀ : Heap} {L r : Addr} {m : Str → Option Value} {news : List (Addr × Obj)} {t₀ u₀ v₀ : Tok} {n : Nat} {Q : Value → Shared → Prop}
theorem my_ends (hh : A.handled = none) (F : Fr h₀ L s.heap m) (N : News h₀ L s.heap news) (hr : IsRange s.heap r 0 ((n : Int) + 1) 1 t₀ u₀ v₀) (hn : n ≤ 50)
    (h : ∀ D us c h' tk, Fr h₀ L h' m → News h₀ L h' ((D, listOf (List.toArray us) c) :: news) → (∀ p ∈ news, p.1 < D) → IntsAre us (rangeKs 0 (n + 1)) → Q (.ref D) { s with heap := h', toks := tk }) :
    wpAny (model prog w) A (call (.type "list") [.ref r]) Q E s := by
  refine kll_range hh F N hr (small_one (by omega) (by omega) (by omega) (by omega)) ?_ (by omega) h
  rw [rangeSize_nat]
  omega
end
section
variable {w : World} {p : Program} {loose : List Str} {mean : ExcName → Option Value} {mg mb : Str → Option Value} {dp un : Nat} {gd : Option (List Code)} {cn : Str} {cs : Scope} {a : Addr} {ccd : Value} {cl : List (Str × Addr)} {outer : List Env} {A₀ : Around} {base h₀ : Heap} {L : Addr} {m : Str → Option Value} {s : Shared} {Q E : Value → Shared → Prop} {news : List (Addr × Obj)} {f l : Addr} {vs : List Value} {lo : Int} {t1 tlo : Tok} {c : Nat} {oc : Value} {od : Option Addr} {fd : FuncData} {sl : Array (Option Value)}
theorem bk_use (g : Int → Int) (n : Nat) (hkey : KeyOk w f ((l, listOf vs.toArray c) :: (f, ⟨oc, od, .func fd, sl⟩) :: news) n g) (hi : IntsAre vs (rangeKs 0 n)) (hn : n ≤ 100) (h0 : 0 ≤ lo) (h1 : lo ≤ (n : Int))
    (B : Below A₀ base outer h₀) (F : Fr h₀ L s.heap m) (X : (hd.heap_39 w.params).In h₀) (N : News h₀ L s.heap news) (T : Top p loose mean mg mb h₀) (hk : cs.kind = .function)
    (hm : (l, listOf vs.toArray c) ∈ news) (hf : (f, (⟨oc, od, .func fd, sl⟩ : Obj)) ∈ news) (hdp : dp + 3 < recursionLimit) (hu : un + 120 < cLine)
    (ret : ∀ (t : Tok) (h' : Heap) (tk' : Nat), Fr h₀ L h' m → News h₀ L h' news → Q (.int (bis (bkG g) lo n) t) { s with heap := h', toks := tk' }) :
    wpAny (model PySem.Challenge.rw_ph0047_01.row.prog w) (ktrTop dp un gd cn cs L a ccd cl outer) (call (.ref 39) [.ref l, .int 1 t1, .int lo tlo] [(Str.ofString "key", .ref f)]) Q E s :=
  bk_ctr w l vs n lo t1 tlo c f oc od fd sl g news hi hn h0 h1 hkey _ _ _ _ _ _ _ _ _ _ _ _ _ _ _ _ _ _ _ _ _ _ B F X (two_news N hm hf) T hk hdp hu fun t h' tk' F' N' => ret t h' tk' F' (less_news (less_news N'))
theorem sd_use {x : Str} {tk : Tok} (hx : x.length ≤ 1000) (B : Below A₀ base outer h₀) (F : Fr h₀ L s.heap m) (X : (hd.heap_39 w.params).In h₀) (N : News h₀ L s.heap news) (T : Top p loose mean mg mb h₀) (hk : cs.kind = .function)
    (hdp : dp + 1 < recursionLimit) (hu : un + 8 < cLine)
    (ret : ∀ (D : Addr) (t1 t2 : Tok) (c : Nat) (h' : Heap) (tk' : Nat), Fr h₀ L h' m →
      News h₀ L h' ((D, ({ cls := .type "tuple", data := .seq #[.str (sd x).1 t1, .str (sd x).2 t2] c } : Obj)) :: news) → (∀ p ∈ news, p.1 < D) → Q (.ref D) { s with heap := h', toks := tk' }) :
    wpAny (model PySem.Challenge.rw_ph0047_01.row.prog w) (ktrTop dp un gd cn cs L a ccd cl outer) (call (.ref 21) [.str x tk]) Q E s :=
  splitdoc_ctr w x tk news hx _ _ _ _ _ _ _ _ _ _ _ _ _ _ _ _ _ _ _ _ _ _ B F X N T hk hdp hu ret
end
local macro_rules | `(tactic| walk_at "call type:list") => `(tactic| (k_here; (with_reducible show wpAny _ _ (call (Value.type _) [Value.ref _]) _ _ _); (rename IsRange _ _ _ _ _ _ _ _ => rgX); (with_unfolding_all refine' my_ends ?k0 ?k1 ?k2 ?k3 ?k4 ?_; (case k0 => rfl); (case k1 => k_asm); (case k2 => k_asm); (case k3 => first | exact rgX | assumption); (case k4 => omega); k_whole); intro D' vs' c' h' tk' F' N' l1 hI'; (try k_lt l1); (try k_sweep)))
local macro_rules | `(tactic| walk_at "call ref") => `(tactic| (k_here; (with_reducible show wpAny _ _ (call (Value.ref 21) [Value.str _ _]) _ _ _); k_dflt (refine' sd_use ?kx ?k1 ?k2 ?k3 ?k4 ?k5 ?kK ?kd ?ku ?_; (case kx => omega); (case kK => first | exact rfl | assumption); (case k1 => k_asm); (case k2 => k_asm); (case k3 => k_asm); (case k4 => k_asm); (case k5 => k_asm); (case kd => ktr_room); (case ku => ktr_units); k_whole); intro D' t1' t2' c' h' tk' F' N' l1; (try k_lt l1); (try dsimp only)))
local macro_rules | `(tactic| k_all) => `(tactic| assumption)
local macro_rules | `(tactic| walk_at "compareOp Eq ref ref") => `(tactic| (k_here; (with_reducible show wpAny _ _ (compareOp CmpOp.Eq (Value.ref _) (Value.ref _)) _ _ _); k_dflt (refine' eq_tupS ?N ?a ?b ?u ?_; (case N => k_asm); (case a => k_mem); (case b => k_mem); (case u => ktr_units)); (try dsimp only)))
local macro_rules | `(tactic| kla_enter) => `(tactic| (refine' kla_code ?k1 ?k2 ?k3 ?k4 ?k5 ?kA ?kF ?kK ?k6 ?k7 ?k8 ?k9 ?kB ?_ ?c2 ?c3 ?c4 ?c5; (case kA => exact rfl); (case kF => exact rfl); (case kK => assumption); (case k1 => k_asm); (case k2 => k_asm); (case k3 => k_asm); (case k4 => k_asm); (case k5 => k_asm); (case k6 => k_mem); (case k7 => exact codeRec_news (by k_asm) (by k_mem) (by assumption) (by assumption)); (case k8 => ktr_room); (case k9 => exact rfl); (case c5 => decide); (case kB => exact locs rfl); (case c2 => exact rfl); (case c3 => exact rfl); (case c4 => exact rfl); k_whole; intro g' L' h' FG' F' N' B' X' T'; (try dsimp only); (try k_lift B'); (try k_fold)))
def key1 (page : Str) (start e : Int) : Int := if sd (Txt.slice page (some start) (some e)) = (Str.ofString "", Str.ofString "") then 0 else 1
def key2 (page : Str) (start e : Int) : Int := if (sd (Txt.slice page (some start) (some e))).2 = Str.ofString "" then 0 else 1
abbrev CtrB (w : World) (d u : Nat) (f : Addr) (news : List (Addr × Obj)) (vs : List Value) (kw : List (Str × Value))
    (Ret : (h₀ : Heap) → (L : Addr) → (m : Str → Option Value) → (s : Shared) → (Q : Value → Shared → Prop) → Prop) : Prop :=
  ∀ (p : Program) (loose : List Str) (mean : ExcName → Option Value) (mg mb : Str → Option Value) (dp un : Nat) (gd : Option (List Code)) (cn : Str) (cs : Scope) (a : Addr) (ccd : Value) (cl : List (Str × Addr)) (outer : List Env) (A₀ : Around) (base h₀ : Heap) (L : Addr) (m : Str → Option Value) (s : Shared) (Q E : Value → Shared → Prop),
    CodeHd base 66 62 → Below A₀ base outer h₀ → Fr h₀ L s.heap m → (hd.heap_39 w.params).In h₀ → News h₀ L s.heap news → Top p loose mean mg mb h₀ → cs.kind = .function →
    dp + d < recursionLimit → un + u < cLine → Ret h₀ L m s Q →
    wpAny (model PySem.Challenge.rw_ph0047_01.row.prog w) (ktrTop dp un gd cn cs L a ccd cl outer) (call (.ref f) vs kw) Q E s
abbrev lamQ : Str := Str.ofString "_law_found" ++ Str.ofString ".<locals>." ++ Str.ofString "<lambda>"
abbrev tab2 (c1 c2 : Addr) : Array Value := #[rawInt ((75 : Nat) : Int), rawInt ((42 : Nat) : Int), .ref c1, rawInt ((76 : Nat) : Int), rawInt ((42 : Nat) : Int), .ref c2]
def foundF (page : Str) (start : Int) : Int × Int := (bis (bkG (key1 page start)) start ((page.length + 1 : Nat) : Int), bis (bkG (key2 page start)) start ((page.length + 1 : Nat) : Int))
theorem pick_news {h₀ h : Heap} {L : Addr} {l l' : List (Addr × Obj)} (N : News h₀ L h l) (hs : ∀ p ∈ l', p ∈ l) : News h₀ L h l' := fun p hp => N p (hs p hp)
theorem cons_news {h₀ h : Heap} {L : Addr} {q : Addr × Obj} {l l' : List (Addr × Obj)} (N : News h₀ L h l) (hm : q ∈ l) (N' : News h₀ L h l') : News h₀ L h (q :: l') := fun p hp => by
  rcases List.mem_cons.mp hp with rfl | hp
  · exact N _ hm
  · exact N' _ hp
theorem tab_eq (x y z u v w : Value) : (#[] ++ #[x, y, z] ++ #[u, v, w] : Array Value) = #[x, y, z, u, v, w] := rfl
theorem found_first (w : World) (page : Str) (tp : Tok) (start : Int) (ts : Tok) (news : List (Addr × Obj)) (hp : page.length ≤ 50) (h0 : 0 ≤ start) (h1 : start ≤ (page.length : Int)) (h62 : ∀ p ∈ news, p.1 ≠ 62) :
    CtrB w 4 140 67 ((62, tabObj #[]) :: news) [.str page tp, .int start ts] [] (fun h₀ L m s Q => ∀ (D : Addr) (t1 t2 : Tok) (c : Nat) (h' : Heap) (tk' : Nat) (c1 c2 : Addr) (o1 o2 : Obj) (v1 v2 : Array Value) (u1 u2 : Tok), Fr h₀ L h' m →
      News h₀ L h' ((D, ({ cls := .type "tuple", data := .seq #[.int (foundF page start).1 t1, .int (foundF page start).2 t2] c } : Obj)) :: (62, tabObj (tab2 c1 c2)) :: (c1, o1) :: (c2, o2) :: news) → (∀ p ∈ news, p.1 < c1) → (∀ p ∈ news, p.1 < c2) →
      o1.data = .fields v1 → v1[1]? = some (.str lamQ u1) → o2.data = .fields v2 → v2[1]? = some (.str lamQ u2) → Q (.ref D) { s with heap := h', toks := tk' }) := by
  w_top off
  k_with_none
  unfold CtrB; k_fill
  intro p loose mean mg mb dp un gd cn cs a ccd cl outer A₀ base h₀ L m s Q E hcd B F X N T hk hd hu hret
  refine wpAny_call ?_
  k_dflt cell_enter
  k_steps
  k_dflt (refine' bk_use (key1 page start) (page.length + 1) ?hkey ?hi ?hn ?h0 ?h1 ?k1 ?k2 ?k3 ?k4 ?k5 ?kK ?km ?kf ?kd ?ku ?_; (case kK => first | exact rfl | assumption); (case k1 => k_asm); (case k2 => k_asm); (case k3 => k_asm); (case k4 => k_asm); (case k5 => k_asm); (case km => k_mem); (case kf => k_mem); (case hi => assumption); (case hn => omega); (case h0 => omega); (case h1 => omega); (case kd => ktr_room); (case ku => ktr_units))
  · repeat (rename Fr _ _ _ _ => F9; clear F9)
    repeat (rename News _ _ _ _ => F9; clear F9)
    repeat (rename Below _ _ _ _ => F9; clear F9)
    repeat (rename Top _ _ _ _ _ _ => F9; clear F9)
    repeat (rename Frag.In _ _ => F9; clear F9)
    unfold KeyOk Ctr
    intro e te e0 e1 p loose mean mg mb dp un gd cn cs a ccd cl outer A₀ base h₀ L m s Q E B F X N T hk hd hu hret
    refine wpAny_call ?_
    k_dflt kla_enter
    k_steps
    · have e9 : key1 page start e = 0 := if_pos (by assumption)
      rw [e9] at hret
      exact hret _ _ _ (by assumption) (less_news (less_news (by assumption)))
    · have e9 : key1 page start e = 1 := if_neg (by assumption)
      rw [e9] at hret
      exact hret _ _ _ (by assumption) (less_news (less_news (by assumption)))
  intro t9 h9 tk9 F9 N9
  try dsimp only
  k_steps
  k_dflt (refine' bk_use (key2 page start) (page.length + 1) ?hkeyb ?hib ?hnb ?h0b ?h1b ?k1b ?k2b ?k3b ?k4b ?k5b ?kKb ?kmb ?kfb ?kdb ?kub ?_; (case kKb => first | exact rfl | assumption); (case k1b => k_asm); (case k2b => k_asm); (case k3b => k_asm); (case k4b => k_asm); (case k5b => k_asm); (case kmb => k_mem); (case kfb => k_mem); (case hib => assumption); (case hnb => omega); (case h0b => omega); (case h1b => omega); (case kdb => ktr_room); (case kub => ktr_units))
  · repeat (rename Fr _ _ _ _ => F9; clear F9)
    repeat (rename News _ _ _ _ => F9; clear F9)
    repeat (rename Below _ _ _ _ => F9; clear F9)
    repeat (rename Top _ _ _ _ _ _ => F9; clear F9)
    repeat (rename Frag.In _ _ => F9; clear F9)
    unfold KeyOk Ctr
    intro e te e0 e1 p loose mean mg mb dp un gd cn cs a ccd cl outer A₀ base h₀ L m s Q E B F X N T hk hd hu hret
    refine wpAny_call ?_
    k_dflt kla_enter
    k_steps
    · have e9 : key2 page start e = 0 := if_pos (eq_of_beq (by assumption))
      rw [e9] at hret
      exact hret _ _ _ (by assumption) (less_news (by assumption))
    · have e9 : key2 page start e = 1 := if_neg (ne_of_beq_false (by assumption))
      rw [e9] at hret
      exact hret _ _ _ (by assumption) (less_news (by assumption))
  intro t9 h9 tk9 F9 N9
  try dsimp only
  k_steps
  rename News _ _ _ _ => N1
  simp only [tab_eq] at N1
  refine hret _ _ _ _ _ _ _ _ _ _ _ _ _ _ (by assumption) (cons_news N1 (by k_mem) (cons_news N1 (by k_mem) (cons_news N1 (by k_mem) (cons_news N1 (by k_mem) (pick_news N1 (by kcj_all)))))) ?_ ?_ (by assumption) (by assumption) (by assumption) (by assumption)
  · exact all_of_allLt (And.right (And.right (And.right (And.right (by assumption)))))
  · exact all_of_allLt (And.right (And.right (And.right (And.right (And.right (And.right (by assumption)))))))
theorem found_again (w : World) (page : Str) (tp : Tok) (start : Int) (ts : Tok) (news : List (Addr × Obj)) (c1 c2 : Addr) (o1 o2 : Obj) (v1 v2 : Array Value) (u1 u2 : Tok) (hp : page.length ≤ 50) (h0 : 0 ≤ start) (h1 : start ≤ (page.length : Int))
    (d1 : o1.data = .fields v1) (d2 : v1[1]? = some (.str lamQ u1)) (d3 : o2.data = .fields v2) (d4 : v2[1]? = some (.str lamQ u2)) :
    CtrB w 4 140 67 ((62, tabObj (tab2 c1 c2)) :: (c1, o1) :: (c2, o2) :: news) [.str page tp, .int start ts] [] (fun h₀ L m s Q => ∀ (D : Addr) (t1 t2 : Tok) (c : Nat) (h' : Heap) (tk' : Nat), Fr h₀ L h' m →
      News h₀ L h' ((D, ({ cls := .type "tuple", data := .seq #[.int (foundF page start).1 t1, .int (foundF page start).2 t2] c } : Obj)) :: (62, tabObj (tab2 c1 c2)) :: (c1, o1) :: (c2, o2) :: news) → Q (.ref D) { s with heap := h', toks := tk' }) := by
  w_top off
  k_with_none
  unfold CtrB; k_fill
  intro p loose mean mg mb dp un gd cn cs a ccd cl outer A₀ base h₀ L m s Q E hcd B F X N T hk hd hu hret
  refine wpAny_call ?_
  k_dflt cell_enter
  k_steps
  k_dflt (refine' bk_use (key1 page start) (page.length + 1) ?hkey ?hi ?hn ?h0 ?h1 ?k1 ?k2 ?k3 ?k4 ?k5 ?kK ?km ?kf ?kd ?ku ?_; (case kK => first | exact rfl | assumption); (case k1 => k_asm); (case k2 => k_asm); (case k3 => k_asm); (case k4 => k_asm); (case k5 => k_asm); (case km => k_mem); (case kf => k_mem); (case hi => assumption); (case hn => omega); (case h0 => omega); (case h1 => omega); (case kd => ktr_room); (case ku => ktr_units))
  · repeat (rename Fr _ _ _ _ => F9; clear F9)
    repeat (rename News _ _ _ _ => F9; clear F9)
    repeat (rename Below _ _ _ _ => F9; clear F9)
    repeat (rename Top _ _ _ _ _ _ => F9; clear F9)
    repeat (rename Frag.In _ _ => F9; clear F9)
    unfold KeyOk Ctr
    intro e te e0 e1 p loose mean mg mb dp un gd cn cs a ccd cl outer A₀ base h₀ L m s Q E B F X N T hk hd hu hret
    refine wpAny_call ?_
    k_dflt kla_enter
    k_steps
    · have e9 : key1 page start e = 0 := if_pos (by assumption)
      rw [e9] at hret
      exact hret _ _ _ (by assumption) (less_news (less_news (by assumption)))
    · have e9 : key1 page start e = 1 := if_neg (by assumption)
      rw [e9] at hret
      exact hret _ _ _ (by assumption) (less_news (less_news (by assumption)))
  intro t9 h9 tk9 F9 N9
  try dsimp only
  k_steps
  k_dflt (refine' bk_use (key2 page start) (page.length + 1) ?hkeyb ?hib ?hnb ?h0b ?h1b ?k1b ?k2b ?k3b ?k4b ?k5b ?kKb ?kmb ?kfb ?kdb ?kub ?_; (case kKb => first | exact rfl | assumption); (case k1b => k_asm); (case k2b => k_asm); (case k3b => k_asm); (case k4b => k_asm); (case k5b => k_asm); (case kmb => k_mem); (case kfb => k_mem); (case hib => assumption); (case hnb => omega); (case h0b => omega); (case h1b => omega); (case kdb => ktr_room); (case kub => ktr_units))
  · repeat (rename Fr _ _ _ _ => F9; clear F9)
    repeat (rename News _ _ _ _ => F9; clear F9)
    repeat (rename Below _ _ _ _ => F9; clear F9)
    repeat (rename Top _ _ _ _ _ _ => F9; clear F9)
    repeat (rename Frag.In _ _ => F9; clear F9)
    unfold KeyOk Ctr
    intro e te e0 e1 p loose mean mg mb dp un gd cn cs a ccd cl outer A₀ base h₀ L m s Q E B F X N T hk hd hu hret
    refine wpAny_call ?_
    k_dflt kla_enter
    k_steps
    · have e9 : key2 page start e = 0 := if_pos (eq_of_beq (by assumption))
      rw [e9] at hret
      exact hret _ _ _ (by assumption) (less_news (by assumption))
    · have e9 : key2 page start e = 1 := if_neg (ne_of_beq_false (by assumption))
      rw [e9] at hret
      exact hret _ _ _ (by assumption) (less_news (by assumption))
  intro t9 h9 tk9 F9 N9
  try dsimp only
  k_steps
  rename News _ _ _ _ => N1
  exact hret _ _ _ _ _ _ (by assumption) (cons_news N1 (by k_mem) (pick_news N1 (by kcj_all)))
end Mine
end PartS5
section PartS3
open PySem PySem.W PySem.Spec PySem.Calls PyProof.Rows
set_option maxRecDepth 100000
set_option maxHeartbeats 8000000
namespace Mine
theorem bis_range (g : Int → Bool) (n : Nat) : ∀ (lo hi : Int), (hi - lo).toNat ≤ n → lo ≤ hi → lo ≤ bis g lo hi ∧ bis g lo hi ≤ hi := by
  induction n with
  | zero => intro lo hi h h'; rw [bis_out (by omega)]; omega
  | succ n ih =>
    intro lo hi h h'
    by_cases hl : lo < hi
    · have hm := mid_in hl
      cases hg : g ((lo + hi).fdiv 2) with
      | true => rw [bis_yes hl hg]; have := ih lo ((lo + hi).fdiv 2) (by omega) (by omega); omega
      | false => rw [bis_no hl hg]; have := ih ((lo + hi).fdiv 2 + 1) hi (by omega) (by omega); omega
    · rw [bis_out hl]; omega
/-- the first of the places at x or beyond: its number -/
def blF (ns : List Int) (x : Int) : Int := bis (blG ns x) 0 ns.length
def brF (ns : List Int) (x : Int) : Int := bis (brG ns x) 0 ns.length
theorem blF_range (ns : List Int) (x : Int) : 0 ≤ blF ns x ∧ blF ns x ≤ (ns.length : Int) := bis_range _ _ _ _ (Nat.le_refl _) (by omega)
theorem brF_range (ns : List Int) (x : Int) : 0 ≤ brF ns x ∧ brF ns x ≤ (ns.length : Int) := bis_range _ _ _ _ (Nat.le_refl _) (by omega)
section
variable {w : World} {p : Program} {loose : List Str} {mean : ExcName → Option Value} {mg mb : Str → Option Value} {dp un : Nat} {gd : Option (List Code)} {cn : Str} {cs : Scope} {a : Addr} {ccd : Value} {cl : List (Str × Addr)} {outer : List Env} {A₀ : Around} {base h₀ : Heap} {L : Addr} {m : Str → Option Value} {s : Shared} {Q E : Value → Shared → Prop} {news : List (Addr × Obj)} {l : Addr} {vs : List Value} {ns : List Int} {x : Int} {tx : Tok} {c : Nat}
theorem bl_use (B : Below A₀ base outer h₀) (F : Fr h₀ L s.heap m) (X : (hd.heap_39 w.params).In h₀) (N : News h₀ L s.heap news) (T : Top p loose mean mg mb h₀) (hk : cs.kind = .function)
    (hm : (l, listOf vs.toArray c) ∈ news) (hi : IntsAre vs ns) (hn : ns.length ≤ 100) (hdp : dp + 1 < recursionLimit) (hu : un + 8 < cLine)
    (ret : ∀ (t : Tok) (h' : Heap) (tk' : Nat), Fr h₀ L h' m → News h₀ L h' news → 0 ≤ blF ns x → blF ns x ≤ (ns.length : Int) → Q (.int (blF ns x) t) { s with heap := h', toks := tk' }) :
    wpAny (model PySem.Challenge.rw_ph0047_01.row.prog w) (ktrTop dp un gd cn cs L a ccd cl outer) (call (.ref 39) [.ref l, .int x tx]) Q E s :=
  bl_ctr w l vs ns x tx c news hi hn _ _ _ _ _ _ _ _ _ _ _ _ _ _ _ _ _ _ _ _ _ _ B F X (more_news N hm) T hk hdp hu fun t h' tk' F' N' => ret t h' tk' F' (less_news N') (blF_range ns x).1 (blF_range ns x).2
theorem br_use (B : Below A₀ base outer h₀) (F : Fr h₀ L s.heap m) (X : (hd.heap_39 w.params).In h₀) (N : News h₀ L s.heap news) (T : Top p loose mean mg mb h₀) (hk : cs.kind = .function)
    (hm : (l, listOf vs.toArray c) ∈ news) (hi : IntsAre vs ns) (hn : ns.length ≤ 100) (hdp : dp + 1 < recursionLimit) (hu : un + 8 < cLine)
    (ret : ∀ (t : Tok) (h' : Heap) (tk' : Nat), Fr h₀ L h' m → News h₀ L h' news → 0 ≤ brF ns x → brF ns x ≤ (ns.length : Int) → Q (.int (brF ns x) t) { s with heap := h', toks := tk' }) :
    wpAny (model PySem.Challenge.rw_ph0047_01.row.prog w) (ktrTop dp un gd cn cs L a ccd cl outer) (call (.ref 30) [.ref l, .int x tx]) Q E s :=
  br_ctr w l vs ns x tx c news hi hn _ _ _ _ _ _ _ _ _ _ _ _ _ _ _ _ _ _ _ _ _ _ B F X (more_news N hm) T hk hdp hu fun t h' tk' F' N' => ret t h' tk' F' (less_news N') (brF_range ns x).1 (brF_range ns x).2
end
def nextF (ns : List Int) (x none : Int) : Int := if blF ns x = (ns.length : Int) then none else ns.getD (blF ns x).toNat 0 + 1
local macro_rules | `(tactic| walk_at "call ref") => `(tactic| (k_here; (with_reducible show wpAny _ _ (call (Value.ref 39) [Value.ref _, Value.int _ _]) _ _ _); k_dflt (refine' bl_use ?k1 ?k2 ?k3 ?k4 ?k5 ?kK ?km ?ki ?kn ?kd ?ku ?_; (case kK => first | exact rfl | assumption); (case k1 => k_asm); (case k2 => k_asm); (case k3 => k_asm); (case k4 => k_asm); (case k5 => k_asm); (case km => k_mem); (case ki => l_ints); (case kn => omega); (case kd => ktr_room); (case ku => ktr_units); k_whole); intro t' h' tk' F' N' q1' q2'; (try dsimp only)))
local macro_rules | `(tactic| walk_at "call ref") => `(tactic| (k_here; (with_reducible show wpAny _ _ (call (Value.ref 30) [Value.ref _, Value.int _ _]) _ _ _); k_dflt (refine' br_use ?k1 ?k2 ?k3 ?k4 ?k5 ?kK ?km ?ki ?kn ?kd ?ku ?_; (case kK => first | exact rfl | assumption); (case k1 => k_asm); (case k2 => k_asm); (case k3 => k_asm); (case k4 => k_asm); (case k5 => k_asm); (case km => k_mem); (case ki => l_ints); (case kn => omega); (case kd => ktr_room); (case ku => ktr_units); k_whole); intro t' h' tk' F' N' q1' q2'; (try dsimp only)))
theorem next_ctr (w : World) (l : Addr) (vs : List Value) (ns : List Int) (x none : Int) (tx tn : Tok) (c : Nat) (news : List (Addr × Obj)) (hi : IntsAre vs ns) (hn : ns.length ≤ 100) :
    Ctr w 2 16 53 ((l, listOf vs.toArray c) :: news) [.ref l, .int x tx, .int none tn] [] (fun h₀ L m s Q => ∀ (t : Tok) (h' : Heap) (tk' : Nat), Fr h₀ L h' m → News h₀ L h' ((l, listOf vs.toArray c) :: news) → Q (.int (nextF ns x none) t) { s with heap := h', toks := tk' }) := by
  w_top off
  k_with_none
  unfold Ctr; k_fill
  intro p loose mean mg mb dp un gd cn cs a ccd cl outer A₀ base h₀ L m s Q E B F X N T hk hd hu hret
  refine wpAny_call ?_
  k_dflt cell_enter
  k_steps
  · have e9 : nextF ns x none = none := if_pos (by assumption)
    rw [e9] at hret
    exact hret _ _ _ (by assumption) (by assumption)
  · have e9 : nextF ns x none = ns.getD (blF ns x).toNat 0 + 1 := if_neg (by assumption)
    rw [e9] at hret
    exact hret _ _ _ (by assumption) (by assumption)
section
variable {w : World} {p : Program} {loose : List Str} {mean : ExcName → Option Value} {mg mb : Str → Option Value} {dp un : Nat} {gd : Option (List Code)} {cn : Str} {cs : Scope} {a : Addr} {ccd : Value} {cl : List (Str × Addr)} {outer : List Env} {A₀ : Around} {base h₀ : Heap} {L : Addr} {m : Str → Option Value} {s : Shared} {Q E : Value → Shared → Prop} {news : List (Addr × Obj)} {l : Addr} {vs : List Value} {ns : List Int} {x y : Int} {tx ty : Tok} {c : Nat}
theorem next_use (B : Below A₀ base outer h₀) (F : Fr h₀ L s.heap m) (X : (hd.heap_39 w.params).In h₀) (N : News h₀ L s.heap news) (T : Top p loose mean mg mb h₀) (hk : cs.kind = .function)
    (hm : (l, listOf vs.toArray c) ∈ news) (hi : IntsAre vs ns) (hn : ns.length ≤ 100) (hdp : dp + 2 < recursionLimit) (hu : un + 16 < cLine)
    (ret : ∀ (t : Tok) (h' : Heap) (tk' : Nat), Fr h₀ L h' m → News h₀ L h' news → Q (.int (nextF ns x y) t) { s with heap := h', toks := tk' }) :
    wpAny (model PySem.Challenge.rw_ph0047_01.row.prog w) (ktrTop dp un gd cn cs L a ccd cl outer) (call (.ref 53) [.ref l, .int x tx, .int y ty]) Q E s :=
  next_ctr w l vs ns x y tx ty c news hi hn _ _ _ _ _ _ _ _ _ _ _ _ _ _ _ _ _ _ _ _ _ _ B F X (more_news N hm) T hk hdp hu fun t h' tk' F' N' => ret t h' tk' F' (less_news N')
end
local macro_rules | `(tactic| walk_at "call ref") => `(tactic| (k_here; (with_reducible show wpAny _ _ (call (Value.ref 53) [Value.ref _, Value.int _ _, Value.int _ _]) _ _ _); k_dflt (refine' next_use ?k1 ?k2 ?k3 ?k4 ?k5 ?kK ?km ?ki ?kn ?kd ?ku ?_; (case kK => first | exact rfl | assumption); (case k1 => k_asm); (case k2 => k_asm); (case k3 => k_asm); (case k4 => k_asm); (case k5 => k_asm); (case km => k_mem); (case ki => l_ints); (case kn => omega); (case kd => ktr_room); (case ku => ktr_units); k_whole); intro t' h' tk' F' N'; (try dsimp only)))
/-- what is asked of the two rows -/
structure RowsOk (n : Nat) (fs ns : List Int) : Prop where
  small : n ≤ 50
  fl : fs.length ≤ 100
  nl : ns.length ≤ 100
  rng : ∀ v ∈ ns, 0 ≤ v ∧ v < (n : Int)
  frng : ∀ v ∈ fs, 0 ≤ v ∧ v ≤ (n : Int)
  last : ∀ y, y < (n : Int) → brF fs y < (fs.length : Int)
  more : ∀ k : Int, 0 ≤ k → k < (fs.length : Int) → fs.getD k.toNat 0 < (n : Int) → k + 1 < (fs.length : Int)
  mono : ∀ x y, x ≤ y → blF ns x ≤ blF ns y
def dueF (n : Nat) (fs ns : List Int) (start : Int) : Int × Int :=
  if nextF ns start (n + 1) = n + 1 then (n + 1, n + 1) else (nextF ns start (n + 1), nextF ns (fs.getD (brF fs (nextF ns start (n + 1) - 1)).toNat 0) (n + 1))
theorem due_in {n : Nat} {fs ns : List Int} {start : Int} (R : RowsOk n fs ns) (h : nextF ns start (n + 1) ≠ n + 1) : brF fs (nextF ns start (n + 1) - 1) < (fs.length : Int) := by
  refine R.last _ ?_
  unfold nextF at h ⊢
  have hb := blF_range ns start
  by_cases e : blF ns start = (ns.length : Int)
  · rw [if_pos e] at h; exact absurd rfl h
  · rw [if_neg e]
    have hlt : (blF ns start).toNat < ns.length := by omega
    have hv := R.rng (ns.getD (blF ns start).toNat 0) (by rw [List.getD_eq_getElem?_getD, List.getElem?_eq_getElem hlt]; exact List.getElem_mem hlt)
    omega
theorem due_ctr (w : World) (page : Str) (tp : Tok) (lf ls : Addr) (fvs svs : List Value) (fs ns : List Int) (start : Int) (ts : Tok) (cf cs' : Nat) (news : List (Addr × Obj)) (hf : IntsAre fvs fs) (hi : IntsAre svs ns) (R : RowsOk page.length fs ns) :
    Ctr w 3 24 60 ((lf, listOf fvs.toArray cf) :: (ls, listOf svs.toArray cs') :: news) [.str page tp, .ref lf, .ref ls, .int start ts] [] (fun h₀ L m s Q => ∀ (D : Addr) (t1 t2 : Tok) (c : Nat) (h' : Heap) (tk' : Nat), Fr h₀ L h' m →
      News h₀ L h' ((D, ({ cls := .type "tuple", data := .seq #[.int (dueF page.length fs ns start).1 t1, .int (dueF page.length fs ns start).2 t2] c } : Obj)) :: (lf, listOf fvs.toArray cf) :: (ls, listOf svs.toArray cs') :: news) → (∀ p ∈ news, p.1 < D) → Q (.ref D) { s with heap := h', toks := tk' }) := by
  w_top off
  k_with_none
  unfold Ctr; k_fill
  intro p loose mean mg mb dp un gd cn cs a ccd cl outer A₀ base h₀ L m s Q E B F X N T hk hd hu hret
  have R1 := R.small
  have R2 := R.fl
  have R3 := R.nl
  refine wpAny_call ?_
  k_dflt cell_enter
  k_steps
  · have e9 : dueF page.length fs ns start = ((page.length : Int) + 1, (page.length : Int) + 1) := if_pos (by assumption)
    rw [e9] at hret
    refine hret _ _ _ _ _ _ (by assumption) (by assumption) ?_
    exact all_of_allLt (And.right (And.right (by assumption)))
  · have e9 : dueF page.length fs ns start = (nextF ns start (page.length + 1), nextF ns (fs.getD (brF fs (nextF ns start (page.length + 1) - 1)).toNat 0) (page.length + 1)) := if_neg (by assumption)
    rw [e9] at hret
    have q9 := due_in R (by assumption)
    k_steps
    refine hret _ _ _ _ _ _ (by assumption) (by assumption) ?_
    exact all_of_allLt (And.right (And.right (by assumption)))
end Mine
end PartS3
section PartS4
open PySem PySem.W PySem.Spec PySem.Calls PyProof.Rows
set_option maxRecDepth 100000
set_option maxHeartbeats 8000000
namespace Mine
local macro_rules | `(tactic| walk_at "call ref") => `(tactic| (k_here; (with_reducible show wpAny _ _ (call (Value.ref 39) [Value.ref _, Value.int _ _]) _ _ _); k_dflt (refine' bl_use ?k1 ?k2 ?k3 ?k4 ?k5 ?kK ?km ?ki ?kn ?kd ?ku ?_; (case kK => first | exact rfl | assumption); (case k1 => k_asm); (case k2 => k_asm); (case k3 => k_asm); (case k4 => k_asm); (case k5 => k_asm); (case km => k_mem); (case ki => l_ints); (case kn => omega); (case kd => ktr_room); (case ku => ktr_units); k_whole); intro t' h' tk' F' N' q1' q2'; (try dsimp only)))
local macro_rules | `(tactic| walk_at "call ref") => `(tactic| (k_here; (with_reducible show wpAny _ _ (call (Value.ref 30) [Value.ref _, Value.int _ _]) _ _ _); k_dflt (refine' br_use ?k1 ?k2 ?k3 ?k4 ?k5 ?kK ?km ?ki ?kn ?kd ?ku ?_; (case kK => first | exact rfl | assumption); (case k1 => k_asm); (case k2 => k_asm); (case k3 => k_asm); (case k4 => k_asm); (case k5 => k_asm); (case km => k_mem); (case ki => l_ints); (case kn => omega); (case kd => ktr_room); (case ku => ktr_units); k_whole); intro t' h' tk' F' N' q1' q2'; (try dsimp only)))
theorem getD_mem {ns : List Int} {i : Int} (h0 : 0 ≤ i) (h1 : i < (ns.length : Int)) : ns.getD i.toNat 0 ∈ ns := by
  have hlt : i.toNat < ns.length := by omega
  rw [List.getD_eq_getElem?_getD, List.getElem?_eq_getElem hlt]; exact List.getElem_mem hlt
local macro_rules | `(tactic| k_steps) => `(tactic| repeat' (first | (k_unfold; (try dsimp only)) | (k_end; wrow_close) | (walk1 <;> try dsimp only) | (dsimp only; walk1) | (leave1; walk_say "STEP leave1"; try dsimp only) | fail "no step"))
def toldF (page : Str) (fs ns : List Int) (start stop : Int) : Str × Str :=
  if blF ns start = blF ns stop then (Str.ofString "", Str.ofString "") else
  if ns.getD (blF ns stop - 1).toNat 0 + 1 ≤ fs.getD (brF fs (ns.getD (blF ns start).toNat 0)).toNat 0 then (Txt.slice page (some (ns.getD (blF ns start).toNat 0)) (some (ns.getD (blF ns stop - 1).toNat 0 + 1)), Str.ofString "") else
  if blF ns (fs.getD (brF fs (ns.getD (blF ns start).toNat 0)).toNat 0) < blF ns (fs.getD (brF fs (ns.getD (blF ns start).toNat 0) + 1).toNat 0) then (Str.ofString "", Txt.slice page (some (ns.getD (blF ns start).toNat 0)) (some (ns.getD (blF ns stop - 1).toNat 0 + 1))) else
  (Txt.slice page (some (ns.getD (blF ns start).toNat 0)) (some (fs.getD (brF fs (ns.getD (blF ns start).toNat 0)).toNat 0)), Txt.slice page (some (fs.getD (brF fs (ns.getD (blF ns start).toNat 0) + 1).toNat 0 + 1)) (some (ns.getD (blF ns stop - 1).toNat 0 + 1)))
theorem told_ctr (w : World) (page : Str) (tp : Tok) (lf ls : Addr) (fvs svs : List Value) (fs ns : List Int) (start stop : Int) (ts te : Tok) (cf cs' : Nat) (news : List (Addr × Obj)) (hf : IntsAre fvs fs) (hi : IntsAre svs ns) (R : RowsOk page.length fs ns) (h0 : 0 ≤ start) (h1 : start ≤ stop) (h2 : stop ≤ (page.length : Int)) :
    Ctr w 3 24 46 ((lf, listOf fvs.toArray cf) :: (ls, listOf svs.toArray cs') :: news) [.str page tp, .ref lf, .ref ls, .int start ts, .int stop te] [] (fun h₀ L m s Q => ∀ (D : Addr) (t1 t2 : Tok) (c : Nat) (h' : Heap) (tk' : Nat), Fr h₀ L h' m →
      News h₀ L h' ((D, ({ cls := .type "tuple", data := .seq #[.str (toldF page fs ns start stop).1 t1, .str (toldF page fs ns start stop).2 t2] c } : Obj)) :: (lf, listOf fvs.toArray cf) :: (ls, listOf svs.toArray cs') :: news) → (∀ p ∈ news, p.1 < D) → Q (.ref D) { s with heap := h', toks := tk' }) := by
  w_top off
  k_with_none
  unfold Ctr; k_fill
  intro p loose mean mg mb dp un gd cn cs a ccd cl outer A₀ base h₀ L m s Q E B F X N T hk hd hu hret
  have R1 := R.small
  have R2 := R.fl
  have R3 := R.nl
  have R4 := R.mono start stop h1
  refine wpAny_call ?_
  k_dflt cell_enter
  k_steps
  · have e9 : toldF page fs ns start stop = (Str.ofString "", Str.ofString "") := if_pos (by assumption)
    rw [e9] at hret
    refine hret _ _ _ _ _ _ (by assumption) (by assumption) ?_
    exact all_of_allLt (And.right (And.right (by assumption)))
  · have hne : blF ns start ≠ blF ns stop := by assumption
    have b1 := blF_range ns start
    have b2 := blF_range ns stop
    have g1 := R.rng _ (getD_mem (ns := ns) (i := blF ns start) (by omega) (by omega))
    have g2 := R.rng _ (getD_mem (ns := ns) (i := blF ns stop - 1) (by omega) (by omega))
    have q9 := R.last _ g1.2
    try dsimp only at *
    k_steps
    · have e9 : toldF page fs ns start stop = (Txt.slice page (some (ns.getD (blF ns start).toNat 0)) (some (ns.getD (blF ns stop - 1).toNat 0 + 1)), Str.ofString "") := (if_neg hne).trans (if_pos (by assumption))
      rw [e9] at hret
      refine hret _ _ _ _ _ _ (by assumption) (by assumption) ?_
      exact all_of_allLt (And.right (And.right (by assumption)))
    · have hn2 : ¬ ns.getD (blF ns stop - 1).toNat 0 + 1 ≤ fs.getD (brF fs (ns.getD (blF ns start).toNat 0)).toNat 0 := by assumption
      have q8 := R.more (brF fs (ns.getD (blF ns start).toNat 0)) (brF_range fs _).1 q9 (by omega)
      have g3 := R.frng _ (getD_mem (ns := fs) (i := brF fs (ns.getD (blF ns start).toNat 0)) (brF_range fs _).1 q9)
      have g4 := R.frng _ (getD_mem (ns := fs) (i := brF fs (ns.getD (blF ns start).toNat 0) + 1) (by have := (brF_range fs (ns.getD (blF ns start).toNat 0)).1; omega) q8)
      try dsimp only at *
      k_steps
      · have e9 : toldF page fs ns start stop = (Str.ofString "", Txt.slice page (some (ns.getD (blF ns start).toNat 0)) (some (ns.getD (blF ns stop - 1).toNat 0 + 1))) := (if_neg hne).trans ((if_neg hn2).trans (if_pos (by assumption)))
        rw [e9] at hret
        refine hret _ _ _ _ _ _ (by assumption) (by assumption) ?_
        exact all_of_allLt (And.right (And.right (by assumption)))
      · have e9 : toldF page fs ns start stop = (Txt.slice page (some (ns.getD (blF ns start).toNat 0)) (some (fs.getD (brF fs (ns.getD (blF ns start).toNat 0)).toNat 0)), Txt.slice page (some (fs.getD (brF fs (ns.getD (blF ns start).toNat 0) + 1).toNat 0 + 1)) (some (ns.getD (blF ns stop - 1).toNat 0 + 1))) := (if_neg hne).trans ((if_neg hn2).trans (if_neg (by assumption)))
        rw [e9] at hret
        refine hret _ _ _ _ _ _ (by assumption) (by assumption) ?_
        exact all_of_allLt (And.right (And.right (by assumption)))
end Mine
end PartS4
section PartR1
open PySem PySem.W PySem.Spec PySem.Calls PyProof.Rows PyProof.V
set_option maxRecDepth 100000
set_option maxHeartbeats 1000000
namespace Mine
def LpEnd (h₀ : Heap) (L : Addr) (x y : Str) (m₀ : Str → Option Value) (P : List (Addr × Obj) → Prop) (I : Addr) (own : List (Addr × Obj)) (s₁ s₂ : Shared) : Prop :=
  ∃ h' tk' m' news', s₂ = { s₁ with heap := h', toks := tk' } ∧ Fr h₀ L h' m' ∧ (∀ z, z ≠ x → z ≠ y → m' z = m₀ z) ∧ News h₀ L h' (news' ++ own) ∧ (∀ p ∈ news', p.1 ≠ I) ∧ P news'
def LpPost (h₀ : Heap) (L : Addr) (x y : Str) (m₀ : Str → Option Value) (P : List (Addr × Obj) → Prop) (I : Addr) (own : List (Addr × Obj)) (s₁ : Shared) (Q : Flow → Shared → Prop) (f : Flow) (s₂ : Shared) : Prop :=
  match f with
  | .ret v => Q (.ret v) s₂
  | .brk => Q .next s₂
  | _ => LpEnd h₀ L x y m₀ P I own s₁ s₂
theorem LpEnd.intro {h₀ h' : Heap} {L : Addr} {x y : Str} {m₀ m' : Str → Option Value} {P : List (Addr × Obj) → Prop} {I : Addr} {own : List (Addr × Obj)} {s₁ : Shared} {tk' : Nat} (news' : List (Addr × Obj))
    (F : Fr h₀ L h' m') (hm : ∀ z, z ≠ x → z ≠ y → m' z = m₀ z) (N : News h₀ L h' (news' ++ own)) (ho : ∀ p ∈ news', p.1 ≠ I) (hP : P news') : LpEnd h₀ L x y m₀ P I own s₁ { s₁ with heap := h', toks := tk' } :=
  ⟨h', tk', m', news', rfl, F, hm, N, ho, hP⟩
section
variable {prog : Program} {w : World} {A : Around} {E : Value → Shared → Prop} {s : Shared} {env : Env} {h₀ : Heap} {x y : Str} {body : List Stmt} {Q : Flow → Shared → Prop}
theorem range_loop {r : Addr} {a₀ b₀ : Int} {t₀ u₀ v₀ : Tok} {n : Nat} {m₀ : Str → Option Value} {news : List (Addr × Obj)} (y : Str) (P : List (Addr × Obj) → Prop)
    (hh : A.handled = none) (hr : IsRange s.heap r a₀ b₀ 1 t₀ u₀ v₀) (hsmall : Builtin.Range.small a₀ b₀ 1 = true) (hn : Builtin.Range.rangeSize a₀ b₀ 1 = (n : Int)) (F : Fr h₀ env.locals s.heap m₀) (N : News h₀ env.locals s.heap news) (hp : P news)
    (turn : ∀ (i : Nat) (t : Tok) (u : Str → Option Value) (nx : List (Addr × Obj)) (h : Heap) (tk : Nat) (I : Addr) (own : List (Addr × Obj)), i < n → P nx → (∃ oI, (I, oI) ∈ own) → (∀ p ∈ own, p.1 = I) → (∀ p ∈ nx, p.1 ≠ I) →
      Fr h₀ env.locals h (fun z => if z = x then some (.int (a₀ + (i : Int)) t) else if z = y then u z else m₀ z) → News h₀ env.locals h (nx ++ own) →
      wpAny (model prog w) A (execs body env) (LpPost h₀ env.locals x y m₀ P I own { s with heap := h, toks := tk } Q) E { s with heap := h, toks := tk })
    (done : ∀ (u : Str → Option Value) (nx : List (Addr × Obj)) (h : Heap) (tk : Nat), P nx → Fr h₀ env.locals h (fun z => if z = x then u z else if z = y then u z else m₀ z) → News h₀ env.locals h nx → Q .next { s with heap := h, toks := tk }) :
    wpAny (model prog w) A (pyIter (.ref r)) (fun it s₂ => LoopAtV prog w A h₀ env x body Q E it s₂) E s := by
  refine wpAny_pyIter_range hr hsmall ?_
  have W : Walks prog w A s.heap.objs.size [s.heap.objs.size] [s.heap.objs.size] n (fun i v => i < n ∧ ∃ t, v = .int (a₀ + i * 1) t)
      (fun i h => IsRangeIter h s.heap.objs.size (a₀ + (i : Nat) * 1) ((n : Int) - (i : Nat)) 1) := (Walks.range hh _ a₀ 1 n).bound
  refine ⟨_, _, _, n, _, _, m₀, news, fun _ m₁ nx => (∀ z, z ≠ x → z ≠ y → m₁ z = m₀ z) ∧ P nx, rfl, W, ?_, ?_, ?_, (by show IsRangeIter _ _ _ _ _; rw [hn]; simpa using Heap.get?_push_size _ rfl), F.push _, (fun p hp => ⟨Heap.get?_push_of_some _ (N p hp).1, (N p hp).2⟩), ⟨fun _ _ _ => rfl, hp⟩, ?_, ?_⟩
  · intro hm
    exact absurd F.ns.lt ((List.mem_singleton.mp hm) ▸ Nat.lt_irrefl _)
  · intro b hb
    rw [List.mem_singleton.mp hb]
    exact next_is_new F
  · intro p hp hI
    exact absurd (Heap.lt_size (N p hp).1) ((List.mem_singleton.mp hI) ▸ Nat.lt_irrefl _)
  · rintro i v m₁ nx s₁ own ⟨hh', tk', rfl⟩ hin ⟨_, t, rfl⟩ ⟨hm, hP⟩ hoff hown _ hfull hst F₁ N₁
    have e1 : a₀ + (i : Int) * 1 = a₀ + (i : Int) := by omega
    rw [e1] at F₁
    have em : (fun z => if z = x then some (Value.int (a₀ + (i : Int)) t) else m₁ z) = fun z => if z = x then some (Value.int (a₀ + (i : Int)) t) else if z = y then m₁ z else m₀ z := by
      funext z
      by_cases h1 : z = x
      · simp [h1]
      · simp only [if_neg h1]
        by_cases h2 : z = y
        · simp [h2]
        · simp only [if_neg h2]; exact hm z h1 h2
    rw [em] at F₁
    have hI : ∃ oI, (s.heap.objs.size, oI) ∈ own := ⟨_, hfull _ (List.mem_singleton.mpr rfl) (next_is_new F) _ hst⟩
    have N₂ : News h₀ env.locals hh' (nx ++ own) := fun p hp => N₁ p ((List.mem_append.mp hp).elim (fun h => List.mem_append.mpr (.inr h)) fun h => List.mem_append.mpr (.inl h))
    refine wpAny_mono (turn i t m₁ nx hh' tk' s.heap.objs.size own hin hP hI (fun p hp => List.mem_singleton.mp (hown p hp)) (fun p hp e => hoff p hp (List.mem_singleton.mpr e)) F₁ N₂) (fun f s₂ p => ?_) fun _ _ e => e
    have fin : LpEnd h₀ env.locals x y m₀ P s.heap.objs.size own { s with heap := hh', toks := tk' } s₂ → LoopStepU h₀ env.locals [s.heap.objs.size] own (fun m₁ nx => (∀ z, z ≠ x → z ≠ y → m₁ z = m₀ z) ∧ P nx) { s with heap := hh', toks := tk' } .next s₂ := by
      rintro ⟨h', tk, m', news', e, F', hm', N', ho, hP'⟩
      exact ⟨rfl, h', tk, m', news', e, F', fun p hp => N' p ((List.mem_append.mp hp).elim (fun h => List.mem_append.mpr (.inr h)) fun h => List.mem_append.mpr (.inl h)), fun p hp hq => ho p hp (List.mem_singleton.mp hq), hm', hP'⟩
    cases f with
    | ret v => exact .ret p
    | brk => exact .brk p
    | next => exact .next (fin p)
    | cont => exact .cont (fin p)
  · rintro h' tk m' nx F' N' _ ⟨hm, hP⟩
    refine done m' nx h' tk hP ?_ N'
    have em : (fun z => if z = x then m' z else if z = y then m' z else m₀ z) = m' := by
      funext z
      by_cases h1 : z = x
      · simp [h1]
      · simp only [if_neg h1]
        by_cases h2 : z = y
        · simp [h2]
        · simp only [if_neg h2]; exact (hm z h1 h2).symm
    rw [em]
    exact F'
end
def TabOk (ps : Array Value) (cds : List (Addr × Obj)) : Prop :=
  (ps = #[] ∧ cds = []) ∨ ∃ (c1 c2 : Addr) (o1 o2 : Obj) (v1 v2 : Array Value) (u1 u2 : Tok), ps = tab2 c1 c2 ∧ cds = [(c1, o1), (c2, o2)] ∧ o1.data = .fields v1 ∧ v1[1]? = some (.str lamQ u1) ∧ o2.data = .fields v2 ∧ v2[1]? = some (.str lamQ u2)
section
variable {w : World} {p : Program} {loose : List Str} {mean : ExcName → Option Value} {mg mb : Str → Option Value} {dp un : Nat} {gd : Option (List Code)} {cn : Str} {cs : Scope} {a : Addr} {ccd : Value} {cl : List (Str × Addr)} {outer : List Env} {A₀ : Around} {base h₀ : Heap} {L : Addr} {m : Str → Option Value} {s : Shared} {Q E : Value → Shared → Prop}
theorem found_use {page : Str} {tp : Tok} {start : Int} {ts : Tok} {fx own cds : List (Addr × Obj)} {ps : Array Value} (hp : page.length ≤ 50) (h0 : 0 ≤ start) (h1 : start ≤ (page.length : Int)) (ht : TabOk ps cds) (h62 : ∀ q ∈ fx ++ own, q.1 ≠ 62)
    (C : CodeHd base 66 62) (B : Below A₀ base outer h₀) (F : Fr h₀ L s.heap m) (X : (hd.heap_39 w.params).In h₀) (N : News h₀ L s.heap (fx ++ (62, tabObj ps) :: (cds ++ own))) (T : Top p loose mean mg mb h₀) (hk : cs.kind = .function)
    (hdp : dp + 4 < recursionLimit) (hu : un + 140 < cLine)
    (ret : ∀ (D : Addr) (t1 t2 : Tok) (c : Nat) (h' : Heap) (tk' : Nat) (ps' : Array Value) (cds' : List (Addr × Obj)), TabOk ps' cds' → (cds' = cds ∨ ∀ q ∈ fx ++ own, ∀ r ∈ cds', q.1 < r.1) → Fr h₀ L h' m →
      News h₀ L h' ((D, ({ cls := .type "tuple", data := .seq #[.int (foundF page start).1 t1, .int (foundF page start).2 t2] c } : Obj)) :: (fx ++ (62, tabObj ps') :: (cds' ++ own))) → Q (.ref D) { s with heap := h', toks := tk' }) :
    wpAny (model PySem.Challenge.rw_ph0047_01.row.prog w) (ktrTop dp un gd cn cs L a ccd cl outer) (call (.ref 67) [.str page tp, .int start ts]) Q E s := by
  rcases ht with ⟨rfl, rfl⟩ | ⟨c1, c2, o1, o2, v1, v2, u1, u2, rfl, rfl, d1, d2, d3, d4⟩
  · refine found_first w page tp start ts (fx ++ own) hp h0 h1 h62 _ _ _ _ _ _ _ _ _ _ _ _ _ _ _ _ _ _ _ _ _ _ C B F X (pick_news N fun q hq => ?_) T hk hdp hu fun D t1 t2 c h' tk' c1 c2 o1 o2 v1 v2 u1 u2 F' N' l1 l2 d1 d2 d3 d4 => ret D t1 t2 c h' tk' (tab2 c1 c2) [(c1, o1), (c2, o2)] (.inr ⟨c1, c2, o1, o2, v1, v2, u1, u2, rfl, rfl, d1, d2, d3, d4⟩) (.inr fun q hq r hr => ?_) F' (pick_news N' fun q hq => ?_)
    · simp only [List.mem_cons, List.mem_append, List.nil_append] at hq ⊢
      rcases hq with h | h | h <;> simp [h]
    · simp only [List.mem_cons, List.not_mem_nil, or_false] at hr
      rcases hr with rfl | rfl
      · exact l1 q hq
      · exact l2 q hq
    · simp only [List.mem_cons, List.mem_append, List.not_mem_nil, or_false] at hq ⊢
      rcases hq with h | h | h | (h | h) | h <;> simp [h]
  · refine found_again w page tp start ts (fx ++ own) c1 c2 o1 o2 v1 v2 u1 u2 hp h0 h1 d1 d2 d3 d4 _ _ _ _ _ _ _ _ _ _ _ _ _ _ _ _ _ _ _ _ _ _ C B F X (pick_news N fun q hq => ?_) T hk hdp hu fun D t1 t2 c h' tk' F' N' => ret D t1 t2 c h' tk' (tab2 c1 c2) [(c1, o1), (c2, o2)] (.inr ⟨c1, c2, o1, o2, v1, v2, u1, u2, rfl, rfl, d1, d2, d3, d4⟩) (.inl rfl) F' (pick_news N' fun q hq => ?_)
    · simp only [List.mem_cons, List.mem_append, List.not_mem_nil, or_false] at hq ⊢
      rcases hq with h | h | h | h | h <;> simp [h]
    · simp only [List.mem_cons, List.mem_append, List.not_mem_nil, or_false] at hq ⊢
      rcases hq with h | h | h | (h | h) | h <;> simp [h]
end
end Mine
end PartR1
section PartR2
open PySem PySem.W PySem.Spec PySem.Calls PyProof.Rows PyProof.V
set_option maxRecDepth 100000
set_option maxHeartbeats 1000000
namespace Mine
section
variable {prog : Program} {w : World} {A : Around} {E : Value → Shared → Prop} {s : Shared} {env : Env} {h₀ : Heap} {x y : Str} {body : List Stmt} {Q : Flow → Shared → Prop}
theorem outer_rule {r : Addr} {a₀ b₀ : Int} {t₀ u₀ v₀ : Tok} {n : Nat} {m₀ : Str → Option Value} {a b c : Addr × Obj} (y : Str)
    (hh : A.handled = none) (hr : IsRange s.heap r a₀ b₀ 1 t₀ u₀ v₀) (hsmall : Builtin.Range.small a₀ b₀ 1 = true) (hn : Builtin.Range.rangeSize a₀ b₀ 1 = (n : Int)) (F : Fr h₀ env.locals s.heap m₀) (N : News h₀ env.locals s.heap [a, b, c, (62, tabObj #[])])
    (turn : ∀ (i : Nat) (t : Tok) (u : Str → Option Value) (ps : Array Value) (cds : List (Addr × Obj)) (h : Heap) (tk : Nat) (I : Addr) (own : List (Addr × Obj)), i < n → TabOk ps cds → (∃ oI, (I, oI) ∈ own) → (∀ p ∈ own, p.1 = I) → (∀ p ∈ a :: b :: c :: (62, tabObj ps) :: cds, p.1 ≠ I) →
      Fr h₀ env.locals h (fun z => if z = x then some (.int (a₀ + (i : Int)) t) else if z = y then u z else m₀ z) → News h₀ env.locals h (a :: b :: c :: (62, tabObj ps) :: (cds ++ own)) →
      wpAny (model prog w) A (execs body env) (LpPost h₀ env.locals x y m₀ (fun nx => ∃ ps cds, TabOk ps cds ∧ nx = a :: b :: c :: (62, tabObj ps) :: cds) I own { s with heap := h, toks := tk } Q) E { s with heap := h, toks := tk })
    (done : ∀ (u : Str → Option Value) (ps : Array Value) (cds : List (Addr × Obj)) (h : Heap) (tk : Nat), TabOk ps cds → Fr h₀ env.locals h (fun z => if z = x then u z else if z = y then u z else m₀ z) → News h₀ env.locals h (a :: b :: c :: (62, tabObj ps) :: cds) → Q .next { s with heap := h, toks := tk }) :
    wpAny (model prog w) A (pyIter (.ref r)) (fun it s₂ => LoopAtV prog w A h₀ env x body Q E it s₂) E s := by
  refine range_loop y (fun nx => ∃ ps cds, TabOk ps cds ∧ nx = a :: b :: c :: (62, tabObj ps) :: cds) hh hr hsmall hn F N ⟨#[], [], .inl ⟨rfl, rfl⟩, rfl⟩ ?_ ?_
  · rintro i t u nx h tk I own hi ⟨ps, cds, ht, rfl⟩ hI ho hne F' N'
    exact turn i t u ps cds h tk I own hi ht hI ho hne F' N'
  · rintro u nx h tk ⟨ps, cds, ht, rfl⟩ F' N'
    exact done u ps cds h tk ht F' N'
theorem inner_rule {r : Addr} {a₀ b₀ : Int} {t₀ u₀ v₀ : Tok} {n : Nat} {m₀ : Str → Option Value} (led : List (Addr × Obj))
    (hh : A.handled = none) (hr : IsRange s.heap r a₀ b₀ 1 t₀ u₀ v₀) (hsmall : Builtin.Range.small a₀ b₀ 1 = true) (hn : Builtin.Range.rangeSize a₀ b₀ 1 = (n : Int)) (F : Fr h₀ env.locals s.heap m₀) (N : News h₀ env.locals s.heap led)
    (turn : ∀ (i : Nat) (t : Tok) (u : Str → Option Value) (h : Heap) (tk : Nat) (I : Addr) (own : List (Addr × Obj)), i < n → (∀ p ∈ led, p.1 ≠ I) →
      Fr h₀ env.locals h (fun z => if z = x then some (.int (a₀ + (i : Int)) t) else if z = x then u z else m₀ z) → News h₀ env.locals h (led ++ own) →
      wpAny (model prog w) A (execs body env) (LpPost h₀ env.locals x x m₀ (fun nx => nx = led) I own { s with heap := h, toks := tk } Q) E { s with heap := h, toks := tk })
    (done : ∀ (u : Str → Option Value) (h : Heap) (tk : Nat), Fr h₀ env.locals h (fun z => if z = x then u z else if z = x then u z else m₀ z) → News h₀ env.locals h led → Q .next { s with heap := h, toks := tk }) :
    wpAny (model prog w) A (pyIter (.ref r)) (fun it s₂ => LoopAtV prog w A h₀ env x body Q E it s₂) E s := by
  refine range_loop x (fun nx => nx = led) hh hr hsmall hn F N rfl ?_ ?_
  · rintro i t u nx h tk I own hi rfl _ _ hne F' N'
    exact turn i t u h tk I own hi hne F' N'
  · rintro u nx h tk rfl F' N'
    exact done u h tk F' N'
theorem inner_rule4 {r : Addr} {a₀ b₀ : Int} {t₀ u₀ v₀ : Tok} {n : Nat} {m₀ : Str → Option Value} {a b c d : Addr × Obj} {tl : List (Addr × Obj)}
    (hh : A.handled = none) (hr : IsRange s.heap r a₀ b₀ 1 t₀ u₀ v₀) (hsmall : Builtin.Range.small a₀ b₀ 1 = true) (hn : Builtin.Range.rangeSize a₀ b₀ 1 = (n : Int)) (F : Fr h₀ env.locals s.heap m₀) (N : News h₀ env.locals s.heap (a :: b :: c :: d :: tl))
    (turn : ∀ (i : Nat) (t : Tok) (u : Str → Option Value) (h : Heap) (tk : Nat) (I : Addr) (own : List (Addr × Obj)), i < n → (∀ p ∈ a :: b :: c :: d :: tl, p.1 ≠ I) →
      Fr h₀ env.locals h (fun z => if z = x then some (.int (a₀ + (i : Int)) t) else if z = x then u z else m₀ z) → News h₀ env.locals h (a :: b :: c :: d :: (tl ++ own)) →
      wpAny (model prog w) A (execs body env) (LpPost h₀ env.locals x x m₀ (fun nx => nx = a :: b :: c :: d :: tl) I own { s with heap := h, toks := tk } Q) E { s with heap := h, toks := tk })
    (done : ∀ (u : Str → Option Value) (h : Heap) (tk : Nat), Fr h₀ env.locals h (fun z => if z = x then u z else if z = x then u z else m₀ z) → News h₀ env.locals h (a :: b :: c :: d :: tl) → Q .next { s with heap := h, toks := tk }) :
    wpAny (model prog w) A (pyIter (.ref r)) (fun it s₂ => LoopAtV prog w A h₀ env x body Q E it s₂) E s :=
  inner_rule (a :: b :: c :: d :: tl) hh hr hsmall hn F N turn done
theorem inner_end {L : Addr} {h' : Heap} {m₀ u : Str → Option Value} {v : Option Value} {a b c d : Addr × Obj} {tl own nw : List (Addr × Obj)} {I : Addr} {tk' : Nat} {Q : Flow → Shared → Prop}
    (F : Fr h₀ L h' (fun z => if z = x then v else if z = x then u z else m₀ z)) (N : News h₀ L h' nw) (hs : ∀ p ∈ a :: b :: c :: d :: (tl ++ own), p ∈ nw) (hne : ∀ p ∈ a :: b :: c :: d :: tl, p.1 ≠ I) :
    LpPost h₀ L x x m₀ (fun nx => nx = a :: b :: c :: d :: tl) I own s Q .next { s with heap := h', toks := tk' } :=
  LpEnd.intro (a :: b :: c :: d :: tl) F (fun z h _ => by simp only [if_neg h]) (pick_news N hs) hne rfl
theorem outer_end {L : Addr} {h' : Heap} {m₀ u u' : Str → Option Value} {v : Option Value} {a b c : Addr × Obj} {cds cds' own : List (Addr × Obj)} {ps ps' : Array Value} {I : Addr} {tk' : Nat} {Q : Flow → Shared → Prop}
    (F : Fr h₀ L h' (fun z => if z = y then u z else if z = y then u z else if z = x then v else if z = y then u' z else m₀ z)) (N : News h₀ L h' (a :: b :: c :: (62, tabObj ps') :: (cds' ++ own))) (ht : TabOk ps' cds')
    (hc : cds' = cds ∨ ∀ q ∈ a :: b :: c :: own, ∀ r ∈ cds', q.1 < r.1) (hI : ∃ oI, (I, oI) ∈ own) (hne : ∀ p ∈ a :: b :: c :: (62, tabObj ps) :: cds, p.1 ≠ I) :
    LpPost h₀ L x y m₀ (fun nx => ∃ ps cds, TabOk ps cds ∧ nx = a :: b :: c :: (62, tabObj ps) :: cds) I own s Q .next { s with heap := h', toks := tk' } := by
  refine LpEnd.intro (a :: b :: c :: (62, tabObj ps') :: cds') F (fun z h1 h2 => by simp only [if_neg h1, if_neg h2]) N (fun p hp => ?_) ⟨_, _, ht, rfl⟩
  simp only [List.mem_cons] at hp
  rcases hp with rfl | rfl | rfl | rfl | hp
  · exact hne _ (by simp)
  · exact hne _ (by simp)
  · exact hne _ (by simp)
  · exact hne (62, tabObj ps) (by simp)
  · rcases hc with rfl | hc
    · exact hne _ (by simp [hp])
    · obtain ⟨oI, hI⟩ := hI
      have := hc _ (List.mem_cons_of_mem _ (List.mem_cons_of_mem _ (List.mem_cons_of_mem _ hI))) p hp
      exact Nat.ne_of_gt this
end
section
variable {w : World} {p : Program} {loose : List Str} {mean : ExcName → Option Value} {mg mb : Str → Option Value} {dp un : Nat} {gd : Option (List Code)} {cn : Str} {cs : Scope} {a : Addr} {ccd : Value} {cl : List (Str × Addr)} {outer : List Env} {A₀ : Around} {base h₀ : Heap} {L : Addr} {m : Str → Option Value} {s : Shared} {Q E : Value → Shared → Prop}
theorem found_use3 {page : Str} {tp : Tok} {start : Int} {ts : Tok} {x y z : Addr × Obj} {own cds : List (Addr × Obj)} {ps : Array Value} (ht : TabOk ps cds) (hp : page.length ≤ 9) (h0 : 0 ≤ start) (h1 : start ≤ (page.length : Int)) (h62 : ∀ q ∈ x :: y :: z :: own, q.1 ≠ 62)
    (C : CodeHd base 66 62) (B : Below A₀ base outer h₀) (F : Fr h₀ L s.heap m) (X : (hd.heap_39 w.params).In h₀) (N : News h₀ L s.heap (x :: y :: z :: (62, tabObj ps) :: (cds ++ own))) (T : Top p loose mean mg mb h₀) (hk : cs.kind = .function)
    (hdp : dp + 4 < recursionLimit) (hu : un + 140 < cLine)
    (ret : ∀ (D : Addr) (t1 t2 : Tok) (c : Nat) (h' : Heap) (tk' : Nat) (ps' : Array Value) (cds' : List (Addr × Obj)), TabOk ps' cds' → (cds' = cds ∨ ∀ q ∈ x :: y :: z :: own, ∀ r ∈ cds', q.1 < r.1) → Fr h₀ L h' m →
      News h₀ L h' ((D, ({ cls := .type "tuple", data := .seq #[.int (foundF page start).1 t1, .int (foundF page start).2 t2] c } : Obj)) :: x :: y :: z :: (62, tabObj ps') :: (cds' ++ own)) → Q (.ref D) { s with heap := h', toks := tk' }) :
    wpAny (model PySem.Challenge.rw_ph0047_01.row.prog w) (ktrTop dp un gd cn cs L a ccd cl outer) (call (.ref 67) [.str page tp, .int start ts]) Q E s :=
  found_use (fx := [x, y, z]) (by omega) h0 h1 ht h62 C B F X N T hk hdp hu ret
theorem due_use {page : Str} {tp : Tok} {lf ls : Addr} {fvs svs : List Value} {fs ns : List Int} {start : Int} {ts : Tok} {cf cs' : Nat} {news : List (Addr × Obj)} (hf : IntsAre fvs fs) (hi : IntsAre svs ns) (R : RowsOk page.length fs ns)
    (B : Below A₀ base outer h₀) (F : Fr h₀ L s.heap m) (X : (hd.heap_39 w.params).In h₀) (N : News h₀ L s.heap news) (T : Top p loose mean mg mb h₀) (hk : cs.kind = .function) (hm1 : (lf, listOf fvs.toArray cf) ∈ news) (hm2 : (ls, listOf svs.toArray cs') ∈ news)
    (hdp : dp + 3 < recursionLimit) (hu : un + 24 < cLine)
    (ret : ∀ (D : Addr) (t1 t2 : Tok) (c : Nat) (h' : Heap) (tk' : Nat), Fr h₀ L h' m →
      News h₀ L h' ((D, ({ cls := .type "tuple", data := .seq #[.int (dueF page.length fs ns start).1 t1, .int (dueF page.length fs ns start).2 t2] c } : Obj)) :: news) → Q (.ref D) { s with heap := h', toks := tk' }) :
    wpAny (model PySem.Challenge.rw_ph0047_01.row.prog w) (ktrTop dp un gd cn cs L a ccd cl outer) (call (.ref 60) [.str page tp, .ref lf, .ref ls, .int start ts]) Q E s :=
  due_ctr w page tp lf ls fvs svs fs ns start ts cf cs' news hf hi R _ _ _ _ _ _ _ _ _ _ _ _ _ _ _ _ _ _ _ _ _ _ B F X (two_news N hm1 hm2) T hk hdp hu fun D t1 t2 c h' tk' F' N' _ => ret D t1 t2 c h' tk' F' (pick_news N' fun q hq => by
    rcases List.mem_cons.mp hq with h | h
    · exact h ▸ .head _
    · exact .tail _ (.tail _ (.tail _ h)))
theorem told_use {page : Str} {tp : Tok} {lf ls : Addr} {fvs svs : List Value} {fs ns : List Int} {start stop : Int} {ts te : Tok} {cf cs' : Nat} {news : List (Addr × Obj)} (hf : IntsAre fvs fs) (hi : IntsAre svs ns) (R : RowsOk page.length fs ns) (h0 : 0 ≤ start) (h1 : start ≤ stop) (h2 : stop ≤ (page.length : Int))
    (B : Below A₀ base outer h₀) (F : Fr h₀ L s.heap m) (X : (hd.heap_39 w.params).In h₀) (N : News h₀ L s.heap news) (T : Top p loose mean mg mb h₀) (hk : cs.kind = .function) (hm1 : (lf, listOf fvs.toArray cf) ∈ news) (hm2 : (ls, listOf svs.toArray cs') ∈ news)
    (hdp : dp + 3 < recursionLimit) (hu : un + 24 < cLine)
    (ret : ∀ (D : Addr) (t1 t2 : Tok) (c : Nat) (h' : Heap) (tk' : Nat), Fr h₀ L h' m →
      News h₀ L h' ((D, ({ cls := .type "tuple", data := .seq #[.str (toldF page fs ns start stop).1 t1, .str (toldF page fs ns start stop).2 t2] c } : Obj)) :: news) → Q (.ref D) { s with heap := h', toks := tk' }) :
    wpAny (model PySem.Challenge.rw_ph0047_01.row.prog w) (ktrTop dp un gd cn cs L a ccd cl outer) (call (.ref 46) [.str page tp, .ref lf, .ref ls, .int start ts, .int stop te]) Q E s :=
  told_ctr w page tp lf ls fvs svs fs ns start stop ts te cf cs' news hf hi R h0 h1 h2 _ _ _ _ _ _ _ _ _ _ _ _ _ _ _ _ _ _ _ _ _ _ B F X (two_news N hm1 hm2) T hk hdp hu fun D t1 t2 c h' tk' F' N' _ => ret D t1 t2 c h' tk' F' (pick_news N' fun q hq => by
    rcases List.mem_cons.mp hq with h | h
    · exact h ▸ .head _
    · exact .tail _ (.tail _ (.tail _ h)))
end
section
variable {prog : Program} {w : World} {A : Around} {E : Value → Shared → Prop} {s : Shared} {h₀ : Heap} {L a b : Addr} {news : List (Addr × Obj)} {Q : Value → Shared → Prop} {x1 x2 y1 y2 : Str} {i1 i2 j1 j2 : Int} {t1 t2 u1 u2 : Tok} {c d : Nat}
theorem ne_sameS (N : News h₀ L s.heap news) (ha : (a, ({ cls := .type "tuple", data := .seq #[.str x1 t1, .str x2 t2] c } : Obj)) ∈ news) (hb : (b, ({ cls := .type "tuple", data := .seq #[.str y1 u1, .str y2 u2] d } : Obj)) ∈ news)
    (e : (x1, x2) = (y1, y2)) (hu : A.units + 64 < cLine) (h : Q (.bool false) s) : wpAny (model prog w) A (compareOp .NotEq (.ref a) (.ref b)) Q E s :=
  ne_tupS N ha hb hu (by rw [decide_eq_true e]; exact h)
theorem ne_sameI (N : News h₀ L s.heap news) (ha : (a, ({ cls := .type "tuple", data := .seq #[.int i1 t1, .int i2 t2] c } : Obj)) ∈ news) (hb : (b, ({ cls := .type "tuple", data := .seq #[.int j1 u1, .int j2 u2] d } : Obj)) ∈ news)
    (e : (i1, i2) = (j1, j2)) (hu : A.units + 64 < cLine) (h : Q (.bool false) s) : wpAny (model prog w) A (compareOp .NotEq (.ref a) (.ref b)) Q E s :=
  ne_tupI N ha hb hu (by rw [decide_eq_true e]; exact h)
end
end Mine
end PartR2
section PartQ1
open PySem PySem.W PySem.Spec PySem.Calls PyProof.Rows
set_option maxRecDepth 100000
set_option maxHeartbeats 1000000
namespace Mine
/-- the halving search finds the first place of a test that stays true -/
theorem bis_spec (g : Int → Bool) (n : Nat) : ∀ (lo hi : Int), (hi - lo).toNat ≤ n → lo ≤ hi → (∀ i j, lo ≤ i → i ≤ j → j < hi → g i = true → g j = true) →
    (∀ i, lo ≤ i → i < bis g lo hi → g i = false) ∧ (bis g lo hi < hi → g (bis g lo hi) = true) := by
  induction n with
  | zero => intro lo hi h h' _; rw [bis_out (by omega)]; exact ⟨fun i h1 h2 => by omega, fun h1 => by omega⟩
  | succ n ih =>
    intro lo hi h h' mono
    by_cases hl : lo < hi
    · have hm := mid_in hl
      cases hg : g ((lo + hi).fdiv 2) with
      | true =>
        rw [bis_yes hl hg]
        have := ih lo ((lo + hi).fdiv 2) (by omega) (by omega) (fun i j h1 h2 h3 h4 => mono i j h1 h2 (by omega) h4)
        refine ⟨this.1, fun h1 => ?_⟩
        have hr := bis_range g _ lo ((lo + hi).fdiv 2) (Nat.le_refl _) (by omega)
        by_cases h2 : bis g lo ((lo + hi).fdiv 2) < (lo + hi).fdiv 2
        · exact this.2 h2
        · rw [show bis g lo ((lo + hi).fdiv 2) = (lo + hi).fdiv 2 by omega]; exact hg
      | false =>
        rw [bis_no hl hg]
        have := ih ((lo + hi).fdiv 2 + 1) hi (by omega) (by omega) (fun i j h1 h2 h3 h4 => mono i j (by omega) h2 h3 h4)
        refine ⟨fun i h1 h2 => ?_, this.2⟩
        by_cases h3 : (lo + hi).fdiv 2 + 1 ≤ i
        · exact this.1 i h3 h2
        · cases hgi : g i with
          | false => rfl
          | true => rw [mono i _ h1 (by omega) hm.2 hgi] at hg; exact absurd hg (by decide)
    · rw [bis_out hl]; exact ⟨fun i h1 h2 => by omega, fun h1 => by omega⟩
/-- the search's end, told from outside -/
theorem bis_is {g : Int → Bool} {lo hi r : Int} (h0 : lo ≤ r) (h1 : r ≤ hi) (hlow : ∀ i, lo ≤ i → i < r → g i = false) (hup : ∀ i, r ≤ i → i < hi → g i = true) : bis g lo hi = r := by
  have hs := bis_spec g _ lo hi (Nat.le_refl _) (by omega) (fun i j h1 h2 h3 h4 => by
    by_cases q : i < r
    · rw [hlow i h1 q] at h4; exact absurd h4 (by decide)
    · exact hup j (by omega) h3)
  have hr := bis_range g _ lo hi (Nat.le_refl _) (by omega)
  rcases Int.lt_trichotomy (bis g lo hi) r with q | q | q
  · have a := hs.2 (by omega)
    rw [hlow _ hr.1 q] at a
    exact absurd a (by decide)
  · exact q
  · have a := hs.1 r h0 q
    rw [hup r (Int.le_refl _) (by omega)] at a
    exact absurd a (by decide)
/-- rising, place by place -/
def Up (ns : List Int) : Prop := ∀ i j : Int, 0 ≤ i → i < j → j < (ns.length : Int) → ns.getD i.toNat 0 < ns.getD j.toNat 0
theorem up_of {ns : List Int} (h : ns.Pairwise (· < ·)) : Up ns := by
  intro i j h0 h1 h2
  have a : i.toNat < ns.length := by omega
  have b : j.toNat < ns.length := by omega
  rw [List.getD_eq_getElem?_getD, List.getD_eq_getElem?_getD, List.getElem?_eq_getElem a, List.getElem?_eq_getElem b]
  exact List.pairwise_iff_getElem.mp h _ _ a b (by omega)
theorem at_mem {ns : List Int} {i : Int} (h0 : 0 ≤ i) (h1 : i < (ns.length : Int)) : ns.getD i.toNat 0 ∈ ns := by
  have hlt : i.toNat < ns.length := by omega
  rw [List.getD_eq_getElem?_getD, List.getElem?_eq_getElem hlt]; exact List.getElem_mem hlt
theorem mem_at {ns : List Int} {v : Int} (h : v ∈ ns) : ∃ i : Int, 0 ≤ i ∧ i < (ns.length : Int) ∧ ns.getD i.toNat 0 = v := by
  obtain ⟨i, hi, e⟩ := List.getElem_of_mem h
  refine ⟨(i : Int), by omega, by omega, ?_⟩
  rw [Int.toNat_natCast, List.getD_eq_getElem?_getD, List.getElem?_eq_getElem hi]
  exact e
theorem bl_spec {ns : List Int} (U : Up ns) (x : Int) : (∀ i, 0 ≤ i → i < blF ns x → ns.getD i.toNat 0 < x) ∧ (∀ i, blF ns x ≤ i → i < (ns.length : Int) → x ≤ ns.getD i.toNat 0) := by
  have hs := bis_spec (blG ns x) _ 0 ns.length (Nat.le_refl _) (by omega) (fun i j h1 h2 h3 h4 => by
    unfold blG at h4 ⊢
    simp only [Bool.not_eq_true', decide_eq_false_iff_not] at h4 ⊢
    by_cases q : i = j
    · subst q; exact h4
    · have := U i j h1 (by omega) h3; omega)
  have hr := blF_range ns x
  refine ⟨fun i h0 h1 => ?_, fun i h0 h1 => ?_⟩
  · have a := hs.1 i h0 h1
    unfold blG at a
    simpa using a
  · have a := hs.2 (show bis (blG ns x) 0 ns.length < ns.length from by have : blF ns x < (ns.length : Int) := by omega
                                                                        exact this)
    unfold blG at a
    simp only [Bool.not_eq_true', decide_eq_false_iff_not] at a
    have a' : ¬ ns.getD (blF ns x).toNat 0 < x := a
    by_cases q : blF ns x = i
    · rw [← q]; omega
    · have := U (blF ns x) i hr.1 (by omega) h1; omega
theorem br_spec {ns : List Int} (U : Up ns) (x : Int) : (∀ i, 0 ≤ i → i < brF ns x → ns.getD i.toNat 0 ≤ x) ∧ (∀ i, brF ns x ≤ i → i < (ns.length : Int) → x < ns.getD i.toNat 0) := by
  have hs := bis_spec (brG ns x) _ 0 ns.length (Nat.le_refl _) (by omega) (fun i j h1 h2 h3 h4 => by
    unfold brG at h4 ⊢
    simp only [decide_eq_true_eq] at h4 ⊢
    by_cases q : i = j
    · subst q; exact h4
    · have := U i j h1 (by omega) h3; omega)
  have hr := brF_range ns x
  refine ⟨fun i h0 h1 => ?_, fun i h0 h1 => ?_⟩
  · have a := hs.1 i h0 h1
    unfold brG at a
    simpa using a
  · have a := hs.2 (show bis (brG ns x) 0 ns.length < ns.length from by have : brF ns x < (ns.length : Int) := by omega
                                                                        exact this)
    unfold brG at a
    simp only [decide_eq_true_eq] at a
    have a' : x < ns.getD (brF ns x).toNat 0 := a
    by_cases q : brF ns x = i
    · rw [← q]; omega
    · have := U (brF ns x) i hr.1 (by omega) h1; omega
section
variable {ns : List Int} (U : Up ns)
include U
theorem bl_first {x : Int} (h : blF ns x < (ns.length : Int)) : ns.getD (blF ns x).toNat 0 ∈ ns ∧ x ≤ ns.getD (blF ns x).toNat 0 ∧ ∀ u ∈ ns, x ≤ u → ns.getD (blF ns x).toNat 0 ≤ u := by
  have hr := blF_range ns x
  have hs := bl_spec U x
  refine ⟨at_mem hr.1 h, hs.2 _ (Int.le_refl _) h, fun u hu hx => ?_⟩
  obtain ⟨i, h0, h1, rfl⟩ := mem_at hu
  by_cases q : i < blF ns x
  · have := hs.1 i h0 q; omega
  · by_cases q2 : blF ns x = i
    · rw [q2]; exact Int.le_refl _
    · have := U (blF ns x) i hr.1 (by omega) h1; omega
theorem bl_none {x : Int} (h : blF ns x = (ns.length : Int)) : ∀ u ∈ ns, u < x := by
  intro u hu
  obtain ⟨i, h0, h1, rfl⟩ := mem_at hu
  exact (bl_spec U x).1 i h0 (by omega)
theorem bl_last {x : Int} (h : 0 < blF ns x) : ns.getD (blF ns x - 1).toNat 0 ∈ ns ∧ ns.getD (blF ns x - 1).toNat 0 < x ∧ ∀ u ∈ ns, u < x → u ≤ ns.getD (blF ns x - 1).toNat 0 := by
  have hr := blF_range ns x
  have hs := bl_spec U x
  refine ⟨at_mem (by omega) (by omega), hs.1 _ (by omega) (by omega), fun u hu hx => ?_⟩
  obtain ⟨i, h0, h1, rfl⟩ := mem_at hu
  by_cases q : blF ns x ≤ i
  · have := hs.2 i q h1; omega
  · by_cases q2 : i = blF ns x - 1
    · rw [q2]; exact Int.le_refl _
    · have := U i (blF ns x - 1) h0 (by omega) (by omega); omega
theorem bl_mono {x y : Int} (h : x ≤ y) : blF ns x ≤ blF ns y := by
  have hx := blF_range ns x
  have hy := blF_range ns y
  by_cases q : blF ns x ≤ blF ns y
  · exact q
  · have a := (bl_spec U x).1 (blF ns y) hy.1 (by omega)
    have b := (bl_spec U y).2 (blF ns y) (Int.le_refl _) (by omega)
    omega
theorem bl_lt {x y : Int} : blF ns x < blF ns y ↔ ∃ u ∈ ns, x ≤ u ∧ u < y := by
  have hx := blF_range ns x
  have hy := blF_range ns y
  constructor
  · intro h
    exact ⟨ns.getD (blF ns x).toNat 0, at_mem hx.1 (by omega), (bl_spec U x).2 _ (Int.le_refl _) (by omega), (bl_spec U y).1 _ hx.1 h⟩
  · rintro ⟨u, hu, h1, h2⟩
    obtain ⟨i, h0, h3, rfl⟩ := mem_at hu
    have a : blF ns x ≤ i := by
      by_cases q : blF ns x ≤ i
      · exact q
      · have := (bl_spec U x).1 i h0 (by omega); omega
    have b : i < blF ns y := by
      by_cases q : i < blF ns y
      · exact q
      · have := (bl_spec U y).2 i (by omega) h3; omega
    omega
theorem br_first {x : Int} (h : brF ns x < (ns.length : Int)) : ns.getD (brF ns x).toNat 0 ∈ ns ∧ x < ns.getD (brF ns x).toNat 0 ∧ ∀ u ∈ ns, x < u → ns.getD (brF ns x).toNat 0 ≤ u := by
  have hr := brF_range ns x
  have hs := br_spec U x
  refine ⟨at_mem hr.1 h, hs.2 _ (Int.le_refl _) h, fun u hu hx => ?_⟩
  obtain ⟨i, h0, h1, rfl⟩ := mem_at hu
  by_cases q : i < brF ns x
  · have := hs.1 i h0 q; omega
  · by_cases q2 : brF ns x = i
    · rw [q2]; exact Int.le_refl _
    · have := U (brF ns x) i hr.1 (by omega) h1; omega
theorem br_has {x u : Int} (hu : u ∈ ns) (h : x < u) : brF ns x < (ns.length : Int) := by
  obtain ⟨i, h0, h1, rfl⟩ := mem_at hu
  by_cases q : brF ns x < (ns.length : Int)
  · exact q
  · have := (br_spec U x).1 i h0 (by omega); omega
theorem up_next {k : Int} (h0 : 0 ≤ k) (h1 : k + 1 < (ns.length : Int)) : ns.getD (k + 1).toNat 0 ∈ ns ∧ ns.getD k.toNat 0 < ns.getD (k + 1).toNat 0 ∧ ∀ u ∈ ns, ns.getD k.toNat 0 < u → ns.getD (k + 1).toNat 0 ≤ u := by
  refine ⟨at_mem (by omega) h1, U k (k + 1) h0 (by omega) h1, fun u hu hx => ?_⟩
  obtain ⟨i, h0', h1', rfl⟩ := mem_at hu
  by_cases q : i ≤ k
  · by_cases q2 : i = k
    · subst q2; omega
    · have := U i k h0' (by omega) (by omega); omega
  · by_cases q2 : k + 1 = i
    · rw [q2]; exact Int.le_refl _
    · have := U (k + 1) i (by omega) (by omega) h1'; omega
end
end Mine
end PartQ1
section PartQ2
open PySem PySem.W PySem.Spec PySem.Calls PyProof.Rows PySem.Builtin PySem.Builtin.Str
set_option maxRecDepth 100000
set_option maxHeartbeats 1000000
namespace Mine
/-- the code at a place -/
abbrev cp (x : Str) (k : Nat) : Nat := x.cps.getD k 0
abbrev sp (x : Str) (k : Nat) : Prop := Unicode.isSpace (cp x k) = true
theorem nl_is : nl = ⟨#[10]⟩ := by decide +kernel
theorem empty_of_len {x : Str} (h : x.length = 0) : x = Str.ofString "" := by
  obtain ⟨c⟩ := x
  have : c = #[] := Array.eq_empty_of_size_eq_zero h
  subst this
  decide +kernel
theorem len_empty : (Str.ofString "").length = 0 := by decide +kernel
theorem sub_len {x : Str} {a b : Nat} (hb : b ≤ x.length) : (strSub x a b).length = b - a := by
  show (x.cps.extract a b).size = _
  have : x.cps.size = x.length := rfl
  rw [Array.size_extract]; omega
theorem sub_cp {x : Str} {a b k : Nat} (hk : a + k < b) : cp (strSub x a b) k = cp x (a + k) := by
  unfold cp
  rw [← getD_list, ← getD_list, StrLaws.strSub_toList]
  simp only [List.getD_eq_getElem?_getD]
  rw [List.getElem?_take_of_lt (by omega), List.getElem?_drop]
theorem sub_sub {x : Str} {a b i j : Nat} (hj : a + j ≤ b) : strSub (strSub x a b) i j = strSub x (a + i) (a + j) := by
  apply Str.ext'
  apply Array.toList_inj.mp
  rw [StrLaws.strSub_toList, StrLaws.strSub_toList, StrLaws.strSub_toList, List.drop_take, List.drop_drop, List.take_take]
  congr 1
  omega
theorem slice_sub {x : Str} {i j : Int} (h0 : 0 ≤ i) (h1 : i ≤ j) (h2 : j ≤ (x.length : Int)) : Txt.slice x (some i) (some j) = strSub x i.toNat j.toNat := by
  have e := StrLaws.sliceText_plain (x := x) (i := i) (j := j) ⟨h0, h1, by simpa [Str.length] using h2⟩
  have e2 : Txt.slice x (some i) (some j) = StrLaws.sliceText x (some i) (some j) := rfl
  rw [e2, e]
  apply Str.ext'
  apply Array.toList_inj.mp
  rw [StrLaws.strSub_toList]
  show List.take _ _ = _
  congr 1
  omega
theorem strip_at {x : Str} {a b : Nat} (hab : a < b) (hb : b ≤ x.length) (h1 : ∀ k, k < a → sp x k) (h2 : ∀ k, b ≤ k → k < x.length → sp x k) (h3 : ¬ sp x a) (h4 : ¬ sp x (b - 1)) : Txt.strip x = strSub x a b := by
  obtain ⟨l0, l1, l2⟩ := lo_facts Unicode.isSpace x
  have ha : stripLo Unicode.isSpace true x = a := by
    rcases Nat.lt_trichotomy (stripLo Unicode.isSpace true x) a with q | q | q
    · have q1 := h1 _ q
      rcases l2 with l2 | l2
      · omega
      · exact absurd l2 (by unfold sp cp at q1; rw [q1]; decide)
    · exact q
    · exact absurd (l1 a q) h3
  obtain ⟨k0, k1, k2, k3⟩ := hi_facts Unicode.isSpace x (stripLo Unicode.isSpace true x) l0
  unfold Txt.strip
  rw [PyProof.Rows.stripBy_eq]
  rw [ha] at k0 k1 k2 k3 ⊢
  have hb' : stripHi Unicode.isSpace true x a = b := by
    rcases Nat.lt_trichotomy (stripHi Unicode.isSpace true x a) b with q | q | q
    · exact absurd (k2 (b - 1) (by omega) (by omega)) h4
    · exact q
    · rcases k3 with k3 | k3
      · omega
      · have q1 := h2 (stripHi Unicode.isSpace true x a - 1) (by omega) (by omega)
        exact absurd k3 (by unfold sp cp at q1; rw [q1]; decide)
  rw [hb']
theorem strip_blank {x : Str} (h : ∀ k, k < x.length → sp x k) : Txt.strip x = Str.ofString "" := by
  obtain ⟨l0, l1, l2⟩ := lo_facts Unicode.isSpace x
  have ha : stripLo Unicode.isSpace true x = x.length := by
    rcases l2 with l2 | l2
    · exact l2
    · by_cases q : stripLo Unicode.isSpace true x = x.length
      · exact q
      · have q1 := h _ (Nat.lt_of_le_of_ne l0 q)
        exact absurd l2 (by unfold sp cp at q1; rw [q1]; decide)
  obtain ⟨k0, k1, k2, k3⟩ := hi_facts Unicode.isSpace x (stripLo Unicode.isSpace true x) l0
  unfold Txt.strip
  rw [PyProof.Rows.stripBy_eq]
  rw [ha] at k0 k1 ⊢
  apply empty_of_len
  rw [sub_len k1]
  omega
theorem rstrip_zero (x : Str) : (Txt.rstrip x).length = 0 ↔ ∀ k, k < x.length → sp x k := by
  obtain ⟨k0, k1, k2, k3⟩ := hi_facts Unicode.isSpace x 0 (Nat.zero_le _)
  have e : Txt.rstrip x = strSub x 0 (stripHi Unicode.isSpace true x 0) := by unfold Txt.rstrip; rw [PyProof.Rows.stripBy_eq]; rfl
  rw [e, sub_len k1]
  constructor
  · intro h k hk
    exact k2 k (by omega) hk
  · intro h
    rcases k3 with k3 | k3
    · omega
    · by_cases q : stripHi Unicode.isSpace true x 0 = 0
      · omega
      · have q1 := h (stripHi Unicode.isSpace true x 0 - 1) (by omega)
        exact absurd k3 (by unfold sp cp at q1; rw [q1]; decide)
theorem at_iff {x : Str} {k : Nat} (hk : k < x.length) : StrLaws.At x ⟨#[10]⟩ x.length k ↔ cp x k = 10 := by
  have := StrLaws.subAt_one x 10 k
  unfold StrLaws.At
  rw [this]
  constructor
  · exact StrLaws.getD_of_getElem?
  · exact StrLaws.getElem?_of_getD hk
theorem at_lt {x : Str} {k : Nat} (h : StrLaws.At x ⟨#[10]⟩ x.length k) : k < x.length := by
  have := h.1
  have e : (⟨#[10]⟩ : Str).length = 1 := rfl
  omega
theorem split_parts (y : Str) : Txt.split y nl = StrLaws.partsFrom y 1 0 (occurrences y ⟨#[10]⟩ 0 y.length (y.length + 1)) := by
  rw [nl_is]
  obtain ⟨f, hG, hn⟩ := StrLaws.occ_tight y ⟨#[10]⟩ (Nat.le_refl 1)
  have hone : (∀ k, ¬ StrLaws.At y ⟨#[10]⟩ y.length k) → [y] = StrLaws.partsFrom y 1 0 (occurrences y ⟨#[10]⟩ 0 y.length (y.length + 1)) := by
    intro hno
    cases ho : occurrences y ⟨#[10]⟩ 0 y.length (y.length + 1) with
    | nil => show [y] = [strSub y 0 y.length]; rw [StrLaws.sub_whole]
    | cons c r => rw [ho] at hG; exact absurd hG.2.1 (hno c)
  unfold Txt.split
  split
  · rename_i hc
    refine hone fun k hA => ?_
    rw [Bool.or_eq_true, decide_eq_true_eq, decide_eq_true_eq] at hc
    rcases hc with h | h
    · have := hA.1; omega
    · exact StrLaws.kind_free y 10 h (List.mem_of_getElem? ((StrLaws.subAt_one y 10 k).mp hA))
  · split
    · rename_i he
      rw [List.isEmpty_iff.mp he]
      show [y] = [strSub y 0 y.length]
      rw [StrLaws.sub_whole]
    · rw [StrLaws.partsBetween_eq]; rfl
theorem chain_of_tight {s sub : Str} {hi : Nat} : ∀ {cuts : List Nat} {a f : Nat}, StrLaws.ChainG s sub hi a cuts f → StrLaws.ChainTo s sub hi a cuts f
  | [], _, _, h => h
  | _ :: _, _, _, h => ⟨h.1, h.2.1, chain_of_tight h.2.2.2⟩
/-- how a text parts at its feeds -/
theorem split_shape (y : Str) :
    (Txt.split y nl = [y] ∧ ∀ k, k < y.length → cp y k ≠ 10) ∨
    (∃ c, c < y.length ∧ cp y c = 10 ∧ (∀ k, k < c → cp y k ≠ 10) ∧ (∀ k, c < k → k < y.length → cp y k ≠ 10) ∧ Txt.split y nl = [strSub y 0 c, strSub y (c + 1) y.length]) ∨
    (∃ c d r, c < d ∧ d < y.length ∧ cp y c = 10 ∧ (∀ k, k < c → cp y k ≠ 10) ∧ cp y d = 10 ∧ (∀ k, c < k → k < d → cp y k ≠ 10) ∧ Txt.split y nl = strSub y 0 c :: strSub y (c + 1) d :: r ∧ Str.join nl r = strSub y (d + 1) y.length) := by
  obtain ⟨f, hG, hn⟩ := StrLaws.occ_tight y ⟨#[10]⟩ (Nat.le_refl 1)
  rw [split_parts]
  generalize occurrences y ⟨#[10]⟩ 0 y.length (y.length + 1) = cuts at hG
  match cuts, hG with
  | [], hG =>
    have e : f = 0 := hG
    subst e
    refine .inl ⟨by show [strSub y 0 y.length] = [y]; rw [StrLaws.sub_whole], fun k hk e => hn k (Nat.zero_le _) ((at_iff hk).mpr e)⟩
  | [c], hG =>
    obtain ⟨_, h2, h3, e⟩ := hG
    have e : f = c + 1 := e
    subst e
    have hc := at_lt h2
    exact .inr (.inl ⟨c, hc, (at_iff hc).mp h2, fun k hk e => h3 k (Nat.zero_le _) hk ((at_iff (by omega)).mpr e), fun k hk1 hk2 e => hn k (by omega) ((at_iff hk2).mpr e), rfl⟩)
  | c :: d :: r, hG =>
    obtain ⟨_, h2, h3, h4, h5, h6, h7⟩ := hG
    have hc := at_lt h2
    have hd := at_lt h5
    have h4' : c + 1 ≤ d := h4
    refine .inr (.inr ⟨c, d, _, h4', hd, (at_iff hc).mp h2, fun k hk e => h3 k (Nat.zero_le _) hk ((at_iff (by omega)).mpr e), (at_iff hd).mp h5, fun k hk1 hk2 e => h6 k hk1 hk2 ((at_iff (by omega)).mpr e), rfl, ?_⟩)
    rw [nl_is]
    exact StrLaws.join_partsFrom y ⟨#[10]⟩ r (d + 1) f (chain_of_tight h7)
theorem sd_blank {x : Str} (h : ∀ k, k < x.length → sp x k) : sd x = (Str.ofString "", Str.ofString "") := by
  unfold sd
  rw [strip_blank h]
  decide +kernel
theorem sd_line {x y : Str} (hy : Txt.strip x = y) (h : ∀ k, k < y.length → cp y k ≠ 10) : sd x = (y, Str.ofString "") := by
  unfold sd
  rw [hy]
  rcases split_shape y with ⟨e, _⟩ | ⟨c, h1, h2, _⟩ | ⟨c, d, r, h1, h2, h3, _⟩
  · rw [e]; rfl
  · exact absurd h2 (h c h1)
  · exact absurd h3 (h c (by omega))
/-- a first feed at c; no other up to d, which is the end or a feed -/
theorem sd_lines {x y : Str} {c d : Nat} (hy : Txt.strip x = y) (hc : c < d) (hd : d ≤ y.length) (h1 : cp y c = 10) (h2 : ∀ k, k < c → cp y k ≠ 10) (h3 : ∀ k, c < k → k < d → cp y k ≠ 10) (h4 : d = y.length ∨ cp y d = 10) :
    (¬ (∀ k, c < k → k < d → sp y k) → sd x = (Str.ofString "", y)) ∧ ((∀ k, c < k → k < d → sp y k) → d < y.length → sd x = (strSub y 0 c, strSub y (d + 1) y.length)) := by
  have hz : ∀ e, e ≤ y.length → ((Txt.rstrip (strSub y (c + 1) e)).length = 0 ↔ ∀ k, c < k → k < e → sp y k) := by
    intro e he
    rw [rstrip_zero, sub_len he]
    constructor
    · intro h k hk1 hk2
      have := h (k - (c + 1)) (by omega)
      unfold sp at this ⊢
      rw [sub_cp (by omega), show c + 1 + (k - (c + 1)) = k by omega] at this
      exact this
    · intro h k hk
      have := h (c + 1 + k) (by omega) (by omega)
      unfold sp at this ⊢
      rw [sub_cp (by omega)]
      exact this
  have hj := StrLaws.join_split y nl
  unfold sd
  rw [hy]
  rcases split_shape y with ⟨_, e⟩ | ⟨c', a1, a2, a3, a4, e⟩ | ⟨c', d', r, a0, a1, a2, a3, a4, a5, e, ej⟩
  · exact absurd h1 (e c (by omega))
  · have ec : c' = c := by
      rcases Nat.lt_trichotomy c' c with q | q | q
      · exact absurd a2 (h2 c' q)
      · exact q
      · exact absurd h1 (a3 c q)
    subst ec
    have ed : d = y.length := by
      rcases h4 with q | q
      · exact q
      · by_cases q2 : d < y.length
        · exact absurd q (a4 d hc q2)
        · omega
    subst ed
    rw [e] at hj ⊢
    constructor
    · intro hn
      show (if (Txt.rstrip (strSub y (c' + 1) y.length)).length = 0 then _ else _) = _
      rw [if_neg (fun q => hn ((hz _ hd).mp q)), hj]
    · intro _ q
      omega
  · have ec : c' = c := by
      rcases Nat.lt_trichotomy c' c with q | q | q
      · exact absurd a2 (h2 c' q)
      · exact q
      · exact absurd h1 (a3 c q)
    subst ec
    have ed : d' = d := by
      rcases Nat.lt_trichotomy d' d with q | q | q
      · exact absurd a4 (h3 d' a0 q)
      · exact q
      · rcases h4 with q2 | q2
        · omega
        · exact absurd q2 (a5 d hc q)
    subst ed
    rw [e] at hj ⊢
    constructor
    · intro hn
      show (if (Txt.rstrip (strSub y (c' + 1) d')).length = 0 then _ else _) = _
      rw [if_neg (fun q => hn ((hz _ hd).mp q)), hj]
    · intro hs _
      show (if (Txt.rstrip (strSub y (c' + 1) d')).length = 0 then _ else _) = _
      rw [if_pos ((hz _ hd).mpr hs), ej]
end Mine
end PartQ2
section PartQ3
open PySem PySem.W PySem.Spec PySem.Calls PyProof.Rows PySem.Builtin PySem.Builtin.Str
set_option maxRecDepth 100000
set_option maxHeartbeats 1000000
namespace Mine
/-- the two rows of a page, told by its codes -/
structure Rows (page : Str) (fs ns : List Int) : Prop where
  upS : Up ns
  upF : Up fs
  sol : ∀ v, v ∈ ns ↔ 0 ≤ v ∧ v < (page.length : Int) ∧ (cp page v.toNat = 97 ∨ cp page v.toNat = 98)
  fed : ∀ v, v ∈ fs ↔ v = (page.length : Int) ∨ (0 ≤ v ∧ v < (page.length : Int) ∧ cp page v.toNat = 10)
  abc : ∀ k, k < page.length → cp page k = 97 ∨ cp page k = 98 ∨ cp page k = 32 ∨ cp page k = 10 ∨ cp page k = 9
theorem sp97 : Unicode.isSpace 97 = false := by decide +kernel
theorem sp98 : Unicode.isSpace 98 = false := by decide +kernel
theorem sp32 : Unicode.isSpace 32 = true := by decide +kernel
theorem sp10 : Unicode.isSpace 10 = true := by decide +kernel
theorem sp9 : Unicode.isSpace 9 = true := by decide +kernel
section
variable {page : Str} {fs ns : List Int} (R : Rows page fs ns)
include R
theorem sp_iff {k : Nat} (hk : k < page.length) : sp page k ↔ ¬ (k : Int) ∈ ns := by
  rw [R.sol]
  have e : ((k : Int)).toNat = k := Int.toNat_natCast k
  rw [e]
  unfold sp
  rcases R.abc k hk with h | h | h | h | h <;> rw [h]
  · rw [sp97]; simp; omega
  · rw [sp98]; simp; omega
  · rw [sp32]; simp
  · rw [sp10]; simp
  · rw [sp9]; simp
theorem fed_iff {k : Nat} (hk : k < page.length) : cp page k = 10 ↔ (k : Int) ∈ fs := by
  rw [R.fed]
  have e : ((k : Int)).toNat = k := Int.toNat_natCast k
  rw [e]
  constructor
  · intro h; exact .inr ⟨by omega, by omega, h⟩
  · rintro (h | h)
    · omega
    · exact h.2.2
theorem sol_not_fed {v : Int} (h : v ∈ ns) : ¬ v ∈ fs := by
  intro h2
  have a := (R.sol v).mp h
  rcases (R.fed v).mp h2 with b | b
  · omega
  · have := a.2.2; have := b.2.2; omega
/-- splitdoc of a stretch without a or b -/
theorem sd_no {s e : Nat} (h1 : s ≤ e) (h2 : e ≤ page.length) (h : ∀ u ∈ ns, ¬ ((s : Int) ≤ u ∧ u < (e : Int))) : sd (strSub page s e) = (Str.ofString "", Str.ofString "") := by
  refine sd_blank fun k hk => ?_
  rw [sub_len h2] at hk
  unfold sp
  rw [sub_cp (by omega)]
  exact (sp_iff R (by omega)).mpr fun q => h _ q ⟨by omega, by omega⟩
/-- the stripped stretch -/
theorem strip_is {s e a b : Nat} (h2 : e ≤ page.length) (ha : s ≤ a) (hab : a ≤ b) (hb : b < e) (ia : (a : Int) ∈ ns) (ib : (b : Int) ∈ ns) (la : ∀ u ∈ ns, (s : Int) ≤ u → (a : Int) ≤ u) (lb : ∀ u ∈ ns, u < (e : Int) → u ≤ (b : Int)) :
    Txt.strip (strSub page s e) = strSub page a (b + 1) := by
  have hl : (strSub page s e).length = e - s := sub_len h2
  have key : Txt.strip (strSub page s e) = strSub (strSub page s e) (a - s) (b + 1 - s) := by
    refine strip_at (by omega) (by omega) ?_ ?_ ?_ ?_
    · intro k hk
      unfold sp
      rw [sub_cp (by omega)]
      exact (sp_iff R (by omega)).mpr fun q => by have := la _ q (by omega); omega
    · intro k hk1 hk2
      unfold sp
      rw [sub_cp (by omega)]
      exact (sp_iff R (by omega)).mpr fun q => by have := lb _ q (by omega); omega
    · unfold sp
      rw [sub_cp (by omega), show s + (a - s) = a by omega]
      exact fun q => (sp_iff R (by omega)).mp q ia
    · unfold sp
      rw [sub_cp (by omega), show s + (b + 1 - s - 1) = b by omega]
      exact fun q => (sp_iff R (by omega)).mp q ib
  rw [key, sub_sub (by omega), show s + (a - s) = a by omega, show s + (b + 1 - s) = b + 1 by omega]
/-- no feed between the first and the last -/
theorem sd_one_line {s e a b : Nat} (h2 : e ≤ page.length) (ha : s ≤ a) (hab : a ≤ b) (hb : b < e) (ia : (a : Int) ∈ ns) (ib : (b : Int) ∈ ns) (la : ∀ u ∈ ns, (s : Int) ≤ u → (a : Int) ≤ u) (lb : ∀ u ∈ ns, u < (e : Int) → u ≤ (b : Int))
    (hf : ∀ u ∈ fs, (a : Int) < u → (b : Int) + 1 ≤ u) : sd (strSub page s e) = (strSub page a (b + 1), Str.ofString "") := by
  refine sd_line (strip_is R h2 ha hab hb ia ib la lb) fun k hk => ?_
  rw [sub_len (by omega)] at hk
  rw [sub_cp (by omega)]
  intro q
  have q' := (fed_iff R (by omega)).mp q
  by_cases hk0 : k = 0
  · subst hk0
    exact sol_not_fed R ia (by simpa using q')
  · have := hf _ q' (by omega)
    omega
theorem sd_more_lines {s e a b c d : Nat} (h2 : e ≤ page.length) (ha : s ≤ a) (hab : a ≤ b) (hb : b < e) (ia : (a : Int) ∈ ns) (ib : (b : Int) ∈ ns) (la : ∀ u ∈ ns, (s : Int) ≤ u → (a : Int) ≤ u) (lb : ∀ u ∈ ns, u < (e : Int) → u ≤ (b : Int))
    (hac : a < c) (hcb : c ≤ b) (ic : (c : Int) ∈ fs) (lc : ∀ u ∈ fs, (a : Int) < u → (c : Int) ≤ u) (hcd : c < d) (id : (d : Int) ∈ fs) (ld : ∀ u ∈ fs, (c : Int) < u → (d : Int) ≤ u) :
    ((∃ u ∈ ns, (c : Int) ≤ u ∧ u < (d : Int)) → sd (strSub page s e) = (Str.ofString "", strSub page a (b + 1))) ∧
    ((∀ u ∈ ns, ¬ ((c : Int) ≤ u ∧ u < (d : Int))) → d < b ∧ sd (strSub page s e) = (strSub page a c, strSub page (d + 1) (b + 1))) := by
  have hst := strip_is R h2 ha hab hb ia ib la lb
  have hl : (strSub page a (b + 1)).length = b + 1 - a := sub_len (by omega)
  have key := sd_lines (c := c - a) (d := min d (b + 1) - a) hst (by omega) (by omega)
    (by rw [sub_cp (by omega), show a + (c - a) = c by omega]; exact (fed_iff R (by omega)).mpr ic)
    (fun k hk => by
      rw [sub_cp (by omega)]
      intro q
      have q' := (fed_iff R (by omega)).mp q
      by_cases hk0 : k = 0
      · subst hk0
        exact sol_not_fed R ia (by simpa using q')
      · have := lc _ q' (by omega)
        omega)
    (fun k hk1 hk2 => by
      rw [sub_cp (by omega)]
      intro q
      have q' := (fed_iff R (by omega)).mp q
      have := ld _ q' (by omega)
      omega)
    (by
      by_cases q : d < b + 1
      · right
        rw [sub_cp (by omega), show a + (min d (b + 1) - a) = d by omega]
        exact (fed_iff R (by omega)).mpr id
      · left; omega)
  have hsp : (∀ k, c - a < k → k < min d (b + 1) - a → sp (strSub page a (b + 1)) k) ↔ ∀ u ∈ ns, ¬ ((c : Int) ≤ u ∧ u < (d : Int) ∧ u ≤ (b : Int)) := by
    constructor
    · intro h u hu ⟨h1, h3, h4⟩
      have hne : u ≠ (c : Int) := fun q => sol_not_fed R hu (q ▸ ic)
      have h0 := ((R.sol u).mp hu).1
      obtain ⟨v, rfl⟩ := Int.eq_ofNat_of_zero_le h0
      have := h (v - a) (by omega) (by omega)
      unfold sp at this
      rw [sub_cp (by omega), show a + (v - a) = v by omega] at this
      exact (sp_iff R (by omega)).mp this hu
    · intro h k hk1 hk2
      unfold sp
      rw [sub_cp (by omega)]
      exact (sp_iff R (by omega)).mpr fun q => h _ q ⟨by omega, by omega, by omega⟩
  constructor
  · rintro ⟨u, hu, h3, h4⟩
    refine key.1 fun q => ?_
    by_cases hub : u ≤ (b : Int)
    · exact hsp.mp q u hu ⟨h3, h4, hub⟩
    · exact hsp.mp q (b : Int) ib ⟨by omega, by omega, by omega⟩
  · intro h
    have hdb : d < b := by
      by_cases q : d < b
      · exact q
      · have hne : (b : Int) ≠ (d : Int) := fun q => sol_not_fed R ib (q ▸ id)
        exact absurd ⟨by omega, by omega⟩ (h _ ib)
    refine ⟨hdb, ?_⟩
    have := key.2 (hsp.mpr fun u hu q => h u hu ⟨q.1, q.2.1⟩) (by omega)
    rw [this, sub_sub (by omega), sub_sub (by omega), hl, show a + 0 = a by omega, show a + (c - a) = c by omega, show a + (min d (b + 1) - a + 1) = d + 1 by omega, show a + (b + 1 - a) = b + 1 by omega]
end
end Mine
end PartQ3
section PartQ4
open PySem PySem.W PySem.Spec PySem.Calls PyProof.Rows PySem.Builtin PySem.Builtin.Str
set_option maxRecDepth 100000
set_option maxHeartbeats 1000000
namespace Mine
theorem ne_empty {x : Str} (h : 0 < x.length) : x ≠ Str.ofString "" := by
  intro e
  rw [e, len_empty] at h
  omega
section
variable {page : Str} {fs ns : List Int} (R : Rows page fs ns)
include R
theorem fed_next {k : Int} (h0 : 0 ≤ k) (h1 : k < (fs.length : Int)) (h : fs.getD k.toNat 0 < (page.length : Int)) : k + 1 < (fs.length : Int) := by
  obtain ⟨i, i0, i1, ei⟩ := mem_at ((R.fed (page.length : Int)).mpr (.inl rfl))
  by_cases q : k < i
  · omega
  · by_cases q2 : i = k
    · subst q2; omega
    · have := R.upF i k i0 (by omega) h1; omega
theorem fed_last {y : Int} (h : y < (page.length : Int)) : brF fs y < (fs.length : Int) := br_has R.upF ((R.fed (page.length : Int)).mpr (.inl rfl)) h
theorem fed_rng {v : Int} (h : v ∈ fs) : 0 ≤ v ∧ v ≤ (page.length : Int) := by
  rcases (R.fed v).mp h with q | q <;> omega
theorem told_all {start stop : Int} (h0 : 0 ≤ start) (h1 : start ≤ stop) (h2 : stop ≤ (page.length : Int)) (hne : blF ns start ≠ blF ns stop) :
    ∃ a b c : Int, ns.getD (blF ns start).toNat 0 = a ∧ b ∈ ns ∧ a ≤ b ∧ b < stop ∧ (∀ u ∈ ns, u < stop → u ≤ b) ∧ fs.getD (brF fs a).toNat 0 = c ∧
      sd (Txt.slice page (some start) (some stop)) = toldF page fs ns start stop ∧ sd (Txt.slice page (some start) (some stop)) ≠ (Str.ofString "", Str.ofString "") ∧ ((sd (Txt.slice page (some start) (some stop))).2 = Str.ofString "" ↔ b < c) := by
  have hm := bl_mono R.upS h1
  have b1 := blF_range ns start
  have b2 := blF_range ns stop
  obtain ⟨ia, sa, la⟩ := bl_first R.upS (x := start) (by omega)
  obtain ⟨ib, sb, lb⟩ := bl_last R.upS (x := stop) (by omega)
  obtain ⟨u, hu, u1, u2⟩ := (bl_lt R.upS).mp (show blF ns start < blF ns stop by omega)
  unfold toldF
  rw [if_neg hne, slice_sub h0 h1 h2]
  generalize ns.getD (blF ns start).toNat 0 = a at *
  generalize ns.getD (blF ns stop - 1).toNat 0 = b at *
  have hab : a ≤ b := lb a ia (by have := la u hu u1; omega)
  have ra := (R.sol a).mp ia
  have rb := (R.sol b).mp ib
  have hk := fed_last R ra.2.1
  have hk0 := (brF_range fs a).1
  obtain ⟨ic, sc, lc⟩ := br_first R.upF hk
  have hnext := fed_next R hk0 hk
  have hup := fun q => up_next R.upF hk0 (hnext q)
  generalize fs.getD (brF fs a + 1).toNat 0 = d at *
  refine ⟨a, b, _, rfl, ib, hab, sb, lb, rfl, ?_⟩
  generalize fs.getD (brF fs a).toNat 0 = c at *
  have rc := fed_rng R ic
  obtain ⟨s, rfl⟩ := Int.eq_ofNat_of_zero_le h0
  obtain ⟨e, rfl⟩ := Int.eq_ofNat_of_zero_le (Int.le_trans h0 h1)
  obtain ⟨a, rfl⟩ := Int.eq_ofNat_of_zero_le ra.1
  obtain ⟨b, rfl⟩ := Int.eq_ofNat_of_zero_le rb.1
  obtain ⟨c, rfl⟩ := Int.eq_ofNat_of_zero_le rc.1
  have e1 : ((b : Int) + 1).toNat = b + 1 := by omega
  simp only [Int.toNat_natCast]
  by_cases hbc : ((b : Int)) + 1 ≤ (c : Int)
  · rw [if_pos hbc, slice_sub (by omega) (by omega) (by omega), e1]
    simp only [Int.toNat_natCast]
    have k1 := sd_one_line R (s := s) (e := e) (a := a) (b := b) (by omega) (by omega) (by omega) (by omega) ia ib la lb (fun u hu q => by have := lc u hu q; omega)
    rw [k1]
    refine ⟨rfl, fun q => ne_empty (x := strSub page a (b + 1)) (by rw [sub_len (by omega)]; omega) (congrArg Prod.fst q), ⟨fun _ => by omega, fun _ => rfl⟩⟩
  · rw [if_neg hbc]
    obtain ⟨idd, sdd, ldd⟩ := hup (by omega)
    have rd := fed_rng R idd
    obtain ⟨d, rfl⟩ := Int.eq_ofNat_of_zero_le rd.1
    have k1 := sd_more_lines R (s := s) (e := e) (a := a) (b := b) (c := c) (d := d) (by omega) (by omega) (by omega) (by omega) ia ib la lb (by omega) (by omega) ic lc (by omega) idd ldd
    by_cases hq : blF ns (c : Int) < blF ns (d : Int)
    · rw [if_pos hq, slice_sub (by omega) (by omega) (by omega), e1]
      simp only [Int.toNat_natCast]
      have hne2 : strSub page a (b + 1) ≠ Str.ofString "" := ne_empty (by rw [sub_len (by omega)]; omega)
      rw [k1.1 ((bl_lt R.upS).mp hq)]
      exact ⟨rfl, fun q => hne2 (congrArg Prod.snd q), ⟨fun q => absurd q hne2, fun q => by omega⟩⟩
    · have k2 := k1.2 fun u hu q => hq ((bl_lt R.upS).mpr ⟨u, hu, q⟩)
      rw [if_neg hq, slice_sub (by omega) (by omega) (by omega), slice_sub (by omega) (by omega) (by omega), e1, show ((d : Int) + 1).toNat = d + 1 by omega]
      simp only [Int.toNat_natCast]
      have hne2 : strSub page (d + 1) (b + 1) ≠ Str.ofString "" := ne_empty (by rw [sub_len (by omega)]; omega)
      rw [k2.2]
      exact ⟨rfl, fun q => hne2 (congrArg Prod.snd q), ⟨fun q => absurd q hne2, fun q => by omega⟩⟩
theorem told_none {start stop : Int} (h0 : 0 ≤ start) (h1 : start ≤ stop) (h2 : stop ≤ (page.length : Int)) (he : blF ns start = blF ns stop) : sd (Txt.slice page (some start) (some stop)) = (Str.ofString "", Str.ofString "") := by
  rw [slice_sub h0 h1 h2]
  refine sd_no R (by omega) (by omega) fun u hu q => ?_
  have := (bl_lt R.upS).mpr ⟨u, hu, show start ≤ u by omega, show u < stop by omega⟩
  omega
theorem told_law {start stop : Int} (h0 : 0 ≤ start) (h1 : start ≤ stop) (h2 : stop ≤ (page.length : Int)) : sd (Txt.slice page (some start) (some stop)) = toldF page fs ns start stop := by
  by_cases he : blF ns start = blF ns stop
  · rw [told_none R h0 h1 h2 he]
    unfold toldF
    rw [if_pos he]
  · obtain ⟨a, b, c, _, _, _, _, _, _, q, _⟩ := told_all R h0 h1 h2 he
    exact q
theorem key1_yes {start e u : Int} (h0 : 0 ≤ start) (h2 : e ≤ (page.length : Int)) (hu : u ∈ ns) (u1 : start ≤ u) (u2 : u < e) : bkG (key1 page start) e = true := by
  have hl := (bl_lt R.upS).mpr ⟨u, hu, u1, u2⟩
  obtain ⟨a, b, c, _, _, _, _, _, _, _, q, _⟩ := told_all R h0 (show start ≤ e by omega) h2 (by omega)
  unfold bkG key1
  rw [if_neg q]
  rfl
theorem key1_no {start e : Int} (h0 : 0 ≤ start) (h1 : start ≤ e) (h2 : e ≤ (page.length : Int)) (h : ∀ u ∈ ns, start ≤ u → e ≤ u) : bkG (key1 page start) e = false := by
  have hm := bl_mono R.upS h1
  have he : blF ns start = blF ns e := by
    by_cases q : blF ns start < blF ns e
    · obtain ⟨u, hu, u1, u2⟩ := (bl_lt R.upS).mp q
      have := h u hu u1
      omega
    · omega
  unfold bkG key1
  rw [if_pos (told_none R h0 h1 h2 he)]
  rfl
theorem key2_no1 {start e : Int} (h0 : 0 ≤ start) (h1 : start ≤ e) (h2 : e ≤ (page.length : Int)) (h : ∀ u ∈ ns, start ≤ u → e ≤ u) : bkG (key2 page start) e = false := by
  have hm := bl_mono R.upS h1
  have he : blF ns start = blF ns e := by
    by_cases q : blF ns start < blF ns e
    · obtain ⟨u, hu, u1, u2⟩ := (bl_lt R.upS).mp q
      have := h u hu u1
      omega
    · omega
  unfold bkG key2
  rw [if_pos (by rw [told_none R h0 h1 h2 he])]
  rfl
theorem key2_no {start e c : Int} (h0 : 0 ≤ start) (h1 : start ≤ e) (h2 : e ≤ (page.length : Int)) (ec : fs.getD (brF fs (ns.getD (blF ns start).toNat 0)).toNat 0 = c) (h : ∀ u ∈ ns, c ≤ u → e ≤ u) : bkG (key2 page start) e = false := by
  by_cases he : blF ns start = blF ns e
  · unfold bkG key2
    rw [if_pos (by rw [told_none R h0 h1 h2 he])]
    rfl
  · obtain ⟨a, b, c', ea, ib, _, hb, _, ec', _, _, q⟩ := told_all R h0 h1 h2 he
    rw [ea, ec'] at ec
    subst ec
    have hbc : b < c' := by
      by_cases q2 : c' ≤ b
      · have := h b ib q2; omega
      · omega
    unfold bkG key2
    rw [if_pos (q.mpr hbc)]
    rfl
theorem key2_yes {start e c u : Int} (h0 : 0 ≤ start) (h2 : e ≤ (page.length : Int)) (ec : fs.getD (brF fs (ns.getD (blF ns start).toNat 0)).toNat 0 = c) (hu : u ∈ ns) (u0 : start ≤ u) (u1 : c ≤ u) (u2 : u < e) : bkG (key2 page start) e = true := by
  have hl := (bl_lt R.upS).mpr ⟨u, hu, u0, u2⟩
  obtain ⟨a, b, c', ea, ib, _, hb, lb, ec', _, _, q⟩ := told_all R h0 (show start ≤ e by omega) h2 (by omega)
  rw [ea, ec'] at ec
  subst ec
  have hbu := lb u hu u2
  unfold bkG key2
  rw [if_neg (fun q2 => by have := q.mp q2; omega)]
  rfl
theorem found_law {start : Int} (h0 : 0 ≤ start) (h1 : start ≤ (page.length : Int)) : foundF page start = dueF page.length fs ns start := by
  have hr := blF_range ns start
  unfold foundF dueF
  have en : ((page.length + 1 : Nat) : Int) = (page.length : Int) + 1 := by omega
  rw [en]
  by_cases q : blF ns start = (ns.length : Int)
  · have hno := bl_none R.upS q
    have e1 : nextF ns start ((page.length : Int) + 1) = (page.length : Int) + 1 := by unfold nextF; rw [if_pos q]
    rw [if_pos e1]
    rw [bis_is (r := (page.length : Int) + 1) (by omega) (by omega) (fun i i1 i2 => key1_no R h0 i1 (by omega) fun u hu hs => by have := hno u hu; omega) (fun i i1 i2 => by omega),
      bis_is (r := (page.length : Int) + 1) (by omega) (by omega) (fun i i1 i2 => key2_no1 R h0 i1 (by omega) fun u hu hs => by have := hno u hu; omega) (fun i i1 i2 => by omega)]
  · have e1 : nextF ns start ((page.length : Int) + 1) = ns.getD (blF ns start).toNat 0 + 1 := by unfold nextF; rw [if_neg q]
    obtain ⟨ia, sa, la⟩ := bl_first R.upS (x := start) (by omega)
    rw [e1]
    have ra := (R.sol _).mp ia
    rw [if_neg (by omega)]
    have eb : ns.getD (blF ns start).toNat 0 + 1 - 1 = ns.getD (blF ns start).toNat 0 := by omega
    rw [eb]
    rw [bis_is (g := bkG (key1 page start)) (r := ns.getD (blF ns start).toNat 0 + 1) (by omega) (by omega) (fun i i1 i2 => key1_no R h0 i1 (by omega) fun u hu hs => by have := la u hu hs; omega) (fun i i1 i2 => key1_yes R h0 (by omega) ia sa (by omega))]
    have hk := fed_last R ra.2.1
    obtain ⟨ic, sc, lc⟩ := br_first R.upF hk
    have rc := fed_rng R ic
    generalize hc : fs.getD (brF fs (ns.getD (blF ns start).toNat 0)).toNat 0 = c at *
    have hr2 := blF_range ns c
    congr 1
    by_cases q2 : blF ns c = (ns.length : Int)
    · have hno := bl_none R.upS q2
      unfold nextF
      rw [if_pos q2]
      exact bis_is (by omega) (by omega) (fun i i1 i2 => key2_no R h0 i1 (by omega) hc fun u hu hs => by have := hno u hu; omega) (fun i i1 i2 => by omega)
    · obtain ⟨id, sdd, ld⟩ := bl_first R.upS (x := c) (by omega)
      have rd := (R.sol _).mp id
      unfold nextF
      rw [if_neg q2]
      exact bis_is (by omega) (by omega) (fun i i1 i2 => key2_no R h0 i1 (by omega) hc fun u hu hs => by have := ld u hu hs; omega) (fun i i1 i2 => key2_yes R h0 (by omega) hc id (by omega) sdd (by omega))
theorem rows_law (hn : page.length ≤ 50) (hf : fs.length ≤ 100) (hs : ns.length ≤ 100) : RowsOk page.length fs ns where
  small := hn
  fl := hf
  nl := hs
  rng := fun v hv => ⟨((R.sol v).mp hv).1, ((R.sol v).mp hv).2.1⟩
  frng := fun v hv => fed_rng R hv
  last := fun y hy => fed_last R hy
  more := fun k h0 h1 h => fed_next R h0 h1 h
  mono := fun x y h => bl_mono R.upS h
end
end Mine
end PartQ4
section PartP0
open PySem PySem.W PySem.Spec PySem.Calls PyProof.Rows PyProof.V
set_option maxRecDepth 100000
set_option maxHeartbeats 1000000
namespace Mine
abbrev sgn (k : Int) : Str := Txt.item (Str.ofString "ab \n\t") (k.fmod 5)
theorem fmod5 (k : Int) : k.fmod 5 = 0 ∨ k.fmod 5 = 1 ∨ k.fmod 5 = 2 ∨ k.fmod 5 = 3 ∨ k.fmod 5 = 4 := by
  have := Int.fmod_eq_emod_of_nonneg k (b := 5) (by decide)
  omega
theorem sgn_len (k : Int) : (sgn k).length = 1 := by
  unfold sgn
  rcases fmod5 k with h | h | h | h | h <;> rw [h] <;> decide +kernel
def pageF (ks : List Int) : Str := Txt.join (Str.ofString "") (ks.map sgn) ++ Str.ofString "a\n \nb"
theorem page_len (ns : List Int) : (pageF (ns.take 4)).length ≤ 9 := by
  unfold pageF
  rw [Str.length_append, KT.join_ones _ (fun a ha => by obtain ⟨b, _, eb⟩ := List.mem_map.1 ha; rw [← eb]; exact sgn_len b), List.length_map, List.length_take]
  have : (Str.ofString "a\n \nb").length = 5 := by decide +kernel
  omega
theorem fold_filter (P : Int → Prop) [DecidablePred P] : ∀ (ks l : List Int), ks.foldl (fun l k => if P k then l ++ [k] else l) l = l ++ ks.filter (fun k => decide (P k))
  | [], l => by simp
  | k :: r, l => by
    rw [List.foldl_cons, fold_filter P r, List.filter_cons]
    by_cases h : P k
    · simp [h]
    · simp [h]
def nlsF (page : Str) : List Int := (rangeKs 0 page.length).filter (fun k => decide (Txt.item page k = Str.ofString "\n"))
theorem nls_fold (page : Str) : (rangeKs 0 ((page.length : Int) - 0).toNat).foldl (fun l k => if Txt.item page k = Str.ofString "\n" then l ++ [k] else l) [] = nlsF page := by
  have e : ((page.length : Int) - 0).toNat = page.length := by omega
  rw [e]
  exact (fold_filter (fun k => Txt.item page k = Str.ofString "\n") _ []).trans (List.nil_append _)
def inAB (c : Str) : Bool := !(Builtin.Str.occurrences (Str.ofString "ab") c 0 (Str.ofString "ab").length 1).isEmpty
def solF (page : Str) : List Int := (rangeKs 0 page.length).filter (fun k => decide (inAB (Txt.item page k) = true))
theorem sol_fold (page : Str) : (rangeKs 0 ((page.length : Int) - 0).toNat).foldl (fun l k => if inAB (Txt.item page k) = true then l ++ [k] else l) [] = solF page := by
  have e : ((page.length : Int) - 0).toNat = page.length := by omega
  rw [e]
  exact (fold_filter (fun k => inAB (Txt.item page k) = true) _ []).trans (List.nil_append _)
abbrev fdsF (page : Str) : List Int := nlsF page ++ [(page.length : Int)]
/-- every sign of the page is one of the five -/
def Five (x : Str) : Prop := ∀ c ∈ x.cps.toList, c = 97 ∨ c = 98 ∨ c = 32 ∨ c = 10 ∨ c = 9
theorem five_append {x y : Str} (hx : Five x) (hy : Five y) : Five (x ++ y) := by
  intro c hc
  rw [Str.cps_append, Array.toList_append, List.mem_append] at hc
  exact hc.elim (hx c) (hy c)
theorem five_join {sep : Str} (hs : Five sep) : ∀ l : List Str, (∀ x ∈ l, Five x) → Five (Str.join sep l)
  | [], _ => by intro c hc; exact absurd hc (by show ¬ c ∈ (#[] : Array Nat).toList; simp)
  | [x], h => h x (.head _)
  | x :: y :: r, h => five_append (five_append (h x (.head _)) hs) (five_join hs (y :: r) fun z hz => h z (.tail _ hz))
theorem five_none : Five (Str.ofString "") := by
  intro c hc
  rw [show (Str.ofString "").cps.toList = [] from by decide +kernel] at hc
  exact absurd hc List.not_mem_nil
theorem five_end : Five (Str.ofString "a\n \nb") := by
  intro c hc
  rw [show (Str.ofString "a\n \nb").cps.toList = [97, 10, 32, 10, 98] from by decide +kernel] at hc
  simp only [List.mem_cons, List.not_mem_nil, or_false] at hc
  omega
theorem five_sgn (k : Int) : Five (sgn k) := by
  have : ∀ c : Nat, (c = 97 ∨ c = 98 ∨ c = 32 ∨ c = 10 ∨ c = 9) → ∀ x : Str, x = ⟨#[c]⟩ → Five x := by
    intro c hc x hx d hd
    subst hx
    have : d = c := by simpa using hd
    subst this
    exact hc
  unfold sgn
  rcases fmod5 k with h | h | h | h | h <;> rw [h]
  · exact this 97 (by omega) _ (by decide +kernel)
  · exact this 98 (by omega) _ (by decide +kernel)
  · exact this 32 (by omega) _ (by decide +kernel)
  · exact this 10 (by omega) _ (by decide +kernel)
  · exact this 9 (by omega) _ (by decide +kernel)
theorem five_page (ks : List Int) : Five (pageF ks) := by
  unfold pageF
  refine five_append ?_ five_end
  rw [show Txt.join (Str.ofString "") (ks.map sgn) = Str.join (Str.ofString "") (ks.map sgn) from StrLaws.glued_eq_join _ _]
  refine five_join five_none _ fun x hx => ?_
  obtain ⟨k, _, rfl⟩ := List.mem_map.mp hx
  exact five_sgn k
theorem item_cp {x : Str} {k : Int} (h0 : 0 ≤ k) (h1 : k < (x.length : Int)) : Txt.item x k = ⟨#[cp x k.toNat]⟩ := by
  obtain ⟨n, hn⟩ := StrLaws.some_at h0 h1
  have e := StrLaws.at_nonneg (x := x) h0 hn
  unfold Txt.item Txt.charAt
  rw [e]
  have : cp x k.toNat = n := StrLaws.getD_of_getElem? (by simpa using hn)
  rw [this]
  rfl
theorem inAB_iff (c : Nat) : inAB ⟨#[c]⟩ = true ↔ c = 97 ∨ c = 98 := by
  unfold inAB
  rw [StrLaws.found_one, decide_eq_true_iff, show (Str.ofString "ab").cps.toList = [97, 98] from by decide +kernel]
  simp
theorem range_mem {n : Nat} {k : Int} : k ∈ rangeKs 0 n ↔ 0 ≤ k ∧ k < (n : Int) := by
  constructor
  · intro h
    have := mem_rangeKs h
    omega
  · rintro ⟨h0, h1⟩
    exact List.mem_map.mpr ⟨k.toNat, List.mem_range.mpr (by omega), by omega⟩
theorem range_up (n : Nat) : (rangeKs 0 n).Pairwise (· < ·) := by
  unfold rangeKs
  rw [List.pairwise_map]
  exact List.Pairwise.imp (fun h => by omega) List.pairwise_lt_range
theorem nl_cp : Str.ofString "\n" = ⟨#[10]⟩ := by decide +kernel
theorem mem_nls {page : Str} {v : Int} : v ∈ nlsF page ↔ 0 ≤ v ∧ v < (page.length : Int) ∧ cp page v.toNat = 10 := by
  unfold nlsF
  rw [List.mem_filter, range_mem, decide_eq_true_iff]
  constructor
  · rintro ⟨⟨h0, h1⟩, h2⟩
    rw [item_cp h0 h1, nl_cp] at h2
    exact ⟨h0, h1, by simpa using h2⟩
  · rintro ⟨h0, h1, h2⟩
    refine ⟨⟨h0, h1⟩, ?_⟩
    rw [item_cp h0 h1, nl_cp, h2]
theorem mem_sol {page : Str} {v : Int} : v ∈ solF page ↔ 0 ≤ v ∧ v < (page.length : Int) ∧ (cp page v.toNat = 97 ∨ cp page v.toNat = 98) := by
  unfold solF
  rw [List.mem_filter, range_mem, decide_eq_true_iff]
  constructor
  · rintro ⟨⟨h0, h1⟩, h2⟩
    rw [item_cp h0 h1, inAB_iff] at h2
    exact ⟨h0, h1, h2⟩
  · rintro ⟨h0, h1, h2⟩
    refine ⟨⟨h0, h1⟩, ?_⟩
    rw [item_cp h0 h1, inAB_iff]
    exact h2
theorem rows_of {page : Str} (h5 : Five page) : Rows page (fdsF page) (solF page) where
  upS := up_of (List.Pairwise.filter _ (range_up _))
  upF := up_of (by
    rw [List.pairwise_append]
    refine ⟨List.Pairwise.filter _ (range_up _), List.pairwise_singleton _ _, fun a ha b hb => ?_⟩
    have := (mem_nls.mp ha).2.1
    rw [List.mem_singleton.mp hb]
    exact this)
  sol := fun _ => mem_sol
  fed := fun v => by
    rw [List.mem_append, mem_nls, List.mem_singleton]
    constructor
    · rintro (h | h)
      · exact .inr h
      · exact .inl h
    · rintro (h | h)
      · exact .inr h
      · exact .inl h
  abc := fun k hk => h5 _ (by
    have hk' : k < page.cps.size := hk
    simp [cp, Array.getD, hk'])
theorem rows_ok (ks : List Int) : RowsOk (pageF (ks.take 4)).length (fdsF (pageF (ks.take 4))) (solF (pageF (ks.take 4))) := by
  have hl := page_len ks
  have h5 := rows_of (five_page (ks.take 4))
  generalize pageF (ks.take 4) = page at *
  refine rows_law h5 (by omega) ?_ ?_
  · have := List.length_filter_le (fun k => decide (Txt.item page k = Str.ofString "\n")) (rangeKs 0 page.length)
    rw [rangeKs_length] at this
    unfold fdsF nlsF
    rw [List.length_append, List.length_singleton]
    omega
  · have := List.length_filter_le (fun k => decide (inAB (Txt.item page k) = true)) (rangeKs 0 page.length)
    rw [rangeKs_length] at this
    unfold solF
    omega
theorem plain_found (ks : List Int) (start : Int) (h0 : 0 ≤ start) (h1 : start ≤ ((pageF (ks.take 4)).length : Int)) : foundF (pageF (ks.take 4)) start = dueF (pageF (ks.take 4)).length (fdsF (pageF (ks.take 4))) (solF (pageF (ks.take 4))) start :=
  found_law (rows_of (five_page (ks.take 4))) h0 h1
theorem plain_told (ks : List Int) (start stop : Int) (h0 : 0 ≤ start) (h1 : start ≤ stop) (h2 : stop ≤ ((pageF (ks.take 4)).length : Int)) : sd (Txt.slice (pageF (ks.take 4)) (some start) (some stop)) = toldF (pageF (ks.take 4)) (fdsF (pageF (ks.take 4))) (solF (pageF (ks.take 4))) start stop :=
  told_law (rows_of (five_page (ks.take 4))) h0 h1 h2
end Mine
end PartP0
section PartL1
open PySem PySem.W PySem.Spec PySem.Calls PyProof.Rows
set_option maxRecDepth 100000
set_option maxHeartbeats 2000000
namespace Mine
local macro_rules | `(tactic| k_steps) => `(tactic| repeat' (first | (k_unfold; (try dsimp only)) | (k_end; wrow_close) | (walk1 <;> try dsimp only) | (dsimp only; walk1) | (leave1; walk_say "STEP leave1"; try dsimp only) | fail "no step"))
section
variable {prog : Program} {w : World} {A : Around} {E : Value → Shared → Prop} {s : Shared} {Q : Value → Shared → Prop} {y x : Str} {t u : Tok} {value slice : PySem.Expr} {i : Int}
theorem my_in (h : Q (.bool (inAB y)) s) : wpAny (model prog w) A (compareOp .In (.str y u) (.str (Str.ofString "ab") t)) Q E s := PyProof.Rows.in_str h
theorem my_sign (h0 : 0 ≤ i) (h1 : i < 0 + (((x.length : Int) - 0).toNat : Int)) (hx : x.length ≤ 9) (h : Q (.str (Txt.item x i) s.toks) { s with toks := s.toks + 1 })
    (hs : subscripted slice false (.str x t) (.int i u) = operate [.str x t, .int i u] (getItem (.str x t) (.int i u)) := by with_unfolding_all rfl)
    (ht : ∀ r, letTemporaryGo value (.str x t) r = pure () := by intro _; with_unfolding_all rfl) :
    wpAny (model prog w) A (subscriptTail value slice (.str x t) (.int i u)) Q E s :=
  item_str (fitsSsize_of (N := 9223372036854775808) (by omega) (by omega) (Int.le_refl _)) (by omega) (by omega) (fun _ => h) hs ht
end
theorem pick_feeds {h₀ h : Heap} {L : Addr} {a b c d e f g : Addr × Obj} (N : News h₀ L h [a, b, c, d, e, f, g]) : News h₀ L h [a, f, g] :=
  fun p hp => N p (by simp only [List.mem_cons, List.not_mem_nil, or_false] at hp ⊢; rcases hp with h | h | h <;> simp [h])
theorem h62_of {a b c : Addr × Obj} {own cds : List (Addr × Obj)} {ps : Array Value} {I : Addr} (hne : ∀ p ∈ a :: b :: c :: (62, tabObj ps) :: cds, p.1 ≠ I) (hO : ∀ p ∈ own, p.1 = I) (ha : a.1 ≠ 62) (hb : b.1 ≠ 62) (hc : c.1 ≠ 62) : ∀ q ∈ a :: b :: c :: own, q.1 ≠ 62 := by
  intro q hq
  simp only [List.mem_cons] at hq
  rcases hq with rfl | rfl | rfl | hq
  · exact ha
  · exact hb
  · exact hc
  · rw [hO q hq]
    exact fun e => hne (62, tabObj ps) (by simp) e.symm
/-- the walk halts here -/
def Stop (P : Prop) : Prop := P
theorem Stop.out {P : Prop} (h : Stop P) : P := h
theorem Stop.go {P : Prop} (h : P) : Stop P := h
local macro_rules | `(tactic| walk_at "eval ListComp") => `(tactic| (k_here; lct_look; refine Stop.out ?_))
local macro_rules | `(tactic| walk_at "exec Assign cons ListComp") => `(tactic| (k_here; lct_look; refine Stop.out ?_))
local macro_rules | `(tactic| walk_at "CompSrc") => `(tactic| (k_here; k_dflt (refine LCg.CompSrc.ledger (by rfl) (by k_asm) (by k_asm) (by k_mem) (by kcf_size) ?_; intro g'; (refine' kct_list sgn (by first | assumption | l_ints) (fun k' t' I' oI' C' oC' D' m' ys' h' tk' E' hk' hC' hx' F' N' off' ne' hMark' => ?_) ?_); (all_goals (try (simp only [LCg.Off3, and_true] at off'))); kcf_last)))
local macro_rules | `(tactic| walk_at "CompSrcT") => `(tactic| (k_here; refine Stop.out ?_))
local macro_rules | `(tactic| walk_at "call builtin:str.join") => `(tactic| (k_here; (with_reducible show wpAny _ _ (call (Value.builtin "str.join") [Value.str _ _, Value.ref _]) _ _ _); (with_reducible rename CarriedAll _ (List.map _ _) => ktC); (refine KT.join_1 (g := sgn) (by first | assumption | is_list | exact News.isList (by k_asm) (by k_mem)) ktC (fun a _ => sgn_len a) (by first | omega | kt_fact) ?_; intro _ _ ktE)))
local macro_rules | `(tactic| walk_at "compareOp In str str") => `(tactic| refine my_in ?_)
local macro_rules | `(tactic| walk_at "subscriptTail Name Name str int") => `(tactic| (with_unfolding_all refine' my_sign ?ka ?kb ?kc ?_ ?kd ?ke; (case ka => assumption); (case kb => assumption); (case kc => assumption); (case kd => with_unfolding_all rfl); (case ke => (intro _; with_unfolding_all rfl))))
local macro_rules | `(tactic| walk_at "pyIter ref") => `(tactic| (k_here; refine Stop.out ?_))
local macro_rules | `(tactic| walk_at "call ref") => `(tactic| (k_here; (with_reducible show wpAny _ _ (call (Value.ref 21) [Value.str _ _]) _ _ _); k_dflt (refine' sd_use ?kx ?k1 ?k2 ?k3 ?k4 ?k5 ?kK ?kd ?ku ?_; (case kx => omega); (case kK => first | exact rfl | assumption); (case k1 => k_asm); (case k2 => k_asm); (case k3 => k_asm); (case k4 => k_asm); (case k5 => k_asm); (case kd => ktr_room); (case ku => ktr_units); k_whole); intro D' t1' t2' c' h' tk' F' N' l1; (try clear l1); (try dsimp only)))
local macro_rules | `(tactic| walk_at "call ref") => `(tactic| (k_here; (with_reducible show wpAny _ _ (call (Value.ref 67) [Value.str _ _, Value.int _ _]) _ _ _); k_dflt (refine' found_use3 ?kt ?kp ?ka ?kb ?kc ?kC ?k1 ?k2 ?k3 ?k4 ?k5 ?kK ?kd ?ku ?_; (case kK => first | exact rfl | assumption); (case k1 => k_asm); (case k2 => k_asm); (case k3 => k_asm); (case k4 => k_asm); (case k5 => k_asm); (case kt => assumption); (case kp => assumption); (case ka => omega); (case kb => omega); (case kc => assumption); (case kC => assumption); (case kd => ktr_room); (case ku => ktr_units); k_whole); intro D' t1' t2' c' h' tk' ps' cds' ht' hc' F' N'; (try dsimp only)))
local macro_rules | `(tactic| walk_at "call ref") => `(tactic| (k_here; (with_reducible show wpAny _ _ (call (Value.ref 60) _) _ _ _); k_dflt (refine' due_use ?kf ?ki ?kR ?k1 ?k2 ?k3 ?k4 ?k5 ?kK ?km ?kn ?kd ?ku ?_; (case kK => first | exact rfl | assumption); (case k1 => k_asm); (case k2 => k_asm); (case k3 => k_asm); (case k4 => k_asm); (case k5 => k_asm); (case km => k_mem); (case kn => k_mem); (case kR => assumption); (case kf => assumption); (case ki => assumption); (case kd => ktr_room); (case ku => ktr_units); k_whole); intro D' t1' t2' c' h' tk' F' N'; (try dsimp only)))
local macro_rules | `(tactic| walk_at "call ref") => `(tactic| (k_here; (with_reducible show wpAny _ _ (call (Value.ref 46) _) _ _ _); k_dflt (refine' told_use ?kf ?ki ?kR ?ka ?kb ?kc ?k1 ?k2 ?k3 ?k4 ?k5 ?kK ?km ?kn ?kd ?ku ?_; (case kK => first | exact rfl | assumption); (case k1 => k_asm); (case k2 => k_asm); (case k3 => k_asm); (case k4 => k_asm); (case k5 => k_asm); (case km => k_mem); (case kn => k_mem); (case kR => assumption); (case kf => assumption); (case ki => assumption); (case ka => omega); (case kb => omega); (case kc => omega); (case kd => ktr_room); (case ku => ktr_units); k_whole); intro D' t1' t2' c' h' tk' F' N'; (try dsimp only)))
local macro_rules | `(tactic| walk_at "compareOp NotEq ref ref") => `(tactic| (k_here; (with_reducible show wpAny _ _ (compareOp CmpOp.NotEq (Value.ref _) (Value.ref _)) _ _ _); k_dflt (first
  | (refine' ne_sameI ?N ?a ?b ?e ?u ?_; (case N => k_asm); (case a => k_mem); (case b => k_mem); (case e => assumption); (case u => ktr_units))
  | (refine' ne_sameS ?N ?a ?b ?e ?u ?_; (case N => k_asm); (case a => k_mem); (case b => k_mem); (case e => assumption); (case u => ktr_units))); (try dsimp only)))
theorem walk_whole : PySem.Challenge.rw_ph0047_01.Holds := Mine.hd (by
  k_go0
  all_goals try k_fold
  k_steps
  rename IntsAre _ _ => hI4
  rename_i hlen
  refine Stop.go ?_
  generalize hpg : Txt.join (Str.ofString "") (List.map sgn _) ++ Str.ofString "a\n \nb" = page at *
  k_dflt (refine LCt.ListComp_T (F₀ := by k_asm) (by with_unfolding_all rfl) (by decide) (by rfl) (by decide) (by rfl) ?_)
  have hpl : page.length ≤ 9 := by rw [← hpg]; exact page_len _
  k_steps
  refine Stop.go ?_
  k_dflt (refine LCt.CompSrcT.range (by rfl) (by k_asm) (by k_asm) (by assumption) (small_one (by omega) (by omega) (by omega) (by omega)) (rangeSize_nat _ _) (by rw [PySem.sizeLine_eq]; omega) ?_; intro g'; (refine' kci_range (fun l k => if Txt.item page k = Str.ofString "\n" then l ++ [k] else l) (fun k' t' I' oI' C' oC' D' m' ys' l' h' tk' E' hlo' hhi' hI' hC' hx' F' N' off' ne' hMark' => ?_) ?_ ?_); (all_goals (try (simp only [LCg.Off3, and_true] at off'))))
  · k_steps
  · unfold KPfDone
    intro ys9 hf9 hl9
    rw [nls_fold] at hf9
    have hl8 : (nlsF page).length ≤ 9 := by rw [← hf9.length]; omega
    k_steps
    rename News _ _ _ _ => N1
    have N2 := pick_feeds N1
    clear N1
    repeat (rename (_ ≠ _ ∧ _) => o9; clear o9)
    repeat (rename (_ ≤ Str.length _ ∧ _) => o9; clear o9)
    refine Stop.go ?_
    k_dflt (refine LCt.Assign_ListComp_T (F₀ := by k_asm) (by rfl) (by with_unfolding_all rfl) (by with_unfolding_all rfl) (by decide) (by rfl) (by decide) (by rfl) (by rfl) (by rfl) ?_)
    k_steps
    refine Stop.go ?_
    k_dflt (refine LCt.CompSrcT.range (by rfl) (by k_asm) (by k_asm) (by assumption) (small_one (by omega) (by omega) (by omega) (by omega)) (rangeSize_nat _ _) (by rw [PySem.sizeLine_eq]; omega) ?_; intro g'; (refine' kci_range (fun l k => if inAB (Txt.item page k) = true then l ++ [k] else l) (fun k' t' I' oI' C' oC' D' m' ys' l' h' tk' E' hlo' hhi' hI' hC' hx' F' N' off' ne' hMark' => ?_) ?_ ?_); (all_goals (try (simp only [LCg.Off3, and_true] at off'))))
    · k_steps
      exact kci_no (if_neg (fun e => by rw [‹inAB (Txt.item page k') = false›] at e; exact absurd e (by decide))) rfl
    · unfold KPfDone
      intro ys8 hs9 hl7
      rw [sol_fold] at hs9
      have hl6 : (solF page).length ≤ 9 := by rw [← hs9.length]; omega
      have R9 : RowsOk page.length (fdsF page) (solF page) := by rw [← hpg]; exact rows_ok _
      have PF : ∀ start : Int, 0 ≤ start → start ≤ (page.length : Int) → foundF page start = dueF page.length (fdsF page) (solF page) start := by rw [← hpg]; exact plain_found _
      have PT : ∀ start stop : Int, 0 ≤ start → start ≤ stop → stop ≤ (page.length : Int) → sd (Txt.slice page (some start) (some stop)) = toldF page (fdsF page) (solF page) start stop := by rw [← hpg]; exact plain_told _
      k_steps
      rename News _ _ _ _ => N1
      rename Fr _ _ _ _ => F1
      rename (_ ≠ _ ∧ _ ≠ _ ∧ _ ≠ _) => o1
      refine Stop.go ?_
      refine outer_rule (Str.ofString "end") (by rfl) (by assumption) (small_one (by omega) (by omega) (by omega) (by omega)) (rangeSize_nat _ _) F1 N1 ?_ ?_
      · clear N1 F1
        intro i t u ps cds h tk I own hi ht hI hO hne F2 N2
        have hi' : (0 + (i : Int)) ≤ (page.length : Int) := by omega
        have hi0 : 0 ≤ (0 + (i : Int)) := by omega
        have pf := PF _ hi0 hi'
        have h62 := h62_of hne hO (Ne.symm o1.2.2) (Nat.ne_of_gt (by dsimp only; omega)) (Nat.ne_of_gt (by dsimp only; omega))
        have F3 : Fr _ (Array.size _) h _ := F2
        have N3 : News _ (Array.size _) h _ := N2
        clear F2 N2
        k_steps
        rename News _ _ _ _ => N4
        rename Fr _ _ _ _ => F4
        refine Stop.go ?_
        refine inner_rule4 (by rfl) (by assumption) (small_one (by omega) (by omega) (by omega) (by omega)) (rangeSize_nat _ _) F4 (less_news (less_news N4)) ?_ ?_
        · clear N4 F4 F3 N3
          intro j t2 u2 h2 tk2 I2 own2 hj hne2 F2 N2
          have hj' : (0 + (i : Int)) + (j : Int) ≤ (page.length : Int) := by omega
          have hj0 : (0 + (i : Int)) ≤ (0 + (i : Int)) + (j : Int) := by omega
          have pt := PT _ _ hi0 hj0 hj'
          have F3 : Fr _ (Array.size _) h2 _ := F2
          have N3 : News _ (Array.size _) h2 _ := N2
          clear F2 N2
          k_steps
          rename News _ _ _ _ => N4
          rename Fr _ _ _ _ => F4
          exact inner_end F4 N4 (fun p hp => .tail _ (.tail _ hp)) hne2
        · intro u2 h2 tk2 F2 N2
          k_steps
          rename TabOk _ _ => ht9
          rename (_ = cds ∨ _) => hc9
          exact outer_end F2 N2 ht9 hc9 hI hne
      · intro u ps cds h tk ht F2 N2
        k_steps
    · intro l k
      dsimp only
      split
      · rw [List.length_append]; exact Nat.le_refl _
      · omega
  · intro l k
    dsimp only
    split
    · rw [List.length_append]; exact Nat.le_refl _
    · omega)
end Mine
end PartL1
set_option maxRecDepth 100000 in
set_option maxHeartbeats 8000000 in
theorem PySem.Challenge.cw_ph0047_01_holds : PySem.Challenge.rw_ph0047_01.Holds :=
  Mine.walk_whole
