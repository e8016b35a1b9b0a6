import PyProof.Rows.All
import Wide.All
import OpenK.AllK
import Wide.FinOn
import PySem.Challenge.RW_dm0085_01
open PySem PySem.W PyProof.Rows
set_option Elab.async false
set_option maxRecDepth 100000
set_option maxHeartbeats 8000000
set_option linter.unusedSimpArgs false
namespace Mine
open_top hd for PySem.Challenge.rw_dm0085_01
end Mine

namespace Mine
abbrev TopH (mean : ExcName → Option Value) (mg mb : Str → Option Value) (h : Heap) : Prop :=
  Top hd.view_39 (looseW hd.view_39 [Str.ofString "ascii_letters", Str.ofString "_QByteMap"]) mean mg mb h

def small (x : Int) : Int := if -1000000 < x ∧ x < 2000000 then x else x.fmod 1114112
def keyOf (x : Int) : Int := if (if x < 0 then -x else x) < 7 ^ Int.toNat 12 then x else if x > 0 then x.fmod (7 ^ Int.toNat 12) else -((-x).fmod (7 ^ Int.toNat 12))
theorem keyOf_a {x : Int} (h : (if x < 0 then -x else x) < 7 ^ Int.toNat 12) : x = keyOf x := by unfold keyOf; rw [if_pos h]
theorem keyOf_b {x : Int} (h : ¬ (if x < 0 then -x else x) < 7 ^ Int.toNat 12) (h' : x > 0) : x.fmod (7 ^ Int.toNat 12) = keyOf x := by unfold keyOf; rw [if_neg h, if_pos h']
theorem keyOf_c {x : Int} (h : ¬ (if x < 0 then -x else x) < 7 ^ Int.toNat 12) (h' : ¬ x > 0) : -((-x).fmod (7 ^ Int.toNat 12)) = keyOf x := by unfold keyOf; rw [if_neg h, if_neg h']

theorem small_call : ∀ (w : World) (mean : ExcName → Option Value) (mg mb : Str → Option Value) (x : Int) (t : Tok) (dp un : Nat) (gd : Option (List Code)) (cn : Str) (cs : Scope) (a : Addr) (ccd : Value) (cl : List (Str × Addr)) (outer : List Env) (A₀ : Around) (base h₀ : Heap) (L : Addr) (m : Str → Option Value) (s : Shared) (Q E : Value → Shared → Prop) (news : List (Addr × Obj)),
    Below A₀ base outer h₀ → Fr h₀ L s.heap m → (hd.heap_39 w.params).In h₀ → News h₀ L s.heap news → TopH mean mg mb h₀ → cs.kind = .function →
    dp + 1 < recursionLimit → un + 8 < cLine →
    (∀ (t : Tok) (h' : Heap) (tk' : Nat), Fr h₀ L h' m → News h₀ L h' news → Q (.int (small x) t) { s with heap := h', toks := tk' }) →
      wpAny (model PySem.Challenge.rw_dm0085_01.row.prog w) (ktrTop dp un gd cn cs L a ccd cl outer) (call (.ref 42) [.int x t]) Q E s := by
  k_fill
  intros
  rename_i hret
  refine wpAny_call ?_
  k_dflt cell_enter
  k_with "tree" => (unfold small; first | (rw [if_pos (by omega)]) | (rw [if_neg (by omega)]))
  k_steps
  all_goals cb_end hret

theorem key_call : ∀ (w : World) (mean : ExcName → Option Value) (mg mb : Str → Option Value) (x : Int) (t : Tok) (dp un : Nat) (gd : Option (List Code)) (cn : Str) (cs : Scope) (a : Addr) (ccd : Value) (cl : List (Str × Addr)) (outer : List Env) (A₀ : Around) (base h₀ : Heap) (L : Addr) (m : Str → Option Value) (s : Shared) (Q E : Value → Shared → Prop) (news : List (Addr × Obj)),
    Below A₀ base outer h₀ → Fr h₀ L s.heap m → (hd.heap_39 w.params).In h₀ → News h₀ L s.heap news → TopH mean mg mb h₀ → cs.kind = .function →
    dp + 1 < recursionLimit → un + 8 < cLine →
    (∀ (t : Tok) (h' : Heap) (tk' : Nat), Fr h₀ L h' m → News h₀ L h' news → Q (.int (keyOf x) t) { s with heap := h', toks := tk' }) →
      wpAny (model PySem.Challenge.rw_dm0085_01.row.prog w) (ktrTop dp un gd cn cs L a ccd cl outer) (call (.ref 49) [.int x t]) Q E s := by
  k_fill
  intros
  rename_i hret
  refine wpAny_call ?_
  k_dflt cell_enter
  k_steps
  all_goals (refine cb_retI hret ?_ (by k_asm) (by k_asm))
  · exact keyOf_a (by assumption)
  · exact keyOf_b (by assumption) (by assumption)
  · exact keyOf_c (by assumption) (by assumption)
end Mine

namespace Mine
def Stop (P : Prop) : Prop := P
theorem Stop.here {P : Prop} (h : Stop P) : P := h
theorem fr_as {h₀ h : Heap} {L : Addr} {m : Str → Option Value} {a : Str} {v : Value} (F : Fr h₀ L h m) (e : m a = some v) : Fr h₀ L h (fun y => if y = a then some v else m y) := by
  have : (fun y => if y = a then some v else m y) = m := by
    funext y
    by_cases hy : y = a
    · rw [if_pos hy, hy, e]
    · rw [if_neg hy]
  rw [this]; exact F

theorem fr_as3 {h₀ h : Heap} {L : Addr} {m : Str → Option Value} {a b c : Str} {u v w : Value} (F : Fr h₀ L h m) (e1 : m a = some u) (e2 : m b = some v) (e3 : m c = some w) :
    Fr h₀ L h (fun y => if y = a then some u else if y = b then some v else if y = c then some w else m y) := by
  have : (fun y => if y = a then some u else if y = b then some v else if y = c then some w else m y) = m := by
    funext y
    by_cases h1 : y = a
    · rw [if_pos h1, h1, e1]
    · rw [if_neg h1]
      by_cases h2 : y = b
      · rw [if_pos h2, h2, e2]
      · rw [if_neg h2]
        by_cases h3 : y = c
        · rw [if_pos h3, h3, e3]
        · rw [if_neg h3]
  rw [this]; exact F

def hexD (d : Nat) : Nat := if d < 10 then 48 + d else 55 + d
def hexL (n : Nat) : List Nat := if h : n = 0 then [] else hexL (n / 16) ++ [hexD (n % 16)]
termination_by n
decreasing_by omega

theorem hexL_zero : hexL 0 = [] := by rw [hexL]; rfl
theorem hexL_pos {n : Nat} (h : n ≠ 0) : hexL n = hexL (n / 16) ++ [hexD (n % 16)] := by rw [hexL]; simp [h]
theorem hexL_len : ∀ (k n : Nat), n < 16 ^ k → (hexL n).length ≤ k := by
  intro k
  induction k with
  | zero => intro n h; have : n = 0 := by simpa using h
            subst this; rw [hexL_zero]; exact Nat.le_refl _
  | succ k ih =>
    intro n h
    by_cases h0 : n = 0
    · subst h0; rw [hexL_zero]; simp
    · rw [hexL_pos h0, List.length_append]
      have := ih (n / 16) (by rw [Nat.pow_succ] at h; omega)
      simp only [List.length_cons, List.length_nil]; omega
theorem item_hex : ∀ r : Nat, r < 16 → (Txt.item (Str.ofString "0123456789ABCDEF") (r : Int)).cps.toList = [hexD r] := by decide +kernel
theorem fmod16 {l : Int} (h : 0 ≤ l) : l.fmod 16 = ((l.toNat % 16 : Nat) : Int) := by
  rw [Int.fmod_eq_emod_of_nonneg _ (by decide)]; omega
def figures (x : Int) : Str := if x < 0 then Str.ofString "=-" ++ ⟨(hexL x.natAbs).toArray⟩ else Str.ofString "=" ++ Txt.mul (Str.ofString "0") (2 - ((hexL x.natAbs).length : Int)) ++ ⟨(hexL x.natAbs).toArray⟩
theorem str_of_list {X : Str} {l : List Nat} (h : X.cps.toList = l) : X = ⟨l.toArray⟩ := by subst h; rfl
theorem len_of_list {X : Str} {l : List Nat} (h : X.cps.toList = l) : X.length = l.length := by subst h; show X.cps.size = _; simp
theorem fig_neg {x : Int} {X : Str} {l : Int} (h : hexL l.toNat ++ X.cps.toList = hexL x.natAbs) (hl : ¬ l > 0) (hx : x < 0) : Str.ofString "=-" ++ X = figures x := by
  have : l.toNat = 0 := by omega
  rw [this, hexL_zero, List.nil_append] at h
  unfold figures; rw [if_pos hx, str_of_list h]
theorem fig_pos {x : Int} {X : Str} {l : Int} (h : hexL l.toNat ++ X.cps.toList = hexL x.natAbs) (hl : ¬ l > 0) (hx : ¬ x < 0) : Str.ofString "=" ++ Txt.mul (Str.ofString "0") (2 - (X.length : Int)) ++ X = figures x := by
  have : l.toNat = 0 := by omega
  rw [this, hexL_zero, List.nil_append] at h
  unfold figures; rw [if_neg hx, len_of_list h, str_of_list h]
theorem fig_turn {x l : Int} {X : Str} (hl : 0 ≤ l) (hp : l > 0) (h : hexL l.toNat ++ X.cps.toList = hexL x.natAbs) :
    hexL (l.fdiv 16).toNat ++ (Txt.item (Str.ofString "0123456789ABCDEF") (l.fmod 16) ++ X).cps.toList = hexL x.natAbs := by
  rw [← h, hexL_pos (n := l.toNat) (by omega), fmod16 hl, PySem.Str.cps_append, Array.toList_append, item_hex _ (by omega)]
  have : (l.fdiv 16).toNat = l.toNat / 16 := by rw [Int.fdiv_eq_ediv_of_nonneg _ (by decide)]; omega
  rw [this, List.append_assoc]
theorem fig_len {x l : Int} {X : Str} (h : hexL l.toNat ++ X.cps.toList = hexL x.natAbs) (h1 : -14000000000 < x) (h2 : x < 14000000000) : X.length ≤ 16 := by
  have := hexL_len 9 x.natAbs (by omega)
  rw [← h, List.length_append] at this
  have e : X.length = X.cps.toList.length := by show X.cps.size = _; simp
  omega

def figJ (x : Int) (news : List (Addr × Obj)) (n : Nat) (m : Str → Option Value) (news' : List (Addr × Obj)) : Prop :=
  news' = news ∧ ∃ (l : Int) (X : Str) (t1 t2 t3 : Tok), 0 ≤ l ∧ n = l.toNat ∧ m (Str.ofString "number") = some (.int x t3) ∧ m (Str.ofString "left") = some (.int l t1) ∧ m (Str.ofString "text") = some (.str X t2) ∧ hexL l.toNat ++ X.cps.toList = hexL x.natAbs ∧ X.length ≤ 16

theorem figures_call : ∀ (w : World) (mean : ExcName → Option Value) (mg mb : Str → Option Value) (x : Int) (t : Tok) (dp un : Nat) (gd : Option (List Code)) (cn : Str) (cs : Scope) (a : Addr) (ccd : Value) (cl : List (Str × Addr)) (outer : List Env) (A₀ : Around) (base h₀ : Heap) (L : Addr) (m : Str → Option Value) (s : Shared) (Q E : Value → Shared → Prop) (news : List (Addr × Obj)),
    Below A₀ base outer h₀ → Fr h₀ L s.heap m → (hd.heap_39 w.params).In h₀ → News h₀ L s.heap news → TopH mean mg mb h₀ → cs.kind = .function →
    dp + 1 < recursionLimit → un + 8 < cLine → -14000000000 < x → x < 14000000000 → 
    (∀ (t : Tok) (h' : Heap) (tk' : Nat), Fr h₀ L h' m → News h₀ L h' news → Q (.str (figures x) t) { s with heap := h', toks := tk' }) →
      wpAny (model PySem.Challenge.rw_dm0085_01.row.prog w) (ktrTop dp un gd cn cs L a ccd cl outer) (call (.ref 56) [.int x t]) Q E s := by
  k_fill
  intro w mean mg mb x t dp un gd cn cs a ccd cl outer A₀ base h₀ L m s Q E news
  intros
  rename_i hret
  refine wpAny_call ?_
  k_dflt cell_enter
  k_with "exec While Compare cons nil" => refine Stop.here ?_
  k_steps
  k_with_none
  unfold Stop
  refine While_inv (figJ x news) (n₀ := x.natAbs) (by k_asm) (by k_asm) ?J0 ?turn
  case J0 =>
    refine ⟨rfl, (if x < 0 then -x else x), Str.ofString "", _, _, _, ?_, ?_, rfl, rfl, rfl, ?_, by decide⟩
    · split <;> omega
    · split <;> omega
    · have e : (if x < 0 then -x else x).toNat = x.natAbs := by split <;> omega
      have e2 : (Str.ofString "").cps.toList = [] := by decide
      rw [e, e2, List.append_nil]
  rintro n m₁ news₁ h₁ tk₁ F₁ N₁ ⟨rfl, l, X, t1, t2, t3, hl, hn, e1, e2, e3, hx, hX⟩
  have F₂ := fr_as3 F₁ e1 e2 e3
  clear F₁
  k_steps
  · refine WhileStep.intro (n' := (l.fdiv 16).toNat) (by k_asm) (by k_asm) ?_ ⟨rfl, l.fdiv 16, _, _, _, _, ?_, rfl, rfl, rfl, rfl, fig_turn hl (by assumption) hx, fig_len (fig_turn hl (by assumption) hx) (by assumption) (by assumption)⟩
    · rw [Int.fdiv_eq_ediv_of_nonneg _ (by decide)]; omega
    · rw [Int.fdiv_eq_ediv_of_nonneg _ (by decide)]; omega
  · exact cb_retS hret (fig_neg hx (by assumption) (by assumption)) (by k_asm) (by k_asm)
  · exact cb_retS hret (fig_pos hx (by assumption) (by assumption)) (by k_asm) (by k_asm)
end Mine

namespace Mine
abbrev prg : Program := PySem.Challenge.rw_dm0085_01.row.prog

def txt : Value → Str
  | .str x _ => x
  | _ => Str.empty
def look (ps : List (Int × Str)) (k : Int) : Option Str := (ps.find? fun p => p.1 = k).map (·.2)
def AllStr (kvs : List (Int × Value)) : Prop := ∀ p ∈ kvs, ∃ x t, p.2 = Value.str x t
def txts (kvs : List (Int × Value)) : List (Int × Str) := kvs.map fun p => (p.1, txt p.2)

theorem look_txts_none {kvs : List (Int × Value)} {k : Int} (h : look (txts kvs) k = none) : valueAt kvs k = none := by
  induction kvs with
  | nil => rfl
  | cons p r ih =>
    unfold look txts valueAt at *
    simp only [List.map_cons, List.find?_cons] at h ⊢
    by_cases e : p.1 = k
    · simp [e] at h
    · simp only [e, decide_false] at h ⊢; exact ih h
theorem look_txts_some {kvs : List (Int × Value)} {k : Int} {x : Str} (ha : AllStr kvs) (h : look (txts kvs) k = some x) : ∃ t, valueAt kvs k = some (.str x t) := by
  induction kvs with
  | nil => simp [look, txts] at h
  | cons p r ih =>
    have hr : AllStr r := fun q hq => ha q (.tail _ hq)
    unfold look txts valueAt at *
    simp only [List.map_cons, List.find?_cons] at h ⊢
    by_cases e : p.1 = k
    · obtain ⟨y, t, hy⟩ := ha p (.head _)
      simp [e, hy, txt] at h
      subst h
      exact ⟨t, by simp [e, hy]⟩
    · simp only [e, decide_false] at h ⊢; exact ih hr h

/-- a dict of texts under whole numbers, in their order -/
def KObj (w : World) (o : Obj) (ps : List (Int × Str)) : Prop := ∃ kvs, o.IsDictOf (intKind prg w) kvs ∧ AllStr kvs ∧ ps = txts kvs

def repl (news : List (Addr × Obj)) (d : Addr) (o : Obj) : List (Addr × Obj) := news.map fun p => if p.1 = d then (d, o) else p

theorem stored_absent {kvs : List (Int × Value)} {k : Int} {v : Value} (h : valueAt kvs k = none) : stored kvs k v = kvs ++ [(k, v)] := by
  unfold stored
  rw [if_neg]
  intro he
  rw [List.any_eq_true] at he
  obtain ⟨p, hp, e⟩ := he
  unfold valueAt at h
  rw [Option.map_eq_none_iff, List.find?_eq_none] at h
  exact h p hp e

section
variable {w : World} {A : Around} {E : Value → Shared → Prop} {s : Shared} {h₀ : Heap} {L : Addr} {m : Str → Option Value} {news : List (Addr × Obj)} {kd : Addr} {ko : Obj} {ps : List (Int × Str)} {k : Int} {t : Tok}

theorem in_kept {Q : Value → Shared → Prop} (N : News h₀ L s.heap news) (hm : (kd, ko) ∈ news) (hK : KObj w ko ps) (hds : (kd == sysModules) = false)
    (h : ∀ x, look ps k = some x → Q (.bool true) { s with toks := s.toks + 1 }) (h' : look ps k = none → Q (.bool false) { s with toks := s.toks + 1 }) :
    wpAny (model prg w) A (compareOp .In (.int k t) (.ref kd)) Q E s := by
  obtain ⟨kvs, hd, ha, rfl⟩ := hK
  have hdo : s.heap.DictOf (intKind prg w) kd kvs := Heap.dictOf_iff.mpr ⟨ko, (N _ hm).1, hd⟩
  refine wpAny_in_of (intKind_is _ _ k t) hds hdo.mapOf ?_
  cases e : look (txts kvs) k with
  | none => rw [look_txts_none e]; exact h' e
  | some x => obtain ⟨u, hu⟩ := look_txts_some ha e; rw [hu]; exact h x e

theorem item_kept {value slice : PySem.Expr} {x : Str} {Q : Value → Shared → Prop} (N : News h₀ L s.heap news) (hm : (kd, ko) ∈ news) (hK : KObj w ko ps) (hx : look ps k = some x)
    (h : ∀ u, Q (.str x u) { s with toks := s.toks + 1 })
    (hs : subscripted slice false (.ref kd) (.int k t) = operate [.ref kd, .int k t] (getItem (.ref kd) (.int k t)) := by with_unfolding_all rfl) :
    wpAny (model prg w) A (subscriptTail value slice (.ref kd) (.int k t)) Q E s := by
  obtain ⟨kvs, hd, ha, rfl⟩ := hK
  have hdo : s.heap.DictOf (intKind prg w) kd kvs := Heap.dictOf_iff.mpr ⟨ko, (N _ hm).1, hd⟩
  obtain ⟨u, hu⟩ := look_txts_some ha hx
  exact tail_any hdo.typeIs slot_dict_getitem.lookup (wpAny_getItem_of (intKind_is _ _ k t) hdo.mapOf hu (h u)) hs

theorem look_push {ps : List (Int × Str)} {k : Int} {x : Str} (h : look ps k = none) : look (ps ++ [(k, x)]) k = some x := by
  unfold look at *
  rw [Option.map_eq_none_iff] at h
  rw [List.find?_append, h]
  simp

theorem put_kept {x : Str} {u : Tok} {Q : Unit → Shared → Prop} (F : Fr h₀ L s.heap m) (N : News h₀ L s.heap news) (hm : (kd, ko) ∈ news) (hK : KObj w ko ps) (hx : look ps k = none) (hl : ps.length < 10000)
    (h : ∀ h' ko', Fr h₀ L h' m → News h₀ L h' (repl news kd ko') → KObj w ko' (ps ++ [(k, x)]) → Q () { s with heap := h', toks := s.toks + 1 }) :
    wpAny (model prg w) A (setItem (.ref kd) (.int k t) (.str x u)) Q E s := by
  obtain ⟨kvs, hd, ha, rfl⟩ := hK
  have hdo : s.heap.DictOf (intKind prg w) kd kvs := Heap.dictOf_iff.mpr ⟨ko, (N _ hm).1, hd⟩
  refine wpAny_setItem_pairs (intKind_is _ _ k t) hdo (fun h' hd' hs' => ?_) (by unfold txts at hl; rw [List.length_map] at hl; unfold sizeLine; omega)
  obtain ⟨ko', hko', hd'⟩ := Heap.dictOf_iff.mp hd'
  rw [stored_absent (look_txts_none hx)] at hd'
  refine h h' ko' (F.change hs' (N _ hm).2.1 (N _ hm).2.2) (N.replace hs' hko') ⟨_, hd', fun p hp => ?_, by simp [txts, txt]⟩
  rcases List.mem_append.mp hp with hp | hp
  · exact ha p hp
  · rw [List.mem_singleton.mp hp]; exact ⟨x, u, rfl⟩
theorem mem_repl {news : List (Addr × Obj)} {d : Addr} {o' : Obj} {o : Obj} (h : (d, o) ∈ news) : (d, o') ∈ repl news d o' :=
  List.mem_map.mpr ⟨(d, o), h, by simp⟩
theorem mem_repl_ne {news : List (Addr × Obj)} {d a : Addr} {o o' : Obj} (h : (a, o) ∈ news) (hn : a ≠ d) : (a, o) ∈ repl news d o' :=
  List.mem_map.mpr ⟨(a, o), h, by simp [hn]⟩

theorem notin_mem {sd : Addr} {so : Obj} {S : Int → Bool} {n : Nat} {Q : Value → Shared → Prop} (N : News h₀ L s.heap news) (hm : (sd, so) ∈ news) (hso : so.SetObjOf (intKind prg w) S n) (hb : n < scanBound)
    (h1 : S k = true → Q (.bool false) { s with toks := s.toks + 1 }) (h2 : S k = false → Q (.bool true) { s with toks := s.toks + 1 }) :
    wpAny (model prg w) A (compareOp .NotIn (.int k t) (.ref sd)) Q E s := by
  refine wpAny_notInSet_of (intKind_is _ _ k t) rfl (hso.setOf (N _ hm).1 hb) ?_
  cases e : S k with
  | true => exact h1 e
  | false => exact h2 e
end

/-- what a reading gives: the text kept; else by the members -/
def dueR (oct : Bool) (S : Int → Bool) (ps : List (Int × Str)) (k : Int) : Option Str :=
  match look ps k with
  | some x => some x
  | none => if oct = true ∧ ¬ (0 ≤ k ∧ k < 256) then none else if S k = false then some (figures k) else if 0 ≤ k ∧ k < 1114112 then some ⟨#[k.toNat]⟩ else none
def putR (ps : List (Int × Str)) (k : Int) (r : Option Str) : List (Int × Str) :=
  match look ps k, r with
  | none, some x => ps ++ [(k, x)]
  | _, _ => ps
def tupR (r : Option Str) (u : Tok) : Obj := { cls := .type "tuple", data := .seq #[.bool r.isSome, .str (r.getD (Str.ofString "")) u] }
end Mine

namespace Mine
theorem repl_self {h₀ h : Heap} {L : Addr} {news : List (Addr × Obj)} {d : Addr} {o : Obj} (N : News h₀ L h news) (hm : (d, o) ∈ news) : repl news d o = news := by
  unfold repl
  conv => rhs; rw [← List.map_id news]
  refine List.map_congr_left fun p hp => ?_
  by_cases e : p.1 = d
  · rw [if_pos e]
    have h1 := (N p hp).1
    have h2 := (N _ hm).1
    rw [e] at h1
    have e2 : p.2 = o := Option.some.inj (h1.symm.trans h2)
    show (d, o) = p
    rw [← e, ← e2]
  · rw [if_neg e]; rfl
theorem dueR_hit {oct : Bool} {S : Int → Bool} {ps : List (Int × Str)} {k : Int} {x : Str} (h : look ps k = some x) : dueR oct S ps k = some x := by unfold dueR; rw [h]
theorem dueR_oct {oct : Bool} {S : Int → Bool} {ps : List (Int × Str)} {k : Int} (h : look ps k = none) (ho : oct = true) (hk : ¬ (0 ≤ k ∧ k < 256)) : dueR oct S ps k = none := by unfold dueR; rw [h]; dsimp only; rw [if_pos ⟨ho, hk⟩]
theorem dueR_fig {oct : Bool} {S : Int → Bool} {ps : List (Int × Str)} {k : Int} (h : look ps k = none) (ho : oct = false ∨ (0 ≤ k ∧ k < 256)) (hS : S k = false) : dueR oct S ps k = some (figures k) := by
  unfold dueR; rw [h]; dsimp only; rw [if_neg (fun q => ho.elim (fun e => by rw [e] at q; exact absurd q.1 (by decide)) q.2), if_pos hS]
theorem dueR_chr {oct : Bool} {S : Int → Bool} {ps : List (Int × Str)} {k : Int} (h : look ps k = none) (ho : oct = false ∨ (0 ≤ k ∧ k < 256)) (hS : S k = true) (hk : 0 ≤ k ∧ k < 1114112) : dueR oct S ps k = some ⟨#[k.toNat]⟩ := by
  unfold dueR; rw [h]; dsimp only; rw [if_neg (fun q => ho.elim (fun e => by rw [e] at q; exact absurd q.1 (by decide)) q.2), if_neg (by rw [hS]; decide), if_pos hk]
theorem dueR_out {oct : Bool} {S : Int → Bool} {ps : List (Int × Str)} {k : Int} (h : look ps k = none) (ho : oct = false ∨ (0 ≤ k ∧ k < 256)) (hS : S k = true) (hk : ¬ (0 ≤ k ∧ k < 1114112)) : dueR oct S ps k = none := by
  unfold dueR; rw [h]; dsimp only; rw [if_neg (fun q => ho.elim (fun e => by rw [e] at q; exact absurd q.1 (by decide)) q.2), if_neg (by rw [hS]; decide), if_neg hk]
theorem putR_hit {ps : List (Int × Str)} {k : Int} {x : Str} {r : Option Str} (h : look ps k = some x) : putR ps k r = ps := by unfold putR; rw [h]
theorem putR_none {ps : List (Int × Str)} {k : Int} : putR ps k none = ps := by unfold putR; cases look ps k <;> rfl
theorem putR_some {ps : List (Int × Str)} {k : Int} {x : Str} (h : look ps k = none) : putR ps k (some x) = ps ++ [(k, x)] := by unfold putR; rw [h]
def DueRet (w : World) (h₀ : Heap) (L : Addr) (m : Str → Option Value) (news : List (Addr × Obj)) (kd : Addr) (s : Shared) (Q : Value → Shared → Prop) (r : Option Str) (ps' : List (Int × Str)) : Prop :=
  ∀ (tt : Addr) (u : Tok) (ko' : Obj) (h' : Heap) (tk' : Nat), Fr h₀ L h' m → News h₀ L h' ((tt, tupR r u) :: repl news kd ko') → (∀ p ∈ news, p.1 < tt) → KObj w ko' ps' → Q (.ref tt) { s with heap := h', toks := tk' }
section
variable {w : World} {h₀ : Heap} {L : Addr} {m : Str → Option Value} {news : List (Addr × Obj)} {kd : Addr} {s : Shared} {Q : Value → Shared → Prop} {r : Option Str} {oct : Bool} {S : Int → Bool} {ps : List (Int × Str)} {k : Int} {ko : Obj} {tt : Addr} {u : Tok} {h' : Heap} {tk' : Nat} {x : Str}
theorem due_same (hret : DueRet w h₀ L m news kd s Q (dueR oct S ps k) (putR ps k (dueR oct S ps k))) (hmk : (kd, ko) ∈ news) (hK : KObj w ko ps) (hr : dueR oct S ps k = r) (hp : putR ps k r = ps)
    (F : Fr h₀ L h' m) (N : News h₀ L h' ((tt, tupR r u) :: news)) (l : ∀ p ∈ news, p.1 < tt) : Q (.ref tt) { s with heap := h', toks := tk' } := by
  rw [hr, hp] at hret
  refine hret tt u ko h' tk' F ?_ l hK
  rw [repl_self (fun p hp => N p (.tail _ hp)) hmk]; exact N
theorem due_put (hret : DueRet w h₀ L m news kd s Q (dueR oct S ps k) (putR ps k (dueR oct S ps k))) (hr : dueR oct S ps k = some x) (hl : look ps k = none)
    (F : Fr h₀ L h' m) (N : News h₀ L h' ((tt, tupR (some x) u) :: repl news kd ko)) (l : ∀ p ∈ repl news kd ko, p.1 < tt) (hK : KObj w ko (ps ++ [(k, x)])) : Q (.ref tt) { s with heap := h', toks := tk' } := by
  rw [hr, putR_some hl] at hret
  refine hret tt u ko h' tk' F N (fun p hp => ?_) hK
  have h2 : (if p.1 = kd then (kd, ko) else p) ∈ repl news kd ko := List.mem_map.mpr ⟨p, hp, rfl⟩
  have := l _ h2
  by_cases e : p.1 = kd
  · rw [if_pos e] at this; rw [e]; exact this
  · rw [if_neg e] at this; exact this
end
theorem due_call : ∀ (w : World) (mean : ExcName → Option Value) (mg mb : Str → Option Value) (oct : Bool) (S : Int → Bool) (n : Nat) (sd kd : Addr) (so ko : Obj) (ps : List (Int × Str)) (k : Int) (t : Tok) (dp un : Nat) (gd : Option (List Code)) (cn : Str) (cs : Scope) (a : Addr) (ccd : Value) (cl : List (Str × Addr)) (outer : List Env) (A₀ : Around) (base h₀ : Heap) (L : Addr) (m : Str → Option Value) (s : Shared) (Q E : Value → Shared → Prop) (news : List (Addr × Obj)),
    Below A₀ base outer h₀ → Fr h₀ L s.heap m → (hd.heap_39 w.params).In h₀ → News h₀ L s.heap news → TopH mean mg mb h₀ → cs.kind = .function →
    dp + 2 < recursionLimit → un + 16 < cLine → -14000000000 < k → k < 14000000000 →
    (sd, so) ∈ news → (kd, ko) ∈ news → so.SetObjOf (intKind prg w) S n → n < scanBound → KObj w ko ps → ps.length < 10000 → (kd == sysModules) = false → 
    DueRet w h₀ L m news kd s Q (dueR oct S ps k) (putR ps k (dueR oct S ps k)) →
      wpAny (model PySem.Challenge.rw_dm0085_01.row.prog w) (ktrTop dp un gd cn cs L a ccd cl outer) (call (.ref 63) [.bool oct, .ref sd, .ref kd, .int k t]) Q E s := by
  k_fill
  intro w mean mg mb oct S n sd kd so ko ps k t dp un gd cn cs a ccd cl outer A₀ base h₀ L m s Q E news B F X N T hcs hdp hun hk1 hk2 hms hmk hS hn hK hps hkd hret
  refine wpAny_call ?_
  k_dflt cell_enter
  k_with "compareOp In int ref" => (refine in_kept (by k_asm) hmk hK hkd (fun x hx => ?_) (fun hx => ?_))
  k_with "subscriptTail" => (first | (refine item_kept (by k_asm) hmk hK (by assumption) (fun u => ?_)) | (refine item_kept (by k_asm) (mem_repl hmk) (by assumption) (look_push (by assumption)) (fun u => ?_)))
  k_with "compareOp NotIn int ref" => (refine notin_mem (by k_asm) hms hS hn (fun hin => ?_) (fun hin => ?_))
  k_with "setItem ref int" => (refine put_kept (by k_asm) (by k_asm) hmk hK (by assumption) hps (fun h' ko' F' N' hK' => ?_))
  k_with "call ref" => (k_dflt (refine' figures_call w mean mg mb k _ _ _ _ _ _ _ _ _ _ _ _ _ _ _ _ _ _ _ ?k1 ?k2 ?k3 ?k4 ?k5 ?k6 ?k7 ?k8 hk1 hk2 ?_; (case k1 => k_asm); (case k2 => k_asm); (case k3 => k_asm); (case k4 => k_asm); (case k5 => k_asm); (case k6 => exact rfl); (case k7 => ktr_room); (case k8 => ktr_units)); intro t9 h9 tk9 F9 N9)
  k_steps
  k_with_none
  · exact due_same hret hmk hK (dueR_hit hx) (putR_hit hx) (by k_asm) (by assumption) (by assumption)
  · exact due_put hret (dueR_chr hx (.inr ⟨by assumption, by assumption⟩) hin ⟨by assumption, by omega⟩) hx (by k_asm) (by assumption) (by assumption) hK'
  · exact due_put hret (dueR_fig hx (.inr ⟨by assumption, by assumption⟩) hin) hx (by k_asm) (by assumption) (by assumption) hK'
  · exact due_same hret hmk hK (dueR_oct hx (by assumption) (by omega)) putR_none (by k_asm) (by assumption) (by assumption)
  · exact due_same hret hmk hK (dueR_oct hx (by assumption) (by omega)) putR_none (by k_asm) (by assumption) (by assumption)
  · exact due_put hret (dueR_chr hx (.inl (by assumption)) hin ⟨by assumption, by assumption⟩) hx (by k_asm) (by assumption) (by assumption) hK'
  · exact due_same hret hmk hK (dueR_out hx (.inl (by assumption)) hin (by omega)) putR_none (by k_asm) (by assumption) (by assumption)
  · exact due_same hret hmk hK (dueR_out hx (.inl (by assumption)) hin (by omega)) putR_none (by k_asm) (by assumption) (by assumption)
  · exact due_put hret (dueR_fig hx (.inl (by assumption)) hin) hx (by k_asm) (by assumption) (by assumption) hK'
end Mine

namespace Mine
section
variable {prog : Program} {w : World} {A : Around} {E : Value → Shared → Prop} {s : Shared} {k : Int} {t : Tok}

theorem in_via {c x : Value} {T id : String} {b : Builtin} {Q : Value → Shared → Prop} (hT : s.TypeIs c T) (S : Slot T (Str.ofString "__contains__") id) (hb : entryFor table id = some b) (ha : argsOk id ⟨[c, x], []⟩)
    (hns : stdlibNamesSay? c x = none) (h : wpAny (model prog w) A.in1 (b ⟨[c, x], []⟩) (fun fin s' => ∃ v, fin = .done (.ret (.bool v)) ∧ Q (.bool v) s') E s) :
    wpAny (model prog w) A (compareOp .In x c) Q E s := by
  show wpAny _ _ (do return .bool (← contains c x)) Q E s
  refine wpAny_bind ?_
  unfold contains
  refine wpAny_holding ?_
  rw [hns]
  refine wpAny_bind (wpAny_specialOf hT S.lookup ?_)
  show wpAny _ _ (if (some (Value.builtin id) == some Value.none) = true then _ else _) _ E s
  rw [if_neg (by rw [beq_builtin_none]; exact Bool.false_ne_true)]
  refine wpAny_bind (wpAny_callSpecialUnlessNone?_slot (name := Str.ofString "__contains__") hT S
    (wpAny_call_entry S hT hb (wpAny_mono h (fun fin s' z => ?_) fun _ _ z => z) ha))
  obtain ⟨v, rfl, z⟩ := z
  exact ⟨_, rfl, wpAny_truthy_bool (wpAny_pure z)⟩

theorem look_buffer : typeLookup (.type "bytes") "__buffer__" = pure (some (.builtin "bytes.__buffer__")) := by rw [typeLookup_type, builtinLookup_eq_fast]; kernel_rfl
theorem buf_bytes (bs : Array UInt8) (u : Tok) : Builtin.Bytes.buffer? "bytes.__contains__" (.bytes bs u) = pure (some bs) := by
  have e : specialOf (.bytes bs u) "__buffer__" = pure (some (.builtin "bytes.__buffer__")) := by
    show typeLookup (.type "bytes") "__buffer__" = _
    exact look_buffer
  unfold Builtin.Bytes.buffer?
  rw [e]
  kernel_rfl
theorem in_bytes {bs : Array UInt8} {u : Tok} {Q : Value → Shared → Prop} (hh : A.handled = none)
    (h1 : 0 ≤ k → k < 256 → Q (.bool (bs.contains k.toNat.toUInt8)) s)
    (h2 : ¬ (0 ≤ k ∧ k < 256) → ∀ h' tk e, Heap.NewExc s.heap h' e "ValueError" → E (.ref e) { s with heap := h', toks := tk }) :
    wpAny (model prog w) A (compareOp .In (.int k t) (.bytes bs u)) Q E s := by
  refine in_via (T := "bytes") (by trivial) FB.slot_bytes_contains FB.entry_bytes_contains (FB.args_bytes_contains_2 _ _) rfl ?_
  show wpAny _ _ (Builtin.Bytes.containsIn "bytes.__contains__" (.bytes bs u) (.int k t) >>= fun b => ret (.bool b)) _ _ _
  refine wpAny_bind ?_
  unfold Builtin.Bytes.containsIn
  refine wpAny_bind (wpAny_of_eq (a := .ok k) rfl ?_)
  refine wpAny_bind (wpAny_of_eq (a := some bs) (buf_bytes bs u) ?_)
  dsimp only
  by_cases hk : 0 ≤ k ∧ k < 256
  · rw [if_neg (by simp only [Bool.or_eq_true, decide_eq_true_eq]; omega)]
    exact wpAny_pure (wpAny_pure ⟨_, rfl, h1 hk.1 hk.2⟩)
  · rw [if_pos (by simp only [Bool.or_eq_true, decide_eq_true_eq]; omega)]
    exact wpAny_bind (wpAny_rule (wpAny_bind (wpAny_raiseErrorWords plainExc_ValueError hh (h2 hk))))
theorem in_range {r : Addr} {a b : Int} {ta tb tc : Tok} {Q : Value → Shared → Prop} (hr : IsRange s.heap r a b 1 ta tb tc)
    (h : Q (.bool (decide (a ≤ k ∧ k < b))) s) :
    wpAny (model prog w) A (compareOp .In (.int k t) (.ref r)) Q E s := by
  refine in_via (T := "range") ⟨_, hr, rfl⟩ F.slot_range_contains F.entry_range_contains (F.args_range_contains_2 _ _) rfl ?_
  have e : (Builtin.Range.rangePlace? a b 1 k).isSome = decide (a ≤ k ∧ k < b) := by
    unfold Builtin.Range.rangePlace?
    by_cases hk : a ≤ k ∧ k < b
    · simp [hk.1, hk.2, Int.emod_one]
    · rw [decide_eq_false hk]
      have : (decide (a ≤ k) && decide (k < b)) = false := by
        simp only [Bool.and_eq_false_iff, decide_eq_false_iff_not]; omega
      simp [this]
  obtain ⟨hp, g, d, tk, os⟩ := s
  wp_walk using wpAny_loadPart' hr
  exact ⟨_, rfl, e ▸ h⟩

theorem check_any {M : Model} {i owner n : String} {self : Value} {rest : List Value} {Q : Unit → Shared → Prop}
    (hk : builtinKind i = some .slot ∨ builtinKind i = some .method) (hs : splitId i = some (owner, n)) (hi : Looks M s.heap (isInstance self (.type owner)) true) (ha : argsOk i ⟨self :: rest, []⟩) (q : Q () s) :
    wpAny M A (checkBuiltinCall i ⟨self :: rest, []⟩) Q E s := by
  rcases hk with hk | hk <;>
  · simp only [checkBuiltinCall, hk, hs]
    refine wpAny_bind (hi.here ?_)
    simp only [Bool.not_true, Bool.false_eq_true, if_false]
    cases hsig : Manifest.signature? i with
    | none => exact wpAny_pure q
    | some sig =>
      simp only [argsOk, hsig] at ha
      have h2 : Bind.checkArgs i sig ⟨self :: rest, []⟩ = pure () := ha
      show wpAny M A (Bind.checkArgs i sig ⟨self :: rest, []⟩) Q E s
      rw [h2]; exact wpAny_pure q

theorem sub_call {i owner n : String} {b : Builtin} {self : Value} {rest : List Value} {Q : Value → Shared → Prop} (hp : plainId i = true) (hb : entryFor table i = some b)
    (hk : builtinKind i = some .slot ∨ builtinKind i = some .method) (hs : splitId i = some (owner, n)) (hi : Looks (model prog w) s.heap (isInstance self (.type owner)) true) (ha : argsOk i ⟨self :: rest, []⟩)
    (h : wpAny (model prog w) A.in1 (b ⟨self :: rest, []⟩) (fun fin s' => ∃ v, fin = .done (.ret v) ∧ Q v s') E s) :
    wpAny (model prog w) A (call (.builtin i) (self :: rest)) Q E s := by
  refine wpAny_call (codeAny_call_builtin hp hb (check_any hk hs hi ha (wpAny_mono h (fun fin s' z => ?_) fun _ _ z => z)))
  obtain ⟨v, rfl, z⟩ := z
  exact z

theorem sub_special {M : Model} {K : Frag} {x C : Addr} {ox : Obj} {od : Option Obj} {name : Str} {i : String} {args : List Value} {Q : Option Value → Shared → Prop} (X : K.In s.heap) (I : InstAt s.heap x ox C od)
    (hs : findIn K (.ref C) name = some (some (.builtin i))) (hb : ∀ self, bindSpecial (.builtin i) self = pure (.builtin i, [self])) (h : wpAny M A (call (.builtin i) (.ref x :: args)) (fun v => Q (some v)) E s) :
    wpAny M A (callSpecial? (.ref x) name args) Q E s :=
  wpAny_bind (wpAny_bind (I.type.here ((looks_findIn X hs).here (wpAny_holding (wpAny_bind ((Looks.of_pure (hb _)).here (wpAny_bind (wpAny_mono h (fun _ _ z => wpAny_pure z) fun _ _ z => z))))))))

theorem dictGet_pairs {κ : Type} [DecidableEq κ] {knd : KeyKind prog w κ} {d : Addr} {o : Obj} {es : Array DictEntry} {ep : Nat} {kvs : List (κ × Value)} {j : κ} {key : Value} {Q : Option Value → Shared → Prop}
    (ho : s.heap.get? d = some o) (hd : o.data = .dict es ep) (hk : KeysOf knd es) (hp : Pairs knd es.toList kvs) (hkey : knd.is j key = true) (h : Q (valueAt kvs j) { s with toks := s.toks + 1 }) :
    wpAny (model prog w) A (dictGet d key) Q E s := by
  unfold dictGet
  refine wpAny_holding ?_
  refine wpAny_bind (knd.pyHash hkey (wpAny_bind (wpAny_dictFind_of (s := { s with toks := s.toks + 1 }) hkey ho hd hk ?_)))
  have e : (es.findIdx? fun e => knd.is j e.key) = es.toList.findIdx? fun e => knd.is j e.key := by obtain ⟨l⟩ := es; simp
  rw [e]
  cases hi : es.toList.findIdx? fun e => knd.is j e.key with
  | none =>
    have h2 : valueAt kvs j = none := by
      rw [← hp.find j]
      rw [List.findIdx?_eq_none_iff] at hi
      rw [Option.map_eq_none_iff, List.find?_eq_none]
      intro x hx; have := hi x hx; simpa using this
    rw [h2] at h
    exact wpAny_pure h
  | some i =>
    obtain ⟨en, he, _, hv⟩ := hp.at hi
    rw [hv] at h
    refine wpAny_bind (wpAny_dictEntries (s := { s with toks := s.toks + 1 }) ho hd (wpAny_pure ?_))
    have : es[i]? = some en := by rw [← he]; simp
    rw [this]
    exact h

/-- a table: an instance of the class, its own dict at dt -/
def TObj (w : World) (o : Obj) (dt : Addr) (ps : List (Int × Str)) : Prop :=
  ∃ es ep kvs, o = ⟨.ref 31, some dt, .dict es ep, #[]⟩ ∧ KeysOf (intKind prg w) es ∧ Pairs (intKind prg w) es.toList kvs ∧ (kvs.map (·.1)).Nodup ∧ AllStr kvs ∧ ps = txts kvs
theorem TObj.inst {o od : Obj} {td dt : Addr} {ps : List (Int × Str)} {h : Heap} (T : TObj w o dt ps) (ht : h.get? td = some o) (hd : h.get? dt = some od) : InstAt h td o 31 (some od) := by
  obtain ⟨es, ep, kvs, rfl, _⟩ := T
  exact ⟨ht, rfl, rfl, hd⟩
theorem find_getitem : findIn (hd.heap_39 w.params) (.ref 31) (Str.ofString "__getitem__") = some (some (.builtin "dict.__getitem__")) := by kernel_rfl
theorem find_setitem : findIn (hd.heap_39 w.params) (.ref 31) (Str.ofString "__setitem__") = some (some (.builtin "dict.__setitem__")) := by kernel_rfl
theorem find_missing : findIn (hd.heap_39 w.params) (.ref 31) (Str.ofString "__missing__") = some (some (.ref 28)) := by kernel_rfl
theorem sub31 : mroIn (hd.heap_39 w.params) 31 (.type "dict") = some true := by kernel_rfl
theorem seq31 : noSeq (hd.heap_39 w.params) 31 = true := by kernel_rfl
theorem fn28 : typeIn (hd.heap_39 w.params) (.ref 28) = some (.type "function") := by kernel_rfl
theorem kind_gi : builtinKind "dict.__getitem__" = some .slot ∨ builtinKind "dict.__getitem__" = some .method := by decide +kernel
theorem kind_si : builtinKind "dict.__setitem__" = some .slot ∨ builtinKind "dict.__setitem__" = some .method := by decide +kernel
theorem split_gi : splitId "dict.__getitem__" = some ("dict", "__getitem__") := by decide +kernel
theorem split_si : splitId "dict.__setitem__" = some ("dict", "__setitem__") := by decide +kernel

theorem getItem_tab {o od : Obj} {td dt : Addr} {ps : List (Int × Str)} {Q : Value → Shared → Prop} (X : (hd.heap_39 w.params).In s.heap) (ht : s.heap.get? td = some o) (hd' : s.heap.get? dt = some od) (T : TObj w o dt ps)
    (hsys : (td == sysModules) = false) (hhit : ∀ x u, look ps k = some x → Q (.str x u) { s with toks := s.toks + 1 })
    (hmiss : look ps k = none → wpAny (model prg w) A.in1 (call (.ref 28) [.ref td, .int k t]) Q E { s with toks := s.toks + 1 }) :
    wpAny (model prg w) A (getItem (.ref td) (.int k t)) Q E s := by
  have I := T.inst ht hd'
  have hi : Looks (model prg w) s.heap (isInstance (.ref td) (.type "dict")) true := I.type.andThen (looks_mroIn X sub31)
  unfold getItem sequenceKey
  refine wpAny_holding (wpAny_bind (wpAny_bind (I.type.here ?_)))
  refine wpAny_bind ((anyM_none X seq31).here ?_)
  rw [if_pos (show (!false) = true from rfl)]
  refine wpAny_pure (wpAny_bind (sub_special X I find_getitem slot_dict_getitem.bind (sub_call slot_dict_getitem.plain entry_dict_getitem kind_gi split_gi hi (args_dict_getitem _ _) ?_)))
  show wpAny _ _ (dictGet td (.int k t) >>= _) _ _ s
  obtain ⟨es, ep, kvs, rfl, h1, h2, h3, h4, rfl⟩ := T
  refine wpAny_bind (dictGet_pairs ht rfl h1 h2 (intKind_is _ _ k t) ?_)
  cases e : look (txts kvs) k with
  | some x =>
    obtain ⟨u, hu⟩ := look_txts_some h4 e
    rw [hu]
    exact wpAny_pure ⟨_, rfl, wpAny_pure (hhit x u e)⟩
  | none =>
    rw [look_txts_none e]
    dsimp only
    unfold Builtin.Dict.missed
    rw [hsys]
    refine wpAny_bind (wpAny_pure ?_)
    have X1 : (hd.heap_39 w.params).In ({ s with toks := s.toks + 1 } : Shared).heap := X
    have I1 : InstAt ({ s with toks := s.toks + 1 } : Shared).heap td ⟨.ref 31, some dt, .dict es ep, #[]⟩ 31 (some od) := I
    dsimp only
    refine wpAny_bind (I1.type.here ?_)
    rw [if_pos (by rfl)]
    refine wpAny_bind (special_fn X1 I1 find_missing fn28 (wpAny_mono (hmiss e) (fun v s' z => ?_) fun _ _ z => z))
    exact wpAny_bind (wpAny_rule (wpAny_pure ⟨_, rfl, wpAny_pure z⟩))
end
end Mine

namespace Mine
section
variable {w : World} {A : Around} {E : Value → Shared → Prop} {s : Shared} {k : Int} {t : Tok}

theorem pairs_push {κ : Type} [DecidableEq κ] {prog : Program} {knd : KeyKind prog w κ} {es : Array DictEntry} {kvs : List (κ × Value)} {j : κ} {key v : Value} {hsh : Int} (hp : Pairs knd es.toList kvs) (hkey : knd.is j key = true) :
    Pairs knd (es.push ⟨hsh, key, v⟩).toList (kvs ++ [(j, v)]) := by
  have := hp.append hkey hsh v
  obtain ⟨l⟩ := es
  simpa using this

theorem nodup_push {kvs : List (Int × Value)} {k : Int} {v : Value} (hn : (kvs.map (·.1)).Nodup) (h : valueAt kvs k = none) : ((kvs ++ [(k, v)]).map (·.1)).Nodup := by
  rw [List.map_append, List.nodup_append]
  refine ⟨hn, by simp, fun a ha b hb e => ?_⟩
  simp only [List.map_cons, List.map_nil, List.mem_singleton] at hb
  subst hb; subst e
  obtain ⟨p, hp, rfl⟩ := List.mem_map.mp ha
  unfold valueAt at h
  rw [Option.map_eq_none_iff, List.find?_eq_none] at h
  exact h p hp (by simp)

theorem find_ord : mroIn (hd.heap_39 w.params) 31 (.type "collections.OrderedDict") = some false := by kernel_rfl

theorem setItem_tab {o od : Obj} {td dt : Addr} {ps : List (Int × Str)} {x : Str} {u : Tok} {Q : Unit → Shared → Prop} (X : (hd.heap_39 w.params).In s.heap) (ht : s.heap.get? td = some o) (hd' : s.heap.get? dt = some od) (T : TObj w o dt ps)
    (hx : look ps k = none) (hl : ps.length < 10000)
    (h : ∀ h' o', Heap.SameBut td s.heap h' → h'.get? td = some o' → TObj w o' dt (ps ++ [(k, x)]) → Q () { s with heap := h', toks := s.toks + 1 }) :
    wpAny (model prg w) A (setItem (.ref td) (.int k t) (.str x u)) Q E s := by
  have I := T.inst ht hd'
  have hi : Looks (model prg w) s.heap (isInstance (.ref td) (.type "dict")) true := I.type.andThen (looks_mroIn X sub31)
  have ho : Looks (model prg w) s.heap (isInstance (.ref td) (.type "collections.OrderedDict")) false := I.type.andThen (looks_mroIn X find_ord)
  unfold setItem sequenceKey
  refine wpAny_holding (wpAny_bind (wpAny_bind (I.type.here ?_)))
  refine wpAny_bind ((anyM_none X seq31).here ?_)
  rw [if_pos (show (!false) = true from rfl)]
  refine wpAny_pure (wpAny_bind (sub_special X I find_setitem slot_dict_setitem.bind (sub_call slot_dict_setitem.plain entry_dict_setitem kind_si split_si hi (args_dict_setitem _ _ _) ?_)))
  show wpAny _ _ (Builtin.Dict.notOrdered "__setitem__" ⟨[.ref td, .int k t, .str x u], []⟩ >>= _) _ _ s
  refine wpAny_bind ?_
  unfold Builtin.Dict.notOrdered
  rw [if_pos (by decide)]
  refine wpAny_bind (I.type.here ?_)
  rw [if_pos (by rfl)]
  refine wpAny_bind (ho.here ?_)
  rw [if_neg (by decide)]
  refine wpAny_pure ?_
  show wpAny _ _ (dictSet td (.int k t) (.str x u) >>= _) _ _ s
  obtain ⟨es, ep, kvs, rfl, h1, h2, h3, h4, rfl⟩ := T
  have hv := look_txts_none hx
  refine wpAny_bind ?_
  unfold dictSet
  refine wpAny_holding ?_
  refine wpAny_bind ((intKind prg w).pyHash (intKind_is _ _ k t) ?_)
  unfold dictSetHashed
  refine wpAny_holding ?_
  refine wpAny_bind (wpAny_dictFind_of (s := { s with toks := s.toks + 1 }) (intKind_is prg w k t) ht rfl h1 ?_)
  have e0 : (es.findIdx? fun e => (intKind prg w).is k e.key) = none := by
    have e : (es.findIdx? fun e => (intKind prg w).is k e.key) = es.toList.findIdx? fun e => (intKind prg w).is k e.key := by obtain ⟨l⟩ := es; simp
    rw [e]
    cases hi : es.toList.findIdx? fun e => (intKind prg w).is k e.key with
    | none => rfl
    | some i => obtain ⟨en, _, _, he⟩ := h2.at hi; rw [hv] at he; cases he
  rw [e0]
  have hsz : es.size ≤ sizeLine := by
    have e1 := h2.length
    have e2 : es.toList.length = es.size := by simp
    unfold txts at hl; rw [List.length_map] at hl
    unfold sizeLine; omega
  refine wpAny_bind (wpAny_rule (wpAny_updateDictKeys (hz := hsz) (s := { s with toks := s.toks + 1 }) ht rfl (wpAny_pure ⟨_, rfl, wpAny_pure ?_⟩)))
  refine h _ ⟨.ref 31, some dt, .dict (es.push ⟨(intKind prg w).hash k, .int k t, .str x u⟩) (ep + 1), #[]⟩ (Heap.SameBut.update ..) (Heap.get?_update_self _ ht rfl) ⟨_, _, kvs ++ [(k, .str x u)], rfl, h1.push (intKind_is _ _ k t) _, pairs_push h2 (intKind_is _ _ k t), nodup_push h3 hv, fun p hp => ?_, by simp [txts, txt]⟩
  rcases List.mem_append.mp hp with hp | hp
  · exact h4 p hp
  · rw [List.mem_singleton.mp hp]; exact ⟨x, u, rfl⟩

theorem tail_tab {value slice : PySem.Expr} {o od : Obj} {td dt : Addr} {i : Value} {ps : List (Int × Str)} {Q : Value → Shared → Prop} (X : (hd.heap_39 w.params).In s.heap) (ht : s.heap.get? td = some o) (hd' : s.heap.get? dt = some od) (T : TObj w o dt ps)
    (h : wpAny (model prg w) A (getItem (.ref td) i) Q E s) (hs : subscripted slice false (.ref td) i = operate [.ref td, i] (getItem (.ref td) i) := by with_unfolding_all rfl) :
    wpAny (model prg w) A (subscriptTail value slice (.ref td) i) Q E s := by
  have I := T.inst ht hd'
  unfold subscriptTail getitemInPython
  refine wpAny_bind (wpAny_bind (wpAny_bind (I.type.here ((looks_findIn X find_getitem).here ?_))))
  dsimp only
  refine wpAny_pure ?_
  refine wpAny_bind ?_
  rw [hs]
  exact wpAny_operating (wpAny_mono h (fun r s₃ h₃ => wpAny_bind (wpAny_letTemporaryGo (wpAny_pure h₃))) fun _ _ x => x)

theorem chr_out {Q : Value → Shared → Prop} (hh : A.handled = none) (hk : ¬ (0 ≤ k ∧ k < 1114112)) (h : ∀ h' tk e, Heap.NewExc s.heap h' e "ValueError" → E (.ref e) { s with heap := h', toks := tk }) :
    wpAny (model prg w) A (call (.builtin "chr") [.int k t]) Q E s := by
  refine call_function_meets (S := raisesNew "ValueError") F.kind_chr F.plain_chr F.entry_chr (F.args_chr1 _) ?_ ⟨hh, h⟩
  intro prog w A R s hS
  show wpAny _ _ (if (decide (k < 0) || decide (k > 0x10FFFF)) = true then _ else retStr ⟨#[k.toNat]⟩) _ _ _
  rw [if_pos (by simp only [Bool.or_eq_true, decide_eq_true_eq]; omega)]
  exact wpAny_bind (wpAny_rule (wpAny_bind (wpAny_raiseErrorWords plainExc_ValueError hS.1 hS.2)))

def fmtX (k : Int) : Str :=
  let sign : List Nat := if decide (k < 0) = true then [45] else []
  let other : Int := sign.length + (([] : List Nat).length : Int) + (([] : List Nat).length : Int)
  let room : Int := ((2 : Nat) : Int) - other
  let digits := (Nat.toDigits 16 k.natAbs).map fun c => c.toUpper.toNat
  let ds := if digits.isEmpty then [] else List.replicate (room.toNat - digits.length) 48 ++ digits
  let pad := (((2 : Nat) : Int) - other - ds.length).toNat
  ⟨(List.replicate 0 48 ++ sign ++ [] ++ List.replicate pad 48 ++ ds ++ [] ++ List.replicate 0 48).toArray⟩
theorem fmt_eq (k : Int) (t u : Tok) : Builtin.«int.__format__» ⟨[.int k t, .str (Str.ofString "02X") u], []⟩ = retStr (fmtX k) := by
  kernel_rfl
end
end Mine

namespace Mine
section
variable {prog : Program} {w : World} {A : Around} {E : Value → Shared → Prop} {s : Shared} {n : Int} {t u : Tok}

theorem formatOf_hex {Q : Value → Shared → Prop} (hl : (fmtX n).length ≤ 20) (h : ∀ t' k, Q (.str (fmtX n) t') { s with toks := k }) : wpAny (model prog w) A (PySem.Builtin.Str.formatOf (.int n u) ⟨[48, 50, 88].toArray⟩) Q E s := by
  unfold PySem.Builtin.Str.formatOf
  refine wpAny_ite (KPc.ite_no Bool.false_ne_true ?_)
  refine wpAny_bind (wpAny_mkStr ?_ (by decide))
  refine wpAny_bind (m := callSpecial? (.int n u) (PySem.Str.ofString "__format__") [.str ⟨[48, 50, 88].toArray⟩ s.toks]) (wpAny_callSpecial?_slot (name := PySem.Str.ofString "__format__") (typeIs_int _ n u) F.slot_int_format
    (call_gives F.slot_int_format (typeIs_int _ n u) F.entry_int_format (F.args_int_format_2 _ _) (m := .str (fmtX n)) (Gives.of_eq (fmt_eq n u _)) ⟨by unfold sizeLine; omega, ?_⟩))
  refine wpAny_bind (wpAny_of_eq (a := some (fmtX n)) rfl ?_)
  refine wpAny_ite (KPc.ite_no Bool.false_ne_true ?_)
  exact wpAny_pure (h _ _)
local macro_rules | `(tactic| kfm_val) => `(tactic| (refine wpAny_bind (wpAny_holding (formatOf_hex (by assumption) ?_)); intro _ _))
local macro_rules | `(tactic| kfm_len) => `(tactic| assumption)
theorem format_hex {Q : Value → Shared → Prop} (hl : (fmtX n).length ≤ 20) (h : ∀ t' k, Q (.str (Str.ofString "=" ++ fmtX n) t') { s with toks := k }) :
    wpAny (model prog w) A (call (.builtin "str.format") [.str (Str.ofString "={:02X}") t, .int n u]) Q E s := by
  refine KFm.call_k (X' := ⟨#[61, 123, 58, 48, 50, 88, 125]⟩) (by decide +kernel) (KFm.args_2 _ _) ?_ h
  kfm_run
end
end Mine

namespace Mine
def upD (m : Nat) : List Nat := (Nat.toDigits 16 m).map fun c => c.toUpper.toNat
theorem digit_up : ∀ d : Nat, d < 16 → (Nat.digitChar d).toUpper.toNat = hexD d := by decide +kernel
theorem hexL_small {m : Nat} (h : m ≠ 0) (h2 : m < 16) : hexL m = [hexD m] := by
  rw [hexL_pos h, Nat.div_eq_of_lt h2, hexL_zero, Nat.mod_eq_of_lt h2]; rfl
theorem upD_pos : ∀ m : Nat, m ≠ 0 → upD m = hexL m := by
  intro m
  induction m using Nat.strongRecOn with
  | ind m ih =>
    intro h
    by_cases h2 : m < 16
    · rw [hexL_small h h2]; unfold upD; rw [Nat.toDigits_of_lt_base h2]; simp [digit_up m h2]
    · have h3 : m / 16 ≠ 0 := by omega
      have := ih (m / 16) (by omega) h3
      unfold upD at this ⊢
      rw [Nat.toDigits_of_base_le (by decide) (by omega), List.map_append, this, hexL_pos h]
      simp [digit_up (m % 16) (by omega)]
theorem upD_zero : upD 0 = [48] := by decide +kernel
theorem hexL_ne {m : Nat} (h : m ≠ 0) : 1 ≤ (hexL m).length := by rw [hexL_pos h, List.length_append]; simp
theorem mul0 : Txt.mul (Str.ofString "0") 0 = ⟨(List.replicate 0 48).toArray⟩ := by decide +kernel
theorem mul1 : Txt.mul (Str.ofString "0") 1 = ⟨(List.replicate 1 48).toArray⟩ := by decide +kernel
theorem mul2 : Txt.mul (Str.ofString "0") 2 = ⟨(List.replicate 2 48).toArray⟩ := by decide +kernel
theorem muln {j : Int} (h : j ≤ 0) : Txt.mul (Str.ofString "0") j = ⟨(List.replicate 0 48).toArray⟩ := by
  unfold Txt.mul; rw [if_pos (by omega)]; rfl
theorem str_ext {X Y : Str} (h : X.cps.toList = Y.cps.toList) : X = Y := by
  have := congrArg List.toArray h
  simp only [Array.toArray_toList] at this
  obtain ⟨x⟩ := X; obtain ⟨y⟩ := Y; cases this; rfl
theorem fmtX_list (n : Int) : (fmtX n).cps.toList = (if n < 0 then [45] ++ hexL n.natAbs else List.replicate (2 - (hexL n.natAbs).length) 48 ++ hexL n.natAbs) := by
  unfold fmtX
  have hu : (Nat.toDigits 16 n.natAbs).map (fun c => c.toUpper.toNat) = upD n.natAbs := rfl
  simp only [hu]
  by_cases hn : n < 0
  · have h0 : n.natAbs ≠ 0 := by omega
    have h1 := hexL_ne h0
    rw [upD_pos _ h0]
    have he : (hexL n.natAbs).isEmpty = false := by cases q : hexL n.natAbs with | nil => rw [q] at h1; simp at h1 | cons a l => rfl
    simp only [hn, decide_true, if_true, he, Bool.false_eq_true, if_false, List.length_cons, List.length_nil, List.replicate_zero, List.nil_append, List.append_nil]
    have e1 : ((((2 : Nat) : Int) - (((0 + 1 : Nat) : Int) + ((0 : Nat) : Int) + ((0 : Nat) : Int))).toNat - (hexL n.natAbs).length) = 0 := by omega
    rw [e1]
    simp only [List.replicate_zero, List.nil_append]
    have e2 : (((2 : Nat) : Int) - (((0 + 1 : Nat) : Int) + ((0 : Nat) : Int) + ((0 : Nat) : Int)) - ((hexL n.natAbs).length : Int)).toNat = 0 := by omega
    rw [e2]; simp
  · by_cases h0 : n.natAbs = 0
    · rw [h0, upD_zero, hexL_zero]; simp [hn]
    · have h1 := hexL_ne h0
      rw [upD_pos _ h0]
      have he : (hexL n.natAbs).isEmpty = false := by cases q : hexL n.natAbs with | nil => rw [q] at h1; simp at h1 | cons a l => rfl
      simp only [hn, decide_false, Bool.false_eq_true, if_false, he, List.length_nil, List.replicate_zero, List.nil_append, List.append_nil]
      have e1 : ((((2 : Nat) : Int) - (((0 : Nat) : Int) + ((0 : Nat) : Int) + ((0 : Nat) : Int))).toNat - (hexL n.natAbs).length) = 2 - (hexL n.natAbs).length := by omega
      rw [e1]
      have e2 : (((2 : Nat) : Int) - (((0 : Nat) : Int) + ((0 : Nat) : Int) + ((0 : Nat) : Int)) - ((List.replicate (2 - (hexL n.natAbs).length) 48 ++ hexL n.natAbs).length : Int)).toNat = 0 := by
        rw [List.length_append, List.length_replicate]; omega
      rw [e2]; simp
theorem fmtX_len {n : Int} (h1 : -14000000000 < n) (h2 : n < 14000000000) : (fmtX n).length ≤ 20 := by
  have e : (fmtX n).length = (fmtX n).cps.toList.length := by show (fmtX n).cps.size = _; simp
  have := hexL_len 9 n.natAbs (by omega)
  rw [e, fmtX_list]
  split
  · simp only [List.length_append, List.length_cons, List.length_nil]; omega
  · rw [List.length_append, List.length_replicate]; omega
theorem fmtX_fig (n : Int) : Str.ofString "=" ++ fmtX n = figures n := by
  apply str_ext
  rw [PySem.Str.cps_append, Array.toList_append, fmtX_list]
  unfold figures
  have e1 : (Str.ofString "=").cps.toList = [61] := by decide
  have e2 : (Str.ofString "=-").cps.toList = [61, 45] := by decide
  split
  · rw [PySem.Str.cps_append, Array.toList_append, e1, e2]; simp
  · rw [PySem.Str.cps_append, PySem.Str.cps_append, Array.toList_append, Array.toList_append, e1]
    have e3 : (Txt.mul (Str.ofString "0") (2 - ((hexL n.natAbs).length : Int))).cps.toList = List.replicate (2 - (hexL n.natAbs).length) 48 := by
      by_cases a0 : (hexL n.natAbs).length = 0
      · rw [a0]; exact congrArg (fun x : Str => x.cps.toList) mul2
      · by_cases a1 : (hexL n.natAbs).length = 1
        · rw [a1]; exact congrArg (fun x : Str => x.cps.toList) mul1
        · rw [muln (by omega)]
          have : 2 - (hexL n.natAbs).length = 0 := by omega
          rw [this]
    rw [e3]; simp
end Mine

namespace Mine
/-- what a safe holds, and whether it is octets -/
inductive SafeV (news : List (Addr × Obj)) : Value → Bool → (Int → Bool) → Prop where
  | octets (bs : Array UInt8) (u : Tok) : SafeV news (.bytes bs u) true (fun k => bs.contains k.toNat.toUInt8)
  | list (la : Addr) (vs : List Value) (ns : List Int) (n : Nat) : (la, ({ cls := .type "list", data := .seq vs.toArray n } : Obj)) ∈ news → IntsAre vs ns → SafeV news (.ref la) false (fun k => ns.any (· == k))
  | range (ra : Addr) (a b : Int) (ta tb tc : Tok) : (ra, ({ cls := .type "range", data := .fields #[.int a ta, .int b tb, .int 1 tc] } : Obj)) ∈ news → SafeV news (.ref ra) false (fun k => decide (a ≤ k ∧ k < b))
section
variable {w : World} {A : Around} {E : Value → Shared → Prop} {s : Shared} {h₀ : Heap} {L : Addr} {m : Str → Option Value} {news : List (Addr × Obj)} {k : Int} {t : Tok} {oct : Bool} {S : Int → Bool} {v : Value}

theorem in_safe {Q : Value → Shared → Prop} (hS : SafeV news v oct S) (N : News h₀ L s.heap news) (hh : A.handled = none)
    (h1 : (oct = false ∨ (0 ≤ k ∧ k < 256)) → S k = true → Q (.bool true) s) (h0 : (oct = false ∨ (0 ≤ k ∧ k < 256)) → S k = false → Q (.bool false) s)
    (hx : oct = true → ¬ (0 ≤ k ∧ k < 256) → ∀ h' tk e, Heap.NewExc s.heap h' e "ValueError" → E (.ref e) { s with heap := h', toks := tk }) :
    wpAny (model prg w) A (compareOp .In (.int k t) v) Q E s := by
  cases hS with
  | octets bs u =>
    refine in_bytes hh (fun a b => ?_) (hx rfl)
    cases e : bs.contains k.toNat.toUInt8 with
    | true => exact h1 (.inr ⟨a, b⟩) e
    | false => exact h0 (.inr ⟨a, b⟩) e
  | list la vs ns n hm hi =>
    refine in_list_ints (vs := vs) (ns := ns) ⟨_, (N _ hm).1, rfl, n, rfl⟩ hi ?_
    cases e : ns.any (· == k) with
    | true => exact h1 (.inl rfl) e
    | false => exact h0 (.inl rfl) e
  | range ra a b ta tb tc hm =>
    refine in_range (N _ hm).1 ?_
    cases e : decide (a ≤ k ∧ k < b) with
    | true => exact h1 (.inl rfl) e
    | false => exact h0 (.inl rfl) e
theorem safe_obj {od : Obj} (h : lookIn (Str.ofString "safe") od = some (some v)) : findObj (hd.heap_39 w.params) 31 (some od) (Str.ofString "safe") = some (.value v) := by
  have e : findObj (hd.heap_39 w.params) 31 (some od) (Str.ofString "safe") = (lookIn (Str.ofString "safe") od).bind fun own => match own with
      | some v => some (.value v)
      | none => some (.value (.bytes #[45, 33, 42, 43, 47, 97, 98, 99, 100, 101, 102, 103, 104, 105, 106, 107, 108, 109, 110, 111, 112, 113, 114, 115, 116, 117, 118, 119, 120, 121, 122, 65, 66, 67, 68, 69, 70, 71, 72, 73, 74, 75, 76, 77, 78, 79, 80, 81, 82, 83, 84, 85, 86, 87, 88, 89, 90, 48, 49, 50, 51, 52, 53, 54, 55, 56, 57] 215)) := by
    kernel_rfl
  rw [e, h]; rfl
theorem find_ga : findIn (hd.heap_39 w.params) (.ref 31) (Str.ofString "__getattribute__") = some (some (.builtin "dict.__getattribute__")) := by kernel_rfl
theorem find_gh : findIn (hd.heap_39 w.params) (.ref 31) (Str.ofString "__getattr__") = some none := by kernel_rfl
theorem ga_entry : entryFor table "dict.__getattribute__" = some Builtin.«object.__getattribute__» :=
  entryFor_alias (id' := "object.__getattribute__") (by kernel_rfl) (by first | rfl | decide +kernel) (by decide +kernel) (by kernel_rfl)
theorem ga_kind : builtinKind "dict.__getattribute__" = some .slot ∨ builtinKind "dict.__getattribute__" = some .method := by decide +kernel
theorem ga_split : splitId "dict.__getattribute__" = some ("dict", "__getattribute__") := by decide +kernel
theorem ga_plain : plainId "dict.__getattribute__" = true := by decide +kernel
theorem ga_args (a b : Value) : argsOk "dict.__getattribute__" ⟨[a, b], []⟩ := by unfold argsOk; kernel_rfl
theorem ga_slot : Slot "dict" (Str.ofString "__getattribute__") "dict.__getattribute__" :=
  .of (owner := "dict") (n := "__getattribute__") (by rw [typeLookup_type, builtinLookup_eq_fast]; kernel_rfl) (by decide +kernel) (by decide +kernel) (by decide +kernel) (.inl (by decide +kernel)) (by rw [isSubtype_type]; kernel_rfl)
theorem get_safe {o od : Obj} {td dt : Addr} {ps : List (Int × Str)} {expr : Bool} {Q : Value → Shared → Prop} (X : (hd.heap_39 w.params).In s.heap) (N : News h₀ L s.heap news) (hmt : (td, o) ∈ news) (hmd : (dt, od) ∈ news) (hT : TObj w o dt ps)
    (hod : lookIn (Str.ofString "safe") od = some (some v)) (hh : handedIn v = true) (h : Q v { s with toks := s.toks + 1 }) :
    wpAny (model prg w) A (getAttr (.ref td) (Str.ofString "safe") expr) Q E s := by
  have I := hT.inst (N _ hmt).1 (N _ hmd).1
  obtain ⟨hh', g, d, tk, os⟩ := s
  have L0 := I.type (M := model prg w)
  have L1 := looks_findIn (M := model prg w) X find_ga
  have L2 := looks_findIn (M := model prg w) X find_gh
  have L3 := looks_find (M := model prg w) X I (safe_obj hod)
  have L4 : Looks (model prg w) hh' (isInstance (.ref td) (.type "dict")) true := L0.andThen (looks_mroIn X sub31)
  unfold getAttr getAttrBy
  refine wpAny_bind (wpAny_mkText (wpAny_holding (wpAny_bind (L0.at (wpAny_bind (L1.at ?_))))))
  show wpAny _ _ (getAttrByItsOwn (.ref td) (.str (Str.ofString "safe") tk) (.ref 31) (.builtin "dict.__getattribute__") true expr) _ _ _
  unfold getAttrByItsOwn hookBefore
  refine wpAny_bind (L2.at ?_)
  refine wpAny_bind (wpAny_attempt (wpAny_holding ?_))
  unfold callGetattribute
  rw [if_neg (by cases expr <;> decide)]
  unfold boundAndCalled
  rw [ga_slot.bind]
  refine wpAny_bind (wpAny_pure ?_)
  refine sub_call ga_plain ga_entry ga_kind ga_split L4 (ga_args _ _) ?_
  show wpAny _ _ (typeOf (.ref td) >>= fun tp => Builtin.ObjectAttr.find (.ref td) tp (Str.ofString "safe") >>= _) _ _ _
  refine wpAny_bind (L0.at (wpAny_bind (L3.at ?_)))
  refine wpAny_pure ⟨_, rfl, ?_⟩
  dsimp only
  rw [handedOut_of hh]
  exact wpAny_pure h
theorem chr_any {Q : Value → Shared → Prop} (hh : A.handled = none) (h1 : 0 ≤ k ∧ k < 1114112 → ∀ u, Q (.str ⟨#[k.toNat]⟩ u) { s with toks := s.toks + 1 })
    (h2 : ¬ (0 ≤ k ∧ k < 1114112) → ∀ h' tk e, Heap.NewExc s.heap h' e "ValueError" → E (.ref e) { s with heap := h', toks := tk }) :
    wpAny (model prg w) A (call (.builtin "chr") [.int k t]) Q E s := by
  by_cases hk : 0 ≤ k ∧ k < 1114112
  · exact chr_of_range hk.1 (by omega) (h1 hk _)
  · exact chr_out hh hk (h2 hk)
theorem put_tab {o od : Obj} {td dt : Addr} {ps : List (Int × Str)} {x : Str} {u : Tok} {Q : Unit → Shared → Prop} (X : (hd.heap_39 w.params).In h₀) (F : Fr h₀ L s.heap m) (N : News h₀ L s.heap news) (hmt : (td, o) ∈ news) (hmd : (dt, od) ∈ news) (hT : TObj w o dt ps)
    (hx : look ps k = none) (hl : ps.length < 10000)
    (h : ∀ h' o', Fr h₀ L h' m → News h₀ L h' (repl news td o') → TObj w o' dt (ps ++ [(k, x)]) → Q () { s with heap := h', toks := s.toks + 1 }) :
    wpAny (model prg w) A (setItem (.ref td) (.int k t) (.str x u)) Q E s := by
  refine setItem_tab (X.keeps F.keep) (N _ hmt).1 (N _ hmd).1 hT hx hl (fun h' o' hs ho' T' => ?_)
  exact h h' o' (F.change hs (N _ hmt).2.1 (N _ hmt).2.2) (N.replace hs ho') T'
theorem item_tab_hit {value slice : PySem.Expr} {o od : Obj} {td dt : Addr} {ps : List (Int × Str)} {x : Str} {Q : Value → Shared → Prop} (X : (hd.heap_39 w.params).In h₀) (F : Fr h₀ L s.heap m) (N : News h₀ L s.heap news) (hmt : (td, o) ∈ news) (hmd : (dt, od) ∈ news) (hT : TObj w o dt ps)
    (hsys : (td == sysModules) = false) (hx : look ps k = some x) (h : ∀ u, Q (.str x u) { s with toks := s.toks + 1 })
    (hs : subscripted slice false (.ref td) (.int k t) = operate [.ref td, .int k t] (getItem (.ref td) (.int k t)) := by with_unfolding_all rfl) :
    wpAny (model prg w) A (subscriptTail value slice (.ref td) (.int k t)) Q E s :=
  tail_tab (X.keeps F.keep) (N _ hmt).1 (N _ hmd).1 hT (getItem_tab (X.keeps F.keep) (N _ hmt).1 (N _ hmd).1 hT hsys (fun y u hy => by rw [hx] at hy; cases hy; exact h u) fun hn => by rw [hx] at hn; cases hn) hs
end

theorem missing_call : ∀ (w : World) (mean : ExcName → Option Value) (mg mb : Str → Option Value) (oct : Bool) (S : Int → Bool) (v : Value) (td dt : Addr) (o od : Obj) (ps : List (Int × Str)) (k : Int) (t : Tok) (dp un : Nat) (gd : Option (List Code)) (cn : Str) (cs : Scope) (a : Addr) (ccd : Value) (outer : List Env) (A₀ : Around) (base h₀ : Heap) (L : Addr) (m : Str → Option Value) (s : Shared) (Q E : Value → Shared → Prop) (news : List (Addr × Obj)),
    Below A₀ base outer h₀ → Fr h₀ L s.heap m → (hd.heap_39 w.params).In h₀ → News h₀ L s.heap news → TopH mean mg mb h₀ → cs.kind = .function →
    dp + 2 < recursionLimit → un + 16 < cLine → -14000000000 < k → k < 14000000000 →
    (td, o) ∈ news → (dt, od) ∈ news → TObj w o dt ps → lookIn (Str.ofString "safe") od = some (some v) → SafeV news v oct S → look ps k = none → ps.length < 10000 → (td == sysModules) = false → dt ≠ td →
    (∀ (x : Str) (u : Tok) (o' : Obj) (h' : Heap) (tk' : Nat), dueR oct S ps k = some x → Fr h₀ L h' m → News h₀ L h' (repl news td o') → TObj w o' dt (ps ++ [(k, x)]) → Q (.str x u) { s with heap := h', toks := tk' }) →
    (∀ (e : Addr) (G h' : Heap) (tk' : Nat), dueR oct S ps k = none → Fr h₀ L G m → RaisedSN base G (envOf cn cs L a ccd :: outer) e (.type "ValueError") news h' → G.UpToSlots h' → E (.ref e) { s with heap := h', toks := tk' }) →
      wpAny (model PySem.Challenge.rw_dm0085_01.row.prog w) (ktrTop dp un gd cn cs L a ccd [] outer) (call (.ref 28) [.ref td, .int k t]) Q E s := by
  k_fill
  intro w mean mg mb oct S v td dt o od ps k t dp un gd cn cs a ccd outer A₀ base h₀ L m s Q E news B F X N T hcs hdp hun hk1 hk2 hmt hmd hT hod hS hlk hps hsys hne hret hexc
  refine wpAny_call ?_
  k_dflt cell_enter
  k_with "getAttr ref" => (refine get_safe (by k_in) (by k_asm) hmt hmd hT hod (by cases hS <;> rfl) ?_)
  k_with "compareOp In int" => (refine in_safe hS (by k_asm) rfl (fun ho hin => ?_) (fun ho hin => ?_) (fun ho hin h' tk e hX => ?_))
  k_with "call builtin:chr" => (refine chr_any rfl (fun hr u => ?_) (fun hr h' tk e hX => ?_))
  k_with "call builtin:str.format" => (refine format_hex (fmtX_len hk1 hk2) (fun u tk => ?_); (try rw [fmtX_fig]))
  k_with "setItem ref int" => (refine put_tab (by k_asm) (by k_asm) (by k_asm) hmt hmd hT hlk hps (fun h' o' F' N' hT' => ?_))
  k_with "subscriptTail" => (refine item_tab_hit (by k_asm) (by k_asm) (by k_asm) (mem_repl hmt) (mem_repl_ne hmd hne) hT' hsys (look_push hlk) (fun u => ?_))
  k_with "leaving ref" => (refine Stop.here ?_)
  k_steps
  k_with_none
  · exact hret _ u o' h' _ (dueR_chr hlk ho hin hr) (by k_asm) (by k_asm) hT'
  · unfold Stop
    refine leave_newS (by assumption) hX (by k_asm) (by k_asm) (fun h₂ R1 _ U => ?_)
    exact hexc e _ h₂ _ (dueR_out hlk ho hin hr) (by assumption) R1 U
  · exact hret _ u o' h' _ (dueR_fig hlk ho hin) (by k_asm) (by k_asm) hT'
  · unfold Stop
    refine leave_newS (by assumption) hX (by k_asm) (by k_asm) (fun h₂ R1 _ U => ?_)
    exact hexc e _ h₂ _ (dueR_oct hlk ho hin) (by assumption) R1 U
end Mine

namespace Mine
def ToldRet (w : World) (h₀ : Heap) (L : Addr) (m : Str → Option Value) (news : List (Addr × Obj)) (td dt : Addr) (s : Shared) (Q : Value → Shared → Prop) (r : Option Str) (ps' : List (Int × Str)) : Prop :=
  ∀ (tt : Addr) (u : Tok) (o' : Obj) (h' : Heap) (tk' : Nat), Fr h₀ L h' m → News h₀ L h' ((tt, tupR r u) :: repl news td o') → (∀ p ∈ news, p.1 < tt) → TObj w o' dt ps' → Q (.ref tt) { s with heap := h', toks := tk' }
section
variable {w : World} {h₀ : Heap} {L : Addr} {m : Str → Option Value} {news : List (Addr × Obj)} {td dt : Addr} {s : Shared} {Q : Value → Shared → Prop} {r : Option Str} {oct : Bool} {S : Int → Bool} {ps : List (Int × Str)} {k : Int} {o : Obj} {tt : Addr} {u : Tok} {h' : Heap} {tk' : Nat} {x : Str}
theorem told_same (hret : ToldRet w h₀ L m news td dt s Q (dueR oct S ps k) (putR ps k (dueR oct S ps k))) (hmt : (td, o) ∈ news) (hT : TObj w o dt ps) (hr : dueR oct S ps k = r) (hp : putR ps k r = ps)
    (F : Fr h₀ L h' m) (N : News h₀ L h' ((tt, tupR r u) :: news)) (l : ∀ p ∈ news, p.1 < tt) : Q (.ref tt) { s with heap := h', toks := tk' } := by
  rw [hr, hp] at hret
  refine hret tt u o h' tk' F ?_ l hT
  rw [repl_self (fun p hp => N p (.tail _ hp)) hmt]; exact N
theorem told_put (hret : ToldRet w h₀ L m news td dt s Q (dueR oct S ps k) (putR ps k (dueR oct S ps k))) (hr : dueR oct S ps k = some x) (hl : look ps k = none)
    (F : Fr h₀ L h' m) (N : News h₀ L h' ((tt, tupR (some x) u) :: repl news td o)) (l : ∀ p ∈ repl news td o, p.1 < tt) (hT : TObj w o dt (ps ++ [(k, x)])) : Q (.ref tt) { s with heap := h', toks := tk' } := by
  rw [hr, putR_some hl] at hret
  refine hret tt u o h' tk' F N (fun p hp => ?_) hT
  have h2 : (if p.1 = td then (td, o) else p) ∈ repl news td o := List.mem_map.mpr ⟨p, hp, rfl⟩
  have := l _ h2
  by_cases e : p.1 = td
  · rw [if_pos e] at this; rw [e]; exact this
  · rw [if_neg e] at this; exact this
end
theorem told_call : ∀ (w : World) (mean : ExcName → Option Value) (mg mb : Str → Option Value) (oct : Bool) (S : Int → Bool) (v : Value) (td dt : Addr) (o od : Obj) (ps : List (Int × Str)) (k : Int) (t : Tok) (dp un : Nat) (gd : Option (List Code)) (cn : Str) (cs : Scope) (a : Addr) (ccd : Value) (A₀ : Around) (h₀ : Heap) (L : Addr) (m : Str → Option Value) (s : Shared) (Q E : Value → Shared → Prop) (news : List (Addr × Obj)),
    Below A₀ h₀ [] h₀ → Fr h₀ L s.heap m → (hd.heap_39 w.params).In h₀ → News h₀ L s.heap news → TopH mean mg mb h₀ → cs.kind = .function →
    dp + 4 < recursionLimit → un + 32 < cLine → -14000000000 < k → k < 14000000000 →
    (td, o) ∈ news → (dt, od) ∈ news → TObj w o dt ps → lookIn (Str.ofString "safe") od = some (some v) → SafeV news v oct S → ps.length < 10000 → (td == sysModules) = false → dt ≠ td →
    ToldRet w h₀ L m news td dt s Q (dueR oct S ps k) (putR ps k (dueR oct S ps k)) →
      wpAny (model PySem.Challenge.rw_dm0085_01.row.prog w) (ktrTop dp un gd cn cs L a ccd [] []) (call (.ref 70) [.ref td, .int k t]) Q E s := by
  k_fill
  intro w mean mg mb oct S v td dt o od ps k t dp un gd cn cs a ccd A₀ h₀ L m s Q E news B F X N T hcs hdp hun hk1 hk2 hmt hmd hT hod hS hps hsys hne hret
  refine wpAny_call ?_
  k_dflt (refine' code_defS0 ?k1 ?k2 ?k3 ?k4 ?k5 ?kA ?k6 ?k7 ?k8 ?k9 ?kB ?_ ?cK ?c2 ?c3 ?c4 ?c5; (case kA => exact rfl); (case k2 => exact F); (case k1 => exact B); (case k3 => exact X); (case k4 => exact N); (case k5 => exact T); (case k6 => k_is); (case k7 => k_is); (case k8 => ktr_room); (case k9 => exact BindsTo.of_eq rfl); (case kB => exact locs rfl); (case cK => exact hcs); (case c2 => exact rfl); (case c3 => exact rfl); (case c4 => exact rfl); (case c5 => decide); k_whole; intro g' L' h' FG' F' N' B' X' T' D'; (try dsimp only); (try k_lift B'); (try k_fold))
  k_with "subscriptTail" => (refine tail_tab (by k_in) (News.get (by k_asm) hmt) (News.get (by k_asm) hmd) hT (getItem_tab (by k_in) (News.get (by k_asm) hmt) (News.get (by k_asm) hmd) hT hsys (fun x u hx => ?_) (fun hx => Stop.here ?_)))
  k_steps
  k_with_none
  · exact told_same hret hmt hT (dueR_hit hx) (putR_hit hx) (by k_asm) (by assumption) (by assumption)
  unfold Stop
  k_dflt (refine' missing_call w mean mg mb oct S v td dt o od ps k _ _ _ _ _ _ _ _ _ _ _ _ _ _ _ _ _ news B' F' X' N' T' rfl ?k7 ?k8 hk1 hk2 hmt hmd hT hod hS hx hps hsys hne ?ret ?exc)
  case k7 => ktr_room
  case k8 => ktr_units
  case ret =>
    intro x u o' h₂ tk₂ hr F₂ N₂ hT'
    k_steps
    exact told_put hret hr hx (by k_asm) (by assumption) (by assumption) hT'
  case exc =>
    intro e G h₂ tk₂ hr FG₂ R₂ U₂
    have T0 := KtsTurn.refl (fs := List.filterMap (fun x => x.frame) [envOf cn cs L a ccd]) (g := g')
    k_steps
    exact told_same hret hmt hT hr putR_none (by k_asm) (by assumption) (by assumption)
end Mine

namespace Mine
def TextsOk (ps : List (Int × Str)) : Prop := ∀ p ∈ ps, PyData.strOk p.2 = true
theorem hexD_lt {d : Nat} (h : d < 16) : hexD d < 0x110000 := by unfold hexD; split <;> omega
theorem hexL_ok : ∀ n : Nat, ∀ c ∈ hexL n, c < 0x110000 := by
  intro n
  induction n using Nat.strongRecOn with
  | ind n ih =>
    intro c hc
    by_cases h : n = 0
    · subst h; rw [hexL_zero] at hc; cases hc
    · rw [hexL_pos h] at hc
      rcases List.mem_append.mp hc with hc | hc
      · exact ih (n / 16) (by omega) c hc
      · rw [List.mem_singleton.mp hc]; exact hexD_lt (by omega)
theorem strOk_list {X : Str} (h : ∀ c ∈ X.cps.toList, c < 0x110000) : PyData.strOk X = true := by
  unfold PyData.strOk
  rw [← Array.all_toList, List.all_eq_true]
  intro c hc; exact decide_eq_true (h c hc)
theorem figures_ok (k : Int) : PyData.strOk (figures k) = true := by
  refine strOk_list fun c hc => ?_
  rw [← fmtX_fig, PySem.Str.cps_append, Array.toList_append, fmtX_list] at hc
  rcases List.mem_append.mp hc with hc | hc
  · have e1 : (Str.ofString "=").cps.toList = [61] := by decide
    rw [e1] at hc; rw [List.mem_singleton.mp hc]; decide
  · split at hc
    · rcases List.mem_append.mp hc with hc | hc
      · rw [List.mem_singleton.mp hc]; decide
      · exact hexL_ok _ c hc
    · rcases List.mem_append.mp hc with hc | hc
      · rw [(List.mem_replicate.mp hc).2]; decide
      · exact hexL_ok _ c hc
theorem look_mem {ps : List (Int × Str)} {k : Int} {x : Str} (h : look ps k = some x) : (k, x) ∈ ps := by
  unfold look at h
  obtain ⟨p, hp, rfl⟩ := Option.map_eq_some_iff.mp h
  have h1 := List.mem_of_find?_eq_some hp
  have h2 := List.find?_some hp
  have : p.1 = k := by simpa using h2
  rw [← this]; exact h1
theorem dueR_ok {oct : Bool} {S : Int → Bool} {ps : List (Int × Str)} {k : Int} {x : Str} (h : TextsOk ps) (hr : dueR oct S ps k = some x) : PyData.strOk x = true := by
  unfold dueR at hr
  split at hr
  · rename_i y hy; cases hr; exact h _ (look_mem hy)
  · split at hr
    · cases hr
    · split at hr
      · cases hr; exact figures_ok k
      · split at hr
        · rename_i hk
          cases hr
          refine strOk_list fun c hc => ?_
          have : c = k.toNat := by simpa using hc
          omega
        · cases hr
theorem putR_ok {oct : Bool} {S : Int → Bool} {ps : List (Int × Str)} {k : Int} (h : TextsOk ps) : TextsOk (putR ps k (dueR oct S ps k)) := by
  unfold putR
  split
  · rename_i x hl hr
    intro p hp
    rcases List.mem_append.mp hp with hp | hp
    · exact h p hp
    · rw [List.mem_singleton.mp hp]; exact dueR_ok h hr
  · exact h
theorem putR_len {ps : List (Int × Str)} {k : Int} {r : Option Str} : (putR ps k r).length ≤ ps.length + 1 := by
  unfold putR
  split
  · simp
  · omega
theorem dueR_congr {oct : Bool} {S S' : Int → Bool} {ps : List (Int × Str)} {k : Int} (h : (oct = true → 0 ≤ k ∧ k < 256) → S k = S' k) : dueR oct S ps k = dueR oct S' ps k := by
  unfold dueR
  split
  · rfl
  · by_cases ho : oct = true ∧ ¬ (0 ≤ k ∧ k < 256)
    · rw [if_pos ho, if_pos ho]
    · rw [if_neg ho, if_neg ho, h (fun e => by by_cases q : 0 ≤ k ∧ k < 256; exact q; exact absurd ⟨e, q⟩ ho)]

structure Dat where
  aMem : Addr
  aKept : Addr
  aTabs : Addr
  aSafes : Addr
  nMem : Nat
  nKept : Nat
  nTabs : Nat
  nSafes : Nat
  sd : Nat → Addr
  kd : Nat → Addr
  td : Nat → Addr
  dd : Nat → Addr
  sv : Nat → Value
  S : Nat → Int → Bool

structure Apart (D : Dat) : Prop where
  kk : ∀ i j, i < 3 → j < 3 → i ≠ j → D.kd i ≠ D.kd j
  tt : ∀ i j, i < 3 → j < 3 → i ≠ j → D.td i ≠ D.td j
  kt : ∀ i j, i < 3 → j < 3 → D.kd i ≠ D.td j
  ddd : ∀ i j, i < 3 → j < 3 → i ≠ j → D.dd i ≠ D.dd j
  kdd : ∀ i j, i < 3 → j < 3 → D.dd j ≠ D.kd i
  tdd : ∀ i j, i < 3 → j < 3 → D.dd j ≠ D.td i
  ksys : ∀ i, i < 3 → (D.kd i == sysModules) = false
  tsys : ∀ i, i < 3 → (D.td i == sysModules) = false

/-- a table's own dict: nothing, or its safe alone -/
def SafeD (od : Obj) : Prop := od = dictOf [] 0 ∨ ∃ hs t v n, od = dictOf [⟨hs, .str (Str.ofString "safe") t, v⟩] n
structure Inv (w : World) (D : Dat) (turn c b : Nat) (news : List (Addr × Obj)) : Prop where
  mem : (D.aMem, listOf #[.ref (D.sd 0), .ref (D.sd 1), .ref (D.sd 2)] D.nMem) ∈ news
  kept : (D.aKept, listOf #[.ref (D.kd 0), .ref (D.kd 1), .ref (D.kd 2)] D.nKept) ∈ news
  tabs : (D.aTabs, listOf #[.ref (D.td 0), .ref (D.td 1), .ref (D.td 2)] D.nTabs) ∈ news
  safes : (D.aSafes, listOf #[D.sv 0, D.sv 1, D.sv 2] D.nSafes) ∈ news
  sets : ∀ j, j < 3 → ∃ so Sj n, (D.sd j, so) ∈ news ∧ so.SetObjOf (intKind prg w) Sj n ∧ n < scanBound ∧ ∀ k, (j = 0 → 0 ≤ k ∧ k < 256) → Sj k = D.S j k
  pair : ∀ i, i < 3 → ∃ ko o od ps, (D.kd i, ko) ∈ news ∧ (D.td i, o) ∈ news ∧ (D.dd i, od) ∈ news ∧ KObj w ko ps ∧ TObj w o (D.dd i) ps ∧ SafeD od ∧ (i < c → lookIn (Str.ofString "safe") od = some (some (D.sv ((i + turn) % 3)))) ∧ ps.length ≤ b ∧ TextsOk ps
  safe : ∀ j, j < 3 → SafeV news (D.sv j) (decide (j = 0)) (D.S j)

section
variable {w : World} {h₀ h : Heap} {L : Addr} {news : List (Addr × Obj)} {D : Dat} {turn c b : Nat}
theorem ne_cls {a d : Addr} {o o' : Obj} (N : News h₀ L h news) (h1 : (a, o) ∈ news) (h2 : (d, o') ∈ news) (hc : o.cls ≠ o'.cls) : a ≠ d := by
  rintro rfl
  have e1 := (N _ h1).1
  have e2 := (N _ h2).1
  have e3 : o = o' := Option.some.inj (e1.symm.trans e2)
  exact hc (by rw [e3])
theorem KObj.cls {ko : Obj} {ps : List (Int × Str)} (h : KObj w ko ps) : ko.cls = .type "dict" := by
  obtain ⟨_, ⟨_, _, hx, _⟩, _⟩ := h; exact hx.1
theorem TObj.cls {o : Obj} {dt : Addr} {ps : List (Int × Str)} (h : TObj w o dt ps) : o.cls = .ref 31 := by
  obtain ⟨_, _, _, rfl, _⟩ := h; rfl
theorem repl_map {news : List (Addr × Obj)} {d : Addr} {o : Obj} : (repl news d o).map (·.1) = news.map (·.1) := by
  unfold repl
  rw [List.map_map]
  refine List.map_congr_left fun p _ => ?_
  show (if p.1 = d then (d, o) else p).1 = p.1
  split
  · rename_i e; exact e.symm
  · rfl
theorem setObj_cls {so : Obj} {S : Int → Bool} {n : Nat} (h : so.SetObjOf (intKind prg w) S n) : so.cls = .type "set" := h.1.1
theorem SafeV.move {v : Value} {oc : Bool} {S : Int → Bool} {news news' : List (Addr × Obj)} (h : SafeV news v oc S) (hm : ∀ a o, (a, o) ∈ news → (o.cls = .type "list" ∨ o.cls = .type "range") → (a, o) ∈ news') : SafeV news' v oc S := by
  cases h with
  | octets bs u => exact .octets bs u
  | list la vs ns n hl hi => exact .list la vs ns n (hm _ _ hl (.inl rfl)) hi
  | range ra a c ta tb tc hr => exact .range ra a c ta tb tc (hm _ _ hr (.inr rfl))

theorem Inv.step {i : Nat} {ko' o' : Obj} {ps' : List (Int × Str)} (N : News h₀ L h news) (AP : Apart D) (I : Inv w D turn c b news) (hi : i < 3) (hK : KObj w ko' ps') (hT : TObj w o' (D.dd i) ps') (hl : ps'.length ≤ b + 1) (hok : TextsOk ps') :
    Inv w D turn c (b + 1) (repl (repl news (D.kd i) ko') (D.td i) o') := by
  obtain ⟨ko, o, od, ps, m1, m2, m3, m4, m5, m9, m6, m7, m8⟩ := I.pair i hi
  have mv : ∀ a ob, (a, ob) ∈ news → a ≠ D.kd i → a ≠ D.td i → (a, ob) ∈ repl (repl news (D.kd i) ko') (D.td i) o' := fun a ob hm n1 n2 => mem_repl_ne (mem_repl_ne hm n1) n2
  have mc : ∀ a ob, (a, ob) ∈ news → ob.cls ≠ .type "dict" → ob.cls ≠ .ref 31 → (a, ob) ∈ repl (repl news (D.kd i) ko') (D.td i) o' := fun a ob hm n1 n2 =>
    mv a ob hm (ne_cls N hm m1 (by rw [m4.cls]; exact n1)) (ne_cls N hm m2 (by rw [m5.cls]; exact n2))
  have n1 : (Value.type "list") ≠ .type "dict" := by decide
  have n2 : (Value.type "list") ≠ .ref 31 := by decide
  refine ⟨mc _ _ I.mem n1 n2, mc _ _ I.kept n1 n2, mc _ _ I.tabs n1 n2, mc _ _ I.safes n1 n2, fun j hj => ?_, fun j hj => ?_, fun j hj => (I.safe j hj).move fun a ob hm hc => mc a ob hm (by rcases hc with e | e <;> rw [e] <;> decide) (by rcases hc with e | e <;> rw [e] <;> decide)⟩
  · obtain ⟨so, Sj, n, h1, h2, h3, h4⟩ := I.sets j hj
    exact ⟨so, Sj, n, mc _ _ h1 (by rw [setObj_cls h2]; decide) (by rw [setObj_cls h2]; decide), h2, h3, h4⟩
  · by_cases e : j = i
    · subst e
      refine ⟨ko', o', od, ps', ?_, mem_repl (mem_repl_ne m2 (Ne.symm (AP.kt j j hj hj))), mv _ _ m3 (AP.kdd j j hj hj) (AP.tdd j j hj hj), hK, hT, m9, m6, hl, hok⟩
      exact mem_repl_ne (mem_repl m1) (AP.kt j j hj hj)
    · obtain ⟨k1, o1, d1, ps1, q1, q2, q3, q4, q5, q9, q6, q7, q8⟩ := I.pair j hj
      exact ⟨k1, o1, d1, ps1, mv _ _ q1 (AP.kk j i hj hi e) (AP.kt j i hj hi), mv _ _ q2 (Ne.symm (AP.kt i j hi hj)) (AP.tt j i hj hi e), mv _ _ q3 (AP.kdd i j hi hj) (AP.tdd i j hi hj), q4, q5, q9, q6, by omega, q8⟩
theorem SafeD.cls {od : Obj} (h : SafeD od) : od.cls = .type "dict" := by
  rcases h with rfl | ⟨_, _, _, _, rfl⟩ <;> rfl
theorem Inv.assign {j : Nat} {od' : Obj} (N : News h₀ L h news) (AP : Apart D) (I : Inv w D turn j b news) (hj : j < 3) (hD : SafeD od') (hv : lookIn (Str.ofString "safe") od' = some (some (D.sv ((j + turn) % 3)))) :
    Inv w D turn (j + 1) b (repl news (D.dd j) od') := by
  obtain ⟨ko, o, od, ps, m1, m2, m3, m4, m5, m9, m6, m7, m8⟩ := I.pair j hj
  have mv : ∀ a ob, (a, ob) ∈ news → a ≠ D.dd j → (a, ob) ∈ repl news (D.dd j) od' := fun a ob hm n1 => mem_repl_ne hm n1
  have mc : ∀ a ob, (a, ob) ∈ news → ob.cls ≠ .type "dict" → (a, ob) ∈ repl news (D.dd j) od' := fun a ob hm n1 =>
    mv a ob hm (ne_cls N hm m3 (by rw [m9.cls]; exact n1))
  have n1 : (Value.type "list") ≠ .type "dict" := by decide
  refine ⟨mc _ _ I.mem n1, mc _ _ I.kept n1, mc _ _ I.tabs n1, mc _ _ I.safes n1, fun i hi => ?_, fun i hi => ?_, fun i hi => (I.safe i hi).move fun a ob hm hc => mc a ob hm (by rcases hc with e | e <;> rw [e] <;> decide)⟩
  · obtain ⟨so, Sj, n, h1, h2, h3, h4⟩ := I.sets i hi
    exact ⟨so, Sj, n, mc _ _ h1 (by rw [setObj_cls h2]; decide), h2, h3, h4⟩
  · by_cases e : i = j
    · subst e
      exact ⟨ko, o, od', ps, mv _ _ m1 (Ne.symm (AP.kdd i i hi hi)), mv _ _ m2 (Ne.symm (AP.tdd i i hi hi)), mem_repl m3, m4, m5, hD, fun _ => hv, m7, m8⟩
    · obtain ⟨k1, o1, d1, ps1, q1, q2, q3, q4, q5, q9, q6, q7, q8⟩ := I.pair i hi
      exact ⟨k1, o1, d1, ps1, mv _ _ q1 (Ne.symm (AP.kdd i j hi hj)), mv _ _ q2 (Ne.symm (AP.tdd i j hi hj)), mv _ _ q3 (AP.ddd i j hi hj e), q4, q5, q9, fun hlt => q6 (by omega), q7, q8⟩
theorem Inv.next {news : List (Addr × Obj)} (I : Inv w D turn c b news) (turn' : Nat) : Inv w D turn' 0 b news :=
  ⟨I.mem, I.kept, I.tabs, I.safes, I.sets, fun i hi => by
    obtain ⟨k1, o1, d1, ps1, q1, q2, q3, q4, q5, q9, q6, q7, q8⟩ := I.pair i hi
    exact ⟨k1, o1, d1, ps1, q1, q2, q3, q4, q5, q9, fun hlt => absurd hlt (Nat.not_lt_zero _), q7, q8⟩, I.safe⟩
theorem Inv.mono {news' : List (Addr × Obj)} {b' : Nat} (I : Inv w D turn c b news) (hm : ∀ p ∈ news, p ∈ news') (hb : b ≤ b') : Inv w D turn c b' news' := by
  refine ⟨hm _ I.mem, hm _ I.kept, hm _ I.tabs, hm _ I.safes, fun j hj => ?_, fun j hj => ?_, fun j hj => (I.safe j hj).move fun a o h _ => hm _ h⟩
  · obtain ⟨so, Sj, n, h1, h2⟩ := I.sets j hj
    exact ⟨so, Sj, n, hm _ h1, h2⟩
  · obtain ⟨k1, o1, d1, ps1, q1, q2, q3, q4, q5, q9, q6, q7, q8⟩ := I.pair j hj
    exact ⟨k1, o1, d1, ps1, hm _ q1, hm _ q2, hm _ q3, q4, q5, q9, q6, by omega, q8⟩
end
end Mine

namespace Mine
def lawFn : List PySem.Stmt × Scope := match PySem.Challenge.pw_dm0085_01.main.body.getLast? with
  | some (.FunctionDef _ _ body _ _ _ scope _ _ _) => (body, scope)
  | _ => ([], { kind := .function, names := [], isGenerator := false, isCoroutine := false, more := [] })
def lawBody : List PySem.Stmt := lawFn.1
def lawScope : Scope := lawFn.2
def forBody (s : Option PySem.Stmt) : List PySem.Stmt := match s with
  | some (.For _ _ b _ _) => b
  | _ => []
def turnBody : List PySem.Stmt := forBody lawBody[9]?
def keyBody : List PySem.Stmt := forBody turnBody[2]?
def oneBody : List PySem.Stmt := forBody keyBody[0]?

theorem fr_b {h₀ h : Heap} {L : Addr} {m : Str → Option Value} (ps : List (Str × Value)) (F : Fr h₀ L h m) (e : ∀ p ∈ ps, m p.1 = some p.2) : Fr h₀ L h (kstB m ps) := by
  have : kstB m ps = m := by funext z; exact kstB_eq e fun _ => rfl
  rw [this]; exact F

section
variable {w : World} {A : Around} {E : Value → Shared → Prop} {s : Shared} {h₀ : Heap} {L : Addr} {m : Str → Option Value} {news : List (Addr × Obj)}
theorem item3 {value slice : PySem.Expr} {la : Addr} {n : Nat} {k : Int} {t : Tok} {Q : Value → Shared → Prop} (f : Nat → Addr) (j : Nat) (N : News h₀ L s.heap news) (hm : (la, listOf #[.ref (f 0), .ref (f 1), .ref (f 2)] n) ∈ news) (hk : k = (j : Int)) (hj : j < 3)
    (h : Q (.ref (f j)) s) (hs : subscripted slice false (.ref la) (.int k t) = operate [.ref la, .int k t] (getItem (.ref la) (.int k t)) := by with_unfolding_all rfl) :
    wpAny (model prg w) A (subscriptTail value slice (.ref la) (.int k t)) Q E s := by
  have hl : s.heap.IsList la #[.ref (f 0), .ref (f 1), .ref (f 2)] := ⟨_, (N _ hm).1, rfl, n, rfl⟩
  refine tail_any hl.typeIs slot_list_getitem.lookup (wpAny_getItem_list hl (by omega) (by omega) ?_ h) hs
  subst hk
  have : j = 0 ∨ j = 1 ∨ j = 2 := by omega
  rcases this with rfl | rfl | rfl <;> rfl
theorem tup_ne {t1 t2 : Addr} {r : Option Str} {u1 u2 : Tok} {Q : Value → Shared → Prop} (N : News h₀ L s.heap news) (h1 : (t1, tupR r u1) ∈ news) (h2 : (t2, tupR r u2) ∈ news) (hok : ∀ x, r = some x → PyData.strOk x = true) (hu : A.units + 64 < cLine)
    (h : Q (.bool false) s) : wpAny (model prg w) A (compareOp .NotEq (.ref t1) (.ref t2)) Q E s := by
  have rd : ∀ tt u, (tt, tupR r u) ∈ news → Reads s.heap (.ref tt) (.tuple [.bool r.isSome, .str (r.getD (Str.ofString ""))]) [] := fun tt u hm =>
    reads_tuple_at (N _ hm).1 rfl rfl (ReadsAll.cons (Reads.bool _) (ReadsAll.cons (Reads.str _ _) ReadsAll.nil))
  have ok : PyData.strOk (r.getD (Str.ofString "")) = true := by
    cases r with
    | none => decide +kernel
    | some x => exact hok x rfl
  have sh : SeqAt.shaped (.tuple [.bool r.isSome, .str (r.getD (Str.ofString ""))]) = true := by
    simp [SeqAt.shaped, PyData.canLay0, PyData.canLayAll0, PyData.depth, PyData.depthAll, ok]
  refine ne_dataH (rd _ _ h1) (rd _ _ h2) sh sh hu ?_
  have e : PyData.eqv (.tuple [.bool r.isSome, .str (r.getD (Str.ofString ""))]) (.tuple [.bool r.isSome, .str (r.getD (Str.ofString ""))]) = true := by
    simp [PyData.eqv, PyData.eqvAll]
  rw [e]; exact h
theorem way_eq (i turn : Nat) : ((i : Int) + (turn : Int)).fmod 3 = (((i + turn) % 3 : Nat) : Int) := by
  rw [Int.fmod_eq_emod_of_nonneg _ (by decide)]; omega
theorem way_zero (i turn : Nat) : (((i : Int) + (turn : Int)).fmod 3 == 0) = decide ((i + turn) % 3 = 0) := by
  rw [way_eq]; by_cases h : (i + turn) % 3 = 0
  · rw [h]; rfl
  · rw [decide_eq_false h]
    exact beq_eq_false_iff_ne.mpr (by omega)
end
local macro_rules | `(tactic| walk_at "subscriptTail") => `(tactic| k_extra "mine sub")
local macro_rules | `(tactic| walk_at "call ref") => `(tactic| k_extra "mine call")
local macro_rules | `(tactic| walk_at "compareOp NotEq ref ref") => `(tactic| k_extra "mine ne")
theorem body3_ok : ∀ (w : World) (mean : ExcName → Option Value) (mg mb : Str → Option Value) (D : Dat) (turn b i : Nat) (k : Int) (t1 t2 t3 : Tok) (fa : Addr) (cd : Value) (h₀ : Heap) (L : Addr) (m : Str → Option Value) (s : Shared) (Q : Flow → Shared → Prop) (E : Value → Shared → Prop) (news : List (Addr × Obj)),
    Below callerA h₀ [] h₀ → Fr h₀ L s.heap m → (hd.heap_39 w.params).In h₀ → News h₀ L s.heap news → TopH mean mg mb h₀ → turn < 2 → i < 3 → -14000000000 < k → k < 14000000000 → b < 9000 → Apart D → Inv w D turn 3 b news →
    m (Str.ofString "one") = some (.int i t1) → m (Str.ofString "turn") = some (.int turn t2) → m (Str.ofString "key") = some (.int k t3) → m (Str.ofString "members") = some (.ref D.aMem) → m (Str.ofString "kept") = some (.ref D.aKept) → m (Str.ofString "tables") = some (.ref D.aTabs) →
    (∀ (h' : Heap) (tk' : Nat) (m' : Str → Option Value) (ko' o' : Obj) (ps' : List (Int × Str)), Fr h₀ L h' m' → News h₀ L h' (repl (repl news (D.kd i) ko') (D.td i) o') → KObj w ko' ps' → TObj w o' (D.dd i) ps' → ps'.length ≤ b + 1 → TextsOk ps' →
      (∀ z, z ≠ Str.ofString "way" → z ≠ Str.ofString "due" → m' z = m z) → Q .next { s with heap := h', toks := tk' }) →
    wpAny (model PySem.Challenge.rw_dm0085_01.row.prog w) (callerA.deeper (envOf (Str.ofString "law") lawScope L fa cd)) (execs oneBody (envOf (Str.ofString "law") lawScope L fa cd)) Q E s := by
  k_fill
  intro w mean mg mb D turn b i k t1 t2 t3 fa cd h₀ L m s Q E news B F X N T hturn hi hk1 hk2 hb AP I e1 e2 e3 e4 e5 e6 hret
  have F2 := fr_b [(Str.ofString "one", .int i t1), (Str.ofString "turn", .int turn t2), (Str.ofString "key", .int k t3), (Str.ofString "members", .ref D.aMem), (Str.ofString "kept", .ref D.aKept), (Str.ofString "tables", .ref D.aTabs)] F (by simp [e1, e2, e3, e4, e5, e6])
  have hkm : ∀ z, kstB m [(Str.ofString "one", .int i t1), (Str.ofString "turn", .int turn t2), (Str.ofString "key", .int k t3), (Str.ofString "members", .ref D.aMem), (Str.ofString "kept", .ref D.aKept), (Str.ofString "tables", .ref D.aTabs)] z = m z := fun z => kstB_eq (by simp [e1, e2, e3, e4, e5, e6]) fun _ => rfl
  clear F e1 e2 e3 e4 e5 e6
  dsimp only [oneBody, keyBody, turnBody, lawBody, lawScope, lawFn, forBody, PySem.Challenge.pw_dm0085_01, List.getLast?, List.getLast, List.getElem?_cons_succ, List.getElem?_cons_zero]
  have hj : (i + turn) % 3 < 3 := by omega
  obtain ⟨so, Sj, n, p1, p2, p3, p4⟩ := I.sets _ hj
  obtain ⟨ko, o, od, ps, m1, m2, m3, m4, m5, m9, m6', m7, m8⟩ := I.pair i hi
  have m6 := m6' hi
  have hsafe := I.safe _ hj
  have c1 : ∀ a ob, (a, ob) ∈ news → ob.cls ≠ .type "dict" → a ≠ D.kd i := fun a ob hm hc => ne_cls N hm m1 (by rw [m4.cls]; exact hc)
  have eqR : dueR (((i : Int) + (turn : Int)).fmod 3 == 0) Sj ps k = dueR (decide ((i + turn) % 3 = 0)) (D.S ((i + turn) % 3)) ps k := by
    rw [way_zero]
    exact dueR_congr fun h => p4 k fun e => h (decide_eq_true e)
  k_with "mine sub" => (first | (refine item3 D.sd ((i + turn) % 3) (by k_asm) I.mem (way_eq i turn) hj ?_) | (refine item3 D.kd i (by k_asm) I.kept rfl hi ?_))
  k_with "mine call" => (refine Stop.here ?_)
  k_steps
  unfold Stop
  k_dflt (refine' due_call w mean mg mb _ Sj n _ _ so ko ps k _ _ _ _ _ _ _ _ _ _ _ _ _ _ _ _ _ _ news B ?k2 X ?k4 T ?k6 ?k7 ?k8 hk1 hk2 p1 m1 p2 p3 m4 ?k9 (AP.ksys i hi) ?ret)
  case k2 => k_asm
  case k4 => k_asm
  case k6 => exact rfl
  case k7 => first | ktr_room | k_room
  case k8 => first | ktr_units | units_room
  case k9 => omega
  rw [eqR]
  intro tt u ko' h' tk' F' N' hlt hK'
  have hne : tt ≠ D.td i := Nat.ne_of_gt (hlt _ m2)
  have q2 : (D.td i, o) ∈ (tt, tupR (dueR (decide ((i + turn) % 3 = 0)) (D.S ((i + turn) % 3)) ps k) u) :: repl news (D.kd i) ko' := .tail _ (mem_repl_ne m2 (Ne.symm (AP.kt i i hi hi)))
  have q3 : (D.dd i, od) ∈ (tt, tupR (dueR (decide ((i + turn) % 3 = 0)) (D.S ((i + turn) % 3)) ps k) u) :: repl news (D.kd i) ko' := .tail _ (mem_repl_ne m3 (AP.kdd i i hi hi))
  have q4 : (D.aTabs, listOf #[.ref (D.td 0), .ref (D.td 1), .ref (D.td 2)] D.nTabs) ∈ (tt, tupR (dueR (decide ((i + turn) % 3 = 0)) (D.S ((i + turn) % 3)) ps k) u) :: repl news (D.kd i) ko' := .tail _ (mem_repl_ne I.tabs (c1 _ _ I.tabs (by decide : (Value.type "list") ≠ .type "dict")))
  have q5 : SafeV ((tt, tupR (dueR (decide ((i + turn) % 3 = 0)) (D.S ((i + turn) % 3)) ps k) u) :: repl news (D.kd i) ko') (D.sv ((i + turn) % 3)) (decide ((i + turn) % 3 = 0)) (D.S ((i + turn) % 3)) :=
    hsafe.move fun a ob hm hc => .tail _ (mem_repl_ne hm (c1 _ _ hm (by rcases hc with e | e <;> rw [e] <;> decide)))
  k_with "mine sub" => (refine item3 D.td i (by k_asm) q4 rfl hi ?_)
  k_steps
  unfold Stop
  k_dflt (refine' told_call w mean mg mb (decide ((i + turn) % 3 = 0)) (D.S ((i + turn) % 3)) (D.sv ((i + turn) % 3)) _ _ o od ps k _ _ _ _ _ _ _ _ _ _ _ _ _ _ _ _ B ?j2 X ?j4 T ?j6 ?j7 ?j8 hk1 hk2 q2 q3 m5 m6 q5 ?j9 (AP.tsys i hi) (AP.tdd i i hi hi) ?ret2)
  case j2 => k_asm
  case j4 => k_asm
  case j6 => exact rfl
  case j7 => first | ktr_room | k_room
  case j8 => first | ktr_units | units_room
  case j9 => omega
  intro tt2 u2 o' h2 tk2 F2' N2' hlt2 hT'
  have q6 : (tt, tupR (dueR (decide ((i + turn) % 3 = 0)) (D.S ((i + turn) % 3)) ps k) u) ∈ (tt2, tupR (dueR (decide ((i + turn) % 3 = 0)) (D.S ((i + turn) % 3)) ps k) u2) :: repl ((tt, tupR (dueR (decide ((i + turn) % 3 = 0)) (D.S ((i + turn) % 3)) ps k) u) :: repl news (D.kd i) ko') (D.td i) o' := .tail _ (mem_repl_ne (.head _) hne)
  k_with "mine ne" => (refine tup_ne (by k_asm) (.head _) q6 (fun x hx => dueR_ok m8 hx) (by units_room) ?_)
  k_steps
  k_with_none
  refine hret h2 tk2 _ ko' o' _ (by k_asm) (fun p hp => N2' p (.tail _ (List.mem_cons_of_mem _ hp))) hK' hT' (Nat.le_trans putR_len (by omega)) (putR_ok m8) (fun z n1 n2 => ?_)
  dsimp only
  rw [if_neg n2, if_neg n1]
  exact hkm z
end Mine

namespace Mine
theorem repl_append {x y : List (Addr × Obj)} {d : Addr} {o : Obj} : repl (x ++ y) d o = repl x d o ++ repl y d o := List.map_append
theorem repl_off {x : List (Addr × Obj)} {d : Addr} {o : Obj} (h : ∀ p ∈ x, p.1 ≠ d) : repl x d o = x := by
  unfold repl
  conv => rhs; rw [← List.map_id x]
  refine List.map_congr_left fun p hp => ?_
  rw [if_neg (h p hp)]; rfl
section
variable {prog : Program} {w : World} {A : Around} {E : Value → Shared → Prop} {s : Shared} {env : Env} {h₀ : Heap} {x : Str} {body : List PySem.Stmt} {Q : Flow → Shared → Prop}
theorem iter_rangeN {r : Addr} {a₀ b₀ : Int} {t₀ u₀ v₀ : Tok} {n : Nat} {m₀ : Str → Option Value} {news : List (Addr × Obj)} (J : Nat → (Str → Option Value) → List (Addr × Obj) → Prop)
    (hh : A.handled = none) (hr : IsRange s.heap r a₀ b₀ 1 t₀ u₀ v₀) (hsmall : Builtin.Range.small a₀ b₀ 1 = true) (hn : Builtin.Range.rangeSize a₀ b₀ 1 = (n : Int)) (F : Fr h₀ env.locals s.heap m₀) (N : News h₀ env.locals s.heap news) (hj : J 0 m₀ news)
    (turn : ∀ i t m₁ news₁ h tk own, i < n → news₁.map (·.1) = news.map (·.1) → OwnOff own (news.map (·.1)) → J i m₁ news₁ → Fr h₀ env.locals h (fun y => if y = x then some (.int (a₀ + i) t) else m₁ y) → News h₀ env.locals h (news₁ ++ own) →
      wpAny (model prog w) A (execs body env) (InvPostN h₀ env.locals (J (i + 1)) own (news.map (·.1)) { s with heap := h, toks := tk } Q) E { s with heap := h, toks := tk })
    (done : ∀ m₁ news₁ h tk, J n m₁ news₁ → Fr h₀ env.locals h m₁ → News h₀ env.locals h news₁ → Q .next { s with heap := h, toks := tk }) :
    wpAny (model prog w) A (pyIter (.ref r)) (fun it s₂ => LoopAtV prog w A h₀ env x body Q E it s₂) E s := by
  refine wpAny_pyIter_range hr hsmall ?_
  have W : Walks prog w A s.heap.objs.size [s.heap.objs.size] [s.heap.objs.size] n (fun i v => i < n ∧ ∃ t, v = .int (a₀ + i * 1) t)
      (fun i h => IsRangeIter h s.heap.objs.size (a₀ + (i : Nat) * 1) ((n : Int) - (i : Nat)) 1) := (Walks.range hh _ a₀ 1 n).bound
  refine loop_invN J W ?_ ?_ ?_ ?_ (by show IsRangeIter _ _ _ _ _; rw [hn]; simpa using Heap.get?_push_size _ rfl) (F.push _) (fun p hp => ⟨Heap.get?_push_of_some _ (N p hp).1, (N p hp).2⟩) hj ?_ ?_
  · intro hm
    exact absurd F.ns.lt ((List.mem_singleton.mp hm) ▸ Nat.lt_irrefl _)
  · intro c hc
    rw [List.mem_singleton.mp hc]
    exact next_is_new F
  · intro p hp hI
    exact absurd (Heap.lt_size (N p hp).1) ((List.mem_singleton.mp hI) ▸ Nat.lt_irrefl _)
  · intro p hp hI
    exact absurd (Heap.lt_size (N p hp).1) ((List.mem_singleton.mp hI) ▸ Nat.lt_irrefl _)
  · rintro i v m₁ news₁ h tk own hi ⟨_, t, rfl⟩ hadr hoff hJ F₁ N₁
    rw [Int.mul_one] at F₁
    exact turn i t m₁ news₁ h tk own hi hadr hoff hJ F₁ N₁
  · exact fun m₁ news₁ h tk hJ F₁ N₁ => done m₁ news₁ h tk hJ F₁ N₁
end
theorem range3 : rangeKs 0 3 = [0, 1, 2] := by decide
/-- what the loop over the three tables keeps -/
def R3 (w : World) (D : Dat) (turn : Nat) (news : List (Addr × Obj)) (m₀ : Str → Option Value) (a : Nat) (m : Str → Option Value) (nx : List (Addr × Obj)) : Prop :=
  Inv w D turn 3 a nx ∧ nx.map (·.1) = news.map (·.1) ∧ (∀ p ∈ news, (∀ i, i < 3 → p.1 ≠ D.kd i ∧ p.1 ≠ D.td i) → p ∈ nx) ∧ (∀ z, z ≠ Str.ofString "way" → z ≠ Str.ofString "due" → z ≠ Str.ofString "one" → m z = m₀ z)
local macro_rules | `(tactic| walk_at "pyIter ref") => `(tactic| k_extra "mine iter")
theorem key_ok : ∀ (w : World) (mean : ExcName → Option Value) (mg mb : Str → Option Value) (D : Dat) (turn b : Nat) (k : Int) (t2 t3 : Tok) (fa : Addr) (cd : Value) (h₀ : Heap) (L : Addr) (m : Str → Option Value) (s : Shared) (Q : Flow → Shared → Prop) (E : Value → Shared → Prop) (news : List (Addr × Obj)),
    Below callerA h₀ [] h₀ → Fr h₀ L s.heap m → (hd.heap_39 w.params).In h₀ → News h₀ L s.heap news → TopH mean mg mb h₀ → turn < 2 → -14000000000 < k → k < 14000000000 → b < 8000 → Apart D → Inv w D turn 3 b news →
    m (Str.ofString "turn") = some (.int turn t2) → m (Str.ofString "key") = some (.int k t3) → m (Str.ofString "members") = some (.ref D.aMem) → m (Str.ofString "kept") = some (.ref D.aKept) → m (Str.ofString "tables") = some (.ref D.aTabs) →
    PassesOwn (model PySem.Challenge.rw_dm0085_01.row.prog w) (callerA.deeper (envOf (Str.ofString "law") lawScope L fa cd)) (envOf (Str.ofString "law") lawScope L fa cd) E →
    (∀ (h' : Heap) (tk' : Nat) (m' : Str → Option Value) (news' : List (Addr × Obj)), Fr h₀ L h' m' → News h₀ L h' news' → Inv w D turn 3 (b + 3) news' → news'.map (·.1) = news.map (·.1) → (∀ p ∈ news, (∀ i, i < 3 → p.1 ≠ D.kd i ∧ p.1 ≠ D.td i) → p ∈ news') →
      (∀ z, z ≠ Str.ofString "way" → z ≠ Str.ofString "due" → z ≠ Str.ofString "one" → m' z = m z) → Q .next { s with heap := h', toks := tk' }) →
    wpAny (model PySem.Challenge.rw_dm0085_01.row.prog w) (callerA.deeper (envOf (Str.ofString "law") lawScope L fa cd)) (execs keyBody (envOf (Str.ofString "law") lawScope L fa cd)) Q E s := by
  k_fill
  intro w mean mg mb D turn b k t2 t3 fa cd h₀ L m s Q E news B F X N T hturn hk1 hk2 hb AP I e2 e3 e4 e5 e6 hE hret
  dsimp only [oneBody, keyBody, turnBody, lawBody, lawScope, lawFn, forBody, PySem.Challenge.pw_dm0085_01, List.getLast?, List.getLast, List.getElem?_cons_succ, List.getElem?_cons_zero]
  k_with "mine iter" => (refine Stop.here ?_)
  k_steps
  k_with_none
  unfold Stop
  refine iter_rangeN (n := 3) (news := news) (m₀ := m) (fun j m' nx => R3 w D turn news m (b + j) m' nx) rfl (by assumption) (by decide) (by decide) (by k_asm) (by k_asm) ⟨I, rfl, fun p hp _ => hp, fun _ _ _ _ => rfl⟩ ?turn ?done
  case turn =>
    intro j t m₁ nx h tk own hj hadr hoff hR F₁ N₁
    obtain ⟨I₁, ha, hkeep, hm⟩ := hR
    have hin : ∀ i, i < 3 → D.kd i ∈ news.map (·.1) ∧ D.td i ∈ news.map (·.1) := fun i hi => by
      obtain ⟨ko, o, od, ps, m1, m2, _⟩ := I.pair i hi
      exact ⟨List.mem_map.mpr ⟨_, m1, rfl⟩, List.mem_map.mpr ⟨_, m2, rfl⟩⟩
    have hown : ∀ i, i < 3 → (∀ p ∈ own, p.1 ≠ D.kd i) ∧ (∀ p ∈ own, p.1 ≠ D.td i) := fun i hi => ⟨fun p hp => hoff p hp _ (hin i hi).1, fun p hp => hoff p hp _ (hin i hi).2⟩
    have hz : ∀ z v, z ≠ Str.ofString "way" → z ≠ Str.ofString "due" → z ≠ Str.ofString "one" → m z = some v → (fun y => if y = Str.ofString "one" then some (Value.int (0 + (j : Int)) t) else m₁ y) z = some v := fun z v n1 n2 n3 e => by
      dsimp only; rw [if_neg n3, hm z n1 n2 n3]; exact e
    refine body3_ok w mean mg mb D turn (b + j) j k t t2 t3 fa cd h₀ L _ _ _ E (nx ++ own) B F₁ X N₁ T hturn hj hk1 hk2 (by omega) AP (I₁.mono (fun p hp => List.mem_append_left _ hp) (Nat.le_refl _)) ?_ (hz _ _ (by decide) (by decide) (by decide) e2) (hz _ _ (by decide) (by decide) (by decide) e3) (hz _ _ (by decide) (by decide) (by decide) e4) (hz _ _ (by decide) (by decide) (by decide) e5) (hz _ _ (by decide) (by decide) (by decide) e6) ?_
    · rw [if_pos rfl, Int.zero_add]
    · intro h' tk' m' ko' o' ps' F' N' hK hT hl hok hz'
      have N₂ : News h₀ L h nx := fun p hp => N₁ p (List.mem_append_left _ hp)
      have e : repl (repl (nx ++ own) (D.kd j) ko') (D.td j) o' = repl (repl nx (D.kd j) ko') (D.td j) o' ++ own := by
        rw [repl_append, repl_append, repl_off (hown j hj).1, repl_off (hown j hj).2]
      rw [e] at N'
      refine InvEndN.intro (nx := repl (repl nx (D.kd j) ko') (D.td j) o') F' N' ⟨Inv.step N₂ AP I₁ hj hK hT hl hok, by rw [repl_map, repl_map, ha], fun p hp hn => mem_repl_ne (mem_repl_ne (hkeep p hp hn) (hn j hj).1) (hn j hj).2, fun z n1 n2 n3 => ?_⟩ (by rw [repl_map, repl_map, ha]) (fun p hp => List.mem_append_left _ hp) (fun p hp => List.mem_append_right _ hp)
      rw [hz' z n1 n2, if_neg n3]; exact hm z n1 n2 n3
  case done =>
    intro m₁ nx h tk hR F₁ N₁
    obtain ⟨I₁, ha, hkeep, hm⟩ := hR
    k_steps
    exact hret h tk m₁ nx F₁ N₁ I₁ ha hkeep hm
end Mine

namespace Mine
def keyBoundOk (ns : List Int) : Prop := ∀ n ∈ ns, -14000000000 < n ∧ n < 14000000000

theorem SafeV.cut {v : Value} {oc oc' : Bool} {S S' : Int → Bool} {news news' nx : List (Addr × Obj)} (h : SafeV news v oc S) (h' : SafeV news' v oc' S') (hs : ∀ p ∈ news', p.1 ∈ news.map (·.1) → p ∈ nx) : SafeV nx v oc' S' := by
  cases h' with
  | octets bs u => exact .octets bs u
  | list la vs ns n hl hi =>
    refine .list la vs ns n (hs _ hl ?_) hi
    cases h with
    | list _ vs' ns' n' hl' _ => exact List.mem_map.mpr ⟨_, hl', rfl⟩
    | range _ a b ta tb tc hr => exact List.mem_map.mpr ⟨_, hr, rfl⟩
  | range ra a b ta tb tc hr =>
    refine .range ra a b ta tb tc (hs _ hr ?_)
    cases h with
    | list _ vs' ns' n' hl' _ => exact List.mem_map.mpr ⟨_, hl', rfl⟩
    | range _ a b ta tb tc hr => exact List.mem_map.mpr ⟨_, hr, rfl⟩
theorem Inv.cut {w : World} {D : Dat} {turn turn' c c' b b' : Nat} {news news' nx : List (Addr × Obj)} (I : Inv w D turn c b news) (I' : Inv w D turn' c' b' news') (hs : ∀ p ∈ news', p.1 ∈ news.map (·.1) → p ∈ nx) : Inv w D turn' c' b' nx := by
  have at_ : ∀ {a : Addr} {o : Obj}, (a, o) ∈ news → a ∈ news.map (·.1) := fun h => List.mem_map.mpr ⟨_, h, rfl⟩
  refine ⟨hs _ I'.mem (at_ I.mem), hs _ I'.kept (at_ I.kept), hs _ I'.tabs (at_ I.tabs), hs _ I'.safes (at_ I.safes), fun j hj => ?_, fun j hj => ?_, fun j hj => (I.safe j hj).cut (I'.safe j hj) hs⟩
  · obtain ⟨so, Sj, n, h1, h2⟩ := I'.sets j hj
    obtain ⟨so1, _, _, h3, _⟩ := I.sets j hj
    exact ⟨so, Sj, n, hs _ h1 (at_ h3), h2⟩
  · obtain ⟨k1, o1, d1, ps1, q1, q2, q3, q4⟩ := I'.pair j hj
    obtain ⟨k2, o2, d2, ps2, r1, r2, r3, _⟩ := I.pair j hj
    exact ⟨k1, o1, d1, ps1, hs _ q1 (at_ r1), hs _ q2 (at_ r2), hs _ q3 (at_ r3), q4⟩
/-- the fore part of a ledger, by its addresses -/
theorem cut_mem {nx own news' : List (Addr × Obj)} {adr : List Addr} (ha : news'.map (·.1) = (nx ++ own).map (·.1)) (hn : nx.map (·.1) = adr) (hoff : OwnOff own adr) : ∀ p ∈ news', p.1 ∈ adr → p ∈ news'.take nx.length := by
  intro p hp hpa
  have hsplit : news' = news'.take nx.length ++ news'.drop nx.length := (List.take_append_drop _ _).symm
  rw [hsplit] at hp
  rcases List.mem_append.mp hp with h | h
  · exact h
  · exfalso
    have e : (news'.drop nx.length).map (·.1) = own.map (·.1) := by
      rw [List.map_drop, ha, List.map_append]
      have : nx.length = (nx.map (·.1)).length := by simp
      rw [this, List.drop_left]
    have h2 : p.1 ∈ own.map (·.1) := by rw [← e]; exact List.mem_map.mpr ⟨p, h, rfl⟩
    obtain ⟨q, hq, hqe⟩ := List.mem_map.mp h2
    exact hoff q hq p.1 hpa hqe
theorem cut_map {nx own news' : List (Addr × Obj)} (ha : news'.map (·.1) = (nx ++ own).map (·.1)) : (news'.take nx.length).map (·.1) = nx.map (·.1) := by
  rw [List.map_take, ha, List.map_append]
  have : nx.length = (nx.map (·.1)).length := by simp
  rw [this, List.take_left]
/-- what the loop over the keys keeps -/
def RK (w : World) (D : Dat) (turn : Nat) (news : List (Addr × Obj)) (m₀ : Str → Option Value) (a : Nat) (m : Str → Option Value) (nx : List (Addr × Obj)) : Prop :=
  Inv w D turn 3 a nx ∧ nx.map (·.1) = news.map (·.1) ∧ (∀ p ∈ news, (∀ i, i < 3 → p.1 ≠ D.kd i ∧ p.1 ≠ D.td i) → p ∈ nx) ∧ (∀ z, z ≠ Str.ofString "way" → z ≠ Str.ofString "due" → z ≠ Str.ofString "one" → z ≠ Str.ofString "key" → m z = m₀ z)

theorem keys_ok {w : World} {mean : ExcName → Option Value} {mg mb : Str → Option Value} {D : Dat} {turn b : Nat} {t2 : Tok} {fa : Addr} {cd : Value} {h₀ : Heap} {L : Addr} {m : Str → Option Value} {s : Shared} {Q : Flow → Shared → Prop} {E : Value → Shared → Prop} {news : List (Addr × Obj)}
    {lk : Addr} {vs : List Value} {ns : List Int} {nn : Nat}
    (B : Below callerA h₀ [] h₀) (F : Fr h₀ L s.heap m) (X : (hd.heap_39 w.params).In h₀) (N : News h₀ L s.heap news) (T : TopH mean mg mb h₀) (hturn : turn < 2) (hb : b + 3 * ns.length < 8000) (AP : Apart D) (I : Inv w D turn 3 b news)
    (hl : (lk, listOf vs.toArray nn) ∈ news) (hi : IntsAre vs ns) (hns : keyBoundOk ns)
    (e2 : m (Str.ofString "turn") = some (.int turn t2)) (e4 : m (Str.ofString "members") = some (.ref D.aMem)) (e5 : m (Str.ofString "kept") = some (.ref D.aKept)) (e6 : m (Str.ofString "tables") = some (.ref D.aTabs))
    (hE : PassesOwn (model PySem.Challenge.rw_dm0085_01.row.prog w) (callerA.deeper (envOf (Str.ofString "law") lawScope L fa cd)) (envOf (Str.ofString "law") lawScope L fa cd) E)
    (hret : ∀ (h' : Heap) (tk' : Nat) (m' : Str → Option Value) (news' : List (Addr × Obj)), Fr h₀ L h' m' → News h₀ L h' news' → RK w D turn news m (b + 3 * ns.length) m' news' → Q .next { s with heap := h', toks := tk' }) :
    wpAny (model PySem.Challenge.rw_dm0085_01.row.prog w) (callerA.deeper (envOf (Str.ofString "law") lawScope L fa cd)) (pyIter (.ref lk))
      (fun it s₂ => LoopAtV PySem.Challenge.rw_dm0085_01.row.prog w (callerA.deeper (envOf (Str.ofString "law") lawScope L fa cd)) h₀ (envOf (Str.ofString "law") lawScope L fa cd) (Str.ofString "key") keyBody Q E it s₂) E s := by
  have hin : ∀ i, i < 3 → D.kd i ∈ news.map (·.1) ∧ D.td i ∈ news.map (·.1) := fun i hi => by
    obtain ⟨ko, o, od, ps, m1, m2, _⟩ := I.pair i hi
    exact ⟨List.mem_map.mpr ⟨_, m1, rfl⟩, List.mem_map.mpr ⟨_, m2, rfl⟩⟩
  have hlne : ∀ i, i < 3 → lk ≠ D.kd i ∧ lk ≠ D.td i := fun i hi => by
    obtain ⟨ko, o, od, ps, m1, m2, _, m4, m5, _⟩ := I.pair i hi
    exact ⟨ne_cls N hl m1 (by rw [m4.cls]; exact (by decide : (Value.type "list") ≠ .type "dict")), ne_cls N hl m2 (by rw [m5.cls]; exact (by decide : (Value.type "list") ≠ .ref 31))⟩
  refine iter_invNL (fun j m' nx => RK w D turn news m (b + 3 * j) m' nx) rfl hl hi F N ⟨I, rfl, fun p hp _ => hp, fun _ _ _ _ _ => rfl⟩ ?turn ?done
  case done => exact fun m₁ nx h tk _ hR F₁ N₁ => hret h tk m₁ nx F₁ N₁ hR
  case turn =>
    intro j k t m₁ nx h tk own hj hadr hoff hlk hR F₁ N₁
    obtain ⟨I₁, ha, hkeep, hm⟩ := hR
    have hjl : j < ns.length := by
      rcases Nat.lt_or_ge j ns.length with h | h
      · exact h
      · rw [List.getElem?_eq_none h] at hj; cases hj
    have hk := hns k (List.mem_of_getElem? hj)
    have hown : ∀ i, i < 3 → ∀ p ∈ own, p.1 ≠ D.kd i ∧ p.1 ≠ D.td i := fun i hi p hp => ⟨hoff p hp _ (hin i hi).1, hoff p hp _ (hin i hi).2⟩
    have hz : ∀ z v, z ≠ Str.ofString "way" → z ≠ Str.ofString "due" → z ≠ Str.ofString "one" → z ≠ Str.ofString "key" → m z = some v → (fun y => if y = Str.ofString "key" then some (Value.int k t) else m₁ y) z = some v := fun z v n1 n2 n3 n4 e => by
      dsimp only; rw [if_neg n4, hm z n1 n2 n3 n4]; exact e
    refine key_ok w mean mg mb D turn (b + 3 * j) k t2 t fa cd h₀ L _ _ _ E (nx ++ own) B F₁ X N₁ T hturn hk.1 hk.2 (by omega) AP (I₁.mono (fun p hp => List.mem_append_left _ hp) (Nat.le_refl _)) (hz _ _ (by decide) (by decide) (by decide) (by decide) e2) (if_pos rfl) (hz _ _ (by decide) (by decide) (by decide) (by decide) e4) (hz _ _ (by decide) (by decide) (by decide) (by decide) e5) (hz _ _ (by decide) (by decide) (by decide) (by decide) e6) hE ?_
    intro h' tk' m' news' F' N' I' ha' hk' hz'
    have hcut := cut_mem ha' ha hoff
    refine InvEndN.intro (nx := news'.take nx.length) F' N' ⟨hcut _ (hk' _ (List.mem_append_left _ hlk) hlne) (List.mem_map.mpr ⟨_, hl, rfl⟩), I.cut I' hcut, (cut_map ha').trans ha, fun p hp hn => hcut _ (hk' p (List.mem_append_left _ (hkeep p hp hn)) hn) (List.mem_map.mpr ⟨_, hp, rfl⟩), fun z n1 n2 n3 n4 => ?_⟩ ((cut_map ha').trans ha) (fun p hp => List.mem_of_mem_take hp) (fun p hp => hk' p (List.mem_append_right _ hp) fun i hi => hown i hi p hp)
    rw [hz' z n1 n2 n3, if_neg n4]; exact hm z n1 n2 n3 n4
end Mine

namespace Mine
section
variable {w : World} {A : Around} {E : Value → Shared → Prop} {s : Shared} {h₀ : Heap} {L : Addr} {m : Str → Option Value} {news : List (Addr × Obj)} {v : Value}
theorem find_sa : findIn (hd.heap_39 w.params) (.ref 31) (Str.ofString "__setattr__") = some (some (.builtin "object.__setattr__")) := by kernel_rfl
theorem refuse31 (self : Value) : refuseLoop self (Str.ofString "__setattr__") [.ref 31, .type "dict", .type "object"] = pure () := by
  rw [refuseLoop_ref]
  have e : classOwn (.type "dict") (Str.ofString "__setattr__") = pure none := by
    show pure (builtinOwn "dict" (Str.ofString "__setattr__")) = _
    rw [builtinOwn_eq_fast]; kernel_rfl
  unfold refuseLoop
  rw [List.forIn_cons]
  simp only [e]
  exact PySem.F.store_object.passes self
theorem taker31 : takerIn (hd.heap_39 w.params) 31 (Str.ofString "safe") = some none := by kernel_rfl
theorem cls31 : ∃ cd, clsIn (hd.heap_39 w.params) 31 = some cd ∧ cd.mro = [.ref 31, .type "dict", .type "object"] ∧ cd.hasDict = true := ⟨_, rfl, rfl, rfl⟩
theorem obj31 : mroIn (hd.heap_39 w.params) 31 (.type "object") = some true := by kernel_rfl

theorem safeD_put {od : Obj} (hD : SafeD od) (hs : Int) (t : Tok) (v : Value) : SafeD (Obj.putName (Str.ofString "safe") hs (.str (Str.ofString "safe") t) v od) ∧ lookIn (Str.ofString "safe") (Obj.putName (Str.ofString "safe") hs (.str (Str.ofString "safe") t) v od) = some (some v) ∧
    (∃ es n, (Obj.putName (Str.ofString "safe") hs (.str (Str.ofString "safe") t) v od).data = .dict es n ∧ es.size ≤ 1) := by
  rcases hD with rfl | ⟨h1, t1, v1, n, rfl⟩
  · have e : Obj.putName (Str.ofString "safe") hs (.str (Str.ofString "safe") t) v (dictOf [] 0) = dictOf [⟨hs, .str (Str.ofString "safe") t, v⟩] 1 := by rfl
    rw [e]
    exact ⟨.inr ⟨hs, t, v, 1, rfl⟩, by rfl, _, _, rfl, Nat.le_refl _⟩
  · have e : Obj.putName (Str.ofString "safe") hs (.str (Str.ofString "safe") t) v (dictOf [⟨h1, .str (Str.ofString "safe") t1, v1⟩] n) = dictOf [⟨h1, .str (Str.ofString "safe") t1, v⟩] n := by rfl
    rw [e]
    exact ⟨.inr ⟨h1, t1, v, n, rfl⟩, by rfl, _, _, rfl, Nat.le_refl _⟩

theorem safeD_data {od : Obj} (hD : SafeD od) : ∃ es n, od.data = .dict es n ∧ aRefKeyMayBeTheName (Str.ofString "safe") es = false := by
  rcases hD with rfl | ⟨h1, t1, v1, n, rfl⟩
  · exact ⟨_, _, rfl, by rfl⟩
  · exact ⟨_, _, rfl, by rfl⟩
theorem set_safe {o od : Obj} {td dt : Addr} {ps : List (Int × Str)} {Q : Unit → Shared → Prop} (X₀ : (hd.heap_39 w.params).In h₀) (F : Fr h₀ L s.heap m) (N : News h₀ L s.heap news) (hmt : (td, o) ∈ news) (hmd : (dt, od) ∈ news) (hT : TObj w o dt ps) (hD : SafeD od)
    (h : ∀ h' od' tk', Fr h₀ L h' m → News h₀ L h' (repl news dt od') → SafeD od' → lookIn (Str.ofString "safe") od' = some (some v) → Q () { s with heap := h', toks := tk' }) :
    wpAny (model prg w) A (setAttr (.ref td) (Str.ofString "safe") v) Q E s := by
  have X := X₀.keeps F.keep
  have I := hT.inst (N _ hmt).1 (N _ hmd).1
  refine set_plain X I find_sa ?_
  have SF := PySem.F.store_object
  obtain ⟨cd, hc, hmro, hdct⟩ := cls31 (w := w)
  have X1 : (hd.heap_39 w.params).In ({ s with toks := s.toks + 1 } : Shared).heap := X
  have I1 : InstAt ({ s with toks := s.toks + 1 } : Shared).heap td o 31 (some od) := I
  have sub : Looks (model prg w) ({ s with toks := s.toks + 1 } : Shared).heap (isInstance (.ref td) (.type "object")) true := I1.type.andThen (looks_mroIn X1 obj31)
  have hm : Looks (model prg w) ({ s with toks := s.toks + 1 } : Shared).heap (mroOf (.ref 31)) [.ref 31, .type "dict", .type "object"] := by rw [← hmro]; exact (looks_clsIn X1 hc).andThen .now
  refine codeAny_call_builtin SF.slot.plain SF.entry (@check_slot (model prg w) _ _ _ "object.__setattr__" "object" "__setattr__" (.ref td) [.str (Str.ofString "safe") s.toks, v] [] _ SF.kind SF.split sub (SF.args (.ref td) _ v) ?_)
  obtain ⟨attr, ha, hr⟩ := Option.bind_eq_some_iff.mp (taker31 (w := w))
  have L3 : Looks (model prg w) ({ s with toks := s.toks + 1 } : Shared).heap (Builtin.ObjectAttr.storeTaker? attr) none := by
    cases attr with
    | none => exact .now
    | some a =>
      obtain ⟨b, hb, hb2⟩ := Option.map_eq_some_iff.mp hr
      refine (looks_takesIn X1 hb).andThen ?_
      cases b with
      | true => cases hb2
      | false => exact .now
  rw [osa_eq, refuse_eq]
  refine wpAny_bind (wpAny_bind (I1.type.here (wpAny_bind (hm.here ?_))))
  rw [refuse31]
  refine wpAny_pure (wpAny_bind (I1.type.here (wpAny_bind ((looks_findIn X1 ha).here (wpAny_bind (L3.here ?_))))))
  dsimp only
  have hx := I1.at_
  obtain ⟨es, ep, kvs, rfl, _⟩ := hT
  have D := (N _ hmd).1
  obtain ⟨es0, n0, d1, d2⟩ := safeD_data hD
  refine wpAny_bind (wpAny_pure (wpAny_bind (wpAny_bind (wpAny_loadPart hx (wpAny_bind ((looks_clsIn X1 hc).here ?_))))))
  rw [hdct]
  refine wpAny_pure (a := some dt) (wpAny_bind (wpAny_pure (wpAny_bind ?_)))
  unfold nsSet
  refine wpAny_bind (wpAny_bind (wpAny_askSetting (wpAny_pure (wpAny_bind (wpAny_mkText (wpAny_bind (wpAny_loadPart D ?_)))))))
  rw [show (dt, od).snd.data = .dict es0 n0 from d1]
  dsimp only
  rw [d2, if_neg (by decide)]
  refine wpAny_updatePart D ?_
  generalize (if (Str.ofString "safe").cps.isEmpty = true then (0 : Int) else reduceHash ((model prg w).w.params.strHash (Str.ofString "safe").cps)) = hsh
  obtain ⟨g1, g2, es', n', g3, g4⟩ := safeD_put hD hsh (s.toks + 1) v
  have hfree : (Obj.putName (Str.ofString "safe") hsh (.str (Str.ofString "safe") (s.toks + 1)) v od).isFreed = false := Obj.isFreed_of_dict g3
  have hself := Heap.get?_update_self (h := s.heap) (Obj.putName (Str.ofString "safe") hsh (.str (Str.ofString "safe") (s.toks + 1)) v) D hfree
  have hsame : Heap.SameBut dt s.heap (s.heap.update dt (Obj.putName (Str.ofString "safe") hsh (.str (Str.ofString "safe") (s.toks + 1)) v)) := Heap.SameBut.update ..
  refine wpAny_bind (wpAny_lookBehind hself (by rw [g3]; exact pastItsLine_dict (by unfold sizeLine; omega)) ?_)
  exact wpAny_pure (h _ _ _ (F.change hsame (N _ hmd).2.1 (N _ hmd).2.2) (N.replace hsame hself) g1 g2)
end
end Mine

namespace Mine
def asgBody : List PySem.Stmt := forBody turnBody[1]?
section
variable {w : World} {A : Around} {E : Value → Shared → Prop} {s : Shared} {h₀ : Heap} {L : Addr} {m : Str → Option Value} {news : List (Addr × Obj)}
theorem item3v {value slice : PySem.Expr} {la : Addr} {n : Nat} {k : Int} {t : Tok} {Q : Value → Shared → Prop} (f : Nat → Value) (j : Nat) (N : News h₀ L s.heap news) (hm : (la, listOf #[f 0, f 1, f 2] n) ∈ news) (hk : k = (j : Int)) (hj : j < 3)
    (h : Q (f j) s) (hs : subscripted slice false (.ref la) (.int k t) = operate [.ref la, .int k t] (getItem (.ref la) (.int k t)) := by with_unfolding_all rfl) :
    wpAny (model prg w) A (subscriptTail value slice (.ref la) (.int k t)) Q E s := by
  have hl : s.heap.IsList la #[f 0, f 1, f 2] := ⟨_, (N _ hm).1, rfl, n, rfl⟩
  refine tail_any hl.typeIs slot_list_getitem.lookup (wpAny_getItem_list hl (by omega) (by omega) ?_ h) hs
  subst hk
  have : j = 0 ∨ j = 1 ∨ j = 2 := by omega
  rcases this with rfl | rfl | rfl <;> rfl
end
local macro_rules | `(tactic| walk_at "subscriptTail") => `(tactic| k_extra "mine sub")
local macro_rules | `(tactic| walk_at "setAttr ref") => `(tactic| k_extra "mine setattr")
theorem asg_ok : ∀ (w : World) (mean : ExcName → Option Value) (mg mb : Str → Option Value) (D : Dat) (turn b i : Nat) (t1 t2 : Tok) (fa : Addr) (cd : Value) (h₀ : Heap) (L : Addr) (m : Str → Option Value) (s : Shared) (Q : Flow → Shared → Prop) (E : Value → Shared → Prop) (news : List (Addr × Obj)),
    Below callerA h₀ [] h₀ → Fr h₀ L s.heap m → (hd.heap_39 w.params).In h₀ → News h₀ L s.heap news → TopH mean mg mb h₀ → turn < 2 → i < 3 → Apart D → Inv w D turn i b news →
    m (Str.ofString "one") = some (.int i t1) → m (Str.ofString "turn") = some (.int turn t2) → m (Str.ofString "safes") = some (.ref D.aSafes) → m (Str.ofString "tables") = some (.ref D.aTabs) →
    (∀ (h' : Heap) (tk' : Nat) (m' : Str → Option Value) (od' : Obj), Fr h₀ L h' m' → News h₀ L h' (repl news (D.dd i) od') → SafeD od' → lookIn (Str.ofString "safe") od' = some (some (D.sv ((i + turn) % 3))) →
      (∀ z, m' z = m z) → Q .next { s with heap := h', toks := tk' }) →
    wpAny (model PySem.Challenge.rw_dm0085_01.row.prog w) (callerA.deeper (envOf (Str.ofString "law") lawScope L fa cd)) (execs asgBody (envOf (Str.ofString "law") lawScope L fa cd)) Q E s := by
  k_fill
  intro w mean mg mb D turn b i t1 t2 fa cd h₀ L m s Q E news B F X N T hturn hi AP I e1 e2 e3 e4 hret
  have F2 := fr_b [(Str.ofString "one", .int i t1), (Str.ofString "turn", .int turn t2), (Str.ofString "safes", .ref D.aSafes), (Str.ofString "tables", .ref D.aTabs)] F (by simp [e1, e2, e3, e4])
  have hkm : ∀ z, kstB m [(Str.ofString "one", .int i t1), (Str.ofString "turn", .int turn t2), (Str.ofString "safes", .ref D.aSafes), (Str.ofString "tables", .ref D.aTabs)] z = m z := fun z => kstB_eq (by simp [e1, e2, e3, e4]) fun _ => rfl
  clear F e1 e2 e3 e4
  dsimp only [asgBody, turnBody, lawBody, lawScope, lawFn, forBody, PySem.Challenge.pw_dm0085_01, List.getLast?, List.getLast, List.getElem?_cons_succ, List.getElem?_cons_zero]
  have hj : (i + turn) % 3 < 3 := by omega
  obtain ⟨ko, o, od, ps, m1, m2, m3, m4, m5, m9, m6, m7, m8⟩ := I.pair i hi
  k_with "mine sub" => (first | (refine item3v D.sv ((i + turn) % 3) (by k_asm) I.safes (way_eq i turn) hj ?_) | (refine item3 D.td i (by k_asm) I.tabs rfl hi ?_))
  k_with "mine setattr" => (refine set_safe (by k_asm) (by k_asm) (by k_asm) m2 m3 m5 m9 (fun h' od' tk' F' N' hD' hv' => ?_))
  k_steps
  k_with_none
  exact hret h' _ _ od' (by k_asm) (by k_asm) hD' hv' hkm

/-- what the loop that lays the safes keeps -/
def RA (w : World) (D : Dat) (turn b : Nat) (news : List (Addr × Obj)) (m₀ : Str → Option Value) (j : Nat) (m : Str → Option Value) (nx : List (Addr × Obj)) : Prop :=
  Inv w D turn j b nx ∧ nx.map (·.1) = news.map (·.1) ∧ (∀ p ∈ news, (∀ i, i < 3 → p.1 ≠ D.dd i) → p ∈ nx) ∧ (∀ z, z ≠ Str.ofString "one" → m z = m₀ z)

theorem asgs_ok {w : World} {mean : ExcName → Option Value} {mg mb : Str → Option Value} {D : Dat} {turn b : Nat} {t2 : Tok} {fa : Addr} {cd : Value} {h₀ : Heap} {L : Addr} {m : Str → Option Value} {s : Shared} {Q : Flow → Shared → Prop} {E : Value → Shared → Prop} {news : List (Addr × Obj)}
    {r : Addr} {ta tb tc : Tok}
    (B : Below callerA h₀ [] h₀) (F : Fr h₀ L s.heap m) (X : (hd.heap_39 w.params).In h₀) (N : News h₀ L s.heap news) (T : TopH mean mg mb h₀) (hturn : turn < 2) (AP : Apart D) (I : Inv w D turn 0 b news)
    (hr : IsRange s.heap r 0 3 1 ta tb tc)
    (e2 : m (Str.ofString "turn") = some (.int turn t2)) (e3 : m (Str.ofString "safes") = some (.ref D.aSafes)) (e4 : m (Str.ofString "tables") = some (.ref D.aTabs))
    (hret : ∀ (h' : Heap) (tk' : Nat) (m' : Str → Option Value) (news' : List (Addr × Obj)), Fr h₀ L h' m' → News h₀ L h' news' → RA w D turn b news m 3 m' news' → Q .next { s with heap := h', toks := tk' }) :
    wpAny (model PySem.Challenge.rw_dm0085_01.row.prog w) (callerA.deeper (envOf (Str.ofString "law") lawScope L fa cd)) (pyIter (.ref r))
      (fun it s₂ => LoopAtV PySem.Challenge.rw_dm0085_01.row.prog w (callerA.deeper (envOf (Str.ofString "law") lawScope L fa cd)) h₀ (envOf (Str.ofString "law") lawScope L fa cd) (Str.ofString "one") asgBody Q E it s₂) E s := by
  have hin : ∀ i, i < 3 → D.dd i ∈ news.map (·.1) := fun i hi => by
    obtain ⟨ko, o, od, ps, m1, m2, m3, _⟩ := I.pair i hi
    exact List.mem_map.mpr ⟨_, m3, rfl⟩
  refine iter_rangeN (n := 3) (fun j m' nx => RA w D turn b news m j m' nx) rfl hr (by decide) (by decide) F N ⟨I, rfl, fun p hp _ => hp, fun _ _ => rfl⟩ ?turn ?done
  case done => exact fun m₁ nx h tk hR F₁ N₁ => hret h tk m₁ nx F₁ N₁ hR
  case turn =>
    intro j t m₁ nx h tk own hj hadr hoff hR F₁ N₁
    obtain ⟨I₁, ha, hkeep, hm⟩ := hR
    have hown : ∀ p ∈ own, p.1 ≠ D.dd j := fun p hp => hoff p hp _ (hin j hj)
    have hz : ∀ z v, z ≠ Str.ofString "one" → m z = some v → (fun y => if y = Str.ofString "one" then some (Value.int (0 + (j : Int)) t) else m₁ y) z = some v := fun z v n3 e => by
      dsimp only; rw [if_neg n3, hm z n3]; exact e
    refine asg_ok w mean mg mb D turn b j t t2 fa cd h₀ L _ _ _ E (nx ++ own) B F₁ X N₁ T hturn hj AP (I₁.mono (fun p hp => List.mem_append_left _ hp) (Nat.le_refl _)) (by rw [if_pos rfl, Int.zero_add]) (hz _ _ (by decide) e2) (hz _ _ (by decide) e3) (hz _ _ (by decide) e4) ?_
    intro h' tk' m' od' F' N' hD hv hz'
    have N₂ : News h₀ L h nx := fun p hp => N₁ p (List.mem_append_left _ hp)
    rw [repl_append, repl_off hown] at N'
    refine InvEndN.intro (nx := repl nx (D.dd j) od') F' N' ⟨Inv.assign N₂ AP I₁ hj hD hv, by rw [repl_map, ha], fun p hp hn => mem_repl_ne (hkeep p hp hn) (hn j hj), fun z n3 => ?_⟩ (by rw [repl_map, ha]) (fun p hp => List.mem_append_left _ hp) (fun p hp => List.mem_append_right _ hp)
    rw [hz' z, if_neg n3]; exact hm z n3
end Mine

namespace Mine
/-- an item iterator over the dict at d -/
abbrev itObj (f0 : Value) (f1 : Bool) (d : Addr) (i n ep : Nat) (ok ov : Value) : Obj :=
  { cls := .type "dict_itemiterator", dict := none, data := .fields #[f0, .bool f1, .ref d, .int i 0, .int n 0, .int ep 0, ok, ov], slots := #[] }
/-- its state: its own tuple not made yet, or still alive elsewhere -/
def ItSt (h : Heap) (it d S : Addr) (i n ep : Nat) : Prop :=
  ∃ f0 f1 ok ov, h.get? it = some (itObj f0 f1 d i n ep ok ov) ∧ (f0 = .none ∨ ∃ a oa, f0 = rawInt ((a : Nat) : Int) ∧ h.get? a = some oa ∧ a ≠ it ∧ a ≠ S)
section
variable {prog : Program} {w : World} {A : Around} {E : Value → Shared → Prop} {s : Shared}
theorem it_step {it d S : Addr} {i n ep : Nat} {o : Obj} {es : Array DictEntry} {en : DictEntry} {Q : Option Value → Shared → Prop} (hst : ItSt s.heap it d S i n ep) (hS : S < s.heap.objs.size) (hod : s.heap.get? d = some o) (hdd : o.data = .dict es ep) (hsz : es.size = n)
    (hx : es[i]? = some en)
    (hQ : ∀ h', ItSt h' it d S (i + 1) n ep → h'.get? s.heap.objs.size = some { cls := .type "tuple", data := .seq #[en.key, en.val] } → h'.objs.size = s.heap.objs.size + 1 →
      (∀ b ob, b ≠ it → s.heap.get? b = some ob → h'.get? b = some ob) → Q (some (.ref s.heap.objs.size)) { s with heap := h' }) :
    wpAny (model prog w) A (pyNext (.ref it)) Q E s := by
  obtain ⟨f0, f1, ok, ov, hit, hf⟩ := hst
  obtain ⟨hp, g, dr, tk, os⟩ := s
  dsimp only at hit hf hS hod hQ
  have hT : Shared.TypeIs ⟨hp, g, dr, tk, os⟩ (.ref it) "dict_itemiterator" := ⟨_, hit, rfl⟩
  have hlt : i < es.size := by
    rcases Nat.lt_or_ge i es.size with h | h
    · exact h
    · rw [Array.getElem?_eq_none h] at hx; cases hx
  unfold pyNext
  refine wpAny_bind (wpAny_attempt (wpAny_callSpecial?_slot (name := Str.ofString "__next__") hT PySem.F.slot_dict_itemiterator_next
    (wpAny_call_entry PySem.F.slot_dict_itemiterator_next hT PySem.F.entry_dict_itemiterator_next ?_ (PySem.F.args_dict_itemiterator_next_1 _))))
  have hown : Builtin.Dict_items.ownsTuple "dict_itemiterator" = true := by decide
  refine wpAny_bind (wpAny_pure (wpAny_bind (wpAny_bind (wpAny_bind (wpAny_typeNameOfWhole_itemiter hT (wpAny_pure (wpAny_bind (wpAny_fieldsOf hit rfl ?_))))))))
  simp only [hown, if_true]
  show wpAny _ _ (if (Value.ref d == Value.none) = true then _ else _) _ _ _
  rw [if_neg (show ¬ ((Value.ref d == Value.none) = true) from Bool.false_ne_true)]
  refine wpAny_bind (wpAny_pure (wpAny_bind (wpAny_dictEntries hod hdd ?_)))
  rw [if_neg (by rw [hsz]; simp)]
  refine wpAny_bind (wpAny_pure (wpAny_bind (wpAny_dictEpoch hod hdd ?_)))
  rw [if_neg (by simp)]
  refine wpAny_pure ?_
  simp only [show ¬ ((i : Int) < 0) from by omega, if_false, Int.toNat_natCast, hx]
  refine wpAny_bind (wpAny_bind (wpAny_typeNameOfWhole_itemiter hT (wpAny_pure (wpAny_bind (wpAny_isOneOf_itemiter hT ?_)))))
  show wpAny _ _ (setField (.ref it) 3 (rawInt ((i : Int) + 1)) >>= _) _ _ ⟨hp, g, dr, tk, os⟩
  refine wpAny_bind (wpAny_setField_rec hit (by simp) fun h₁ he₁ hs₁ => ?_)
  replace hs₁ : Heap.SameBut it hp h₁ := hs₁
  replace he₁ : h₁.get? it = some (itObj f0 f1 d (i + 1) n ep ok ov) := by
    unfold itObj; rw [show ((i + 1 : Nat) : Int) = (i : Int) + 1 by omega]; simpa [rawInt] using he₁
  have hT₁ : Shared.TypeIs ⟨h₁, g, dr, tk, os⟩ (.ref it) "dict_itemiterator" := ⟨_, he₁, rfl⟩
  refine wpAny_bind (wpAny_holding (wpAny_bind (wpAny_isOneOf_itemiter hT₁ (wpAny_bind (wpAny_isOneOf_itemiter hT₁ ?_)))))
  show wpAny _ _ (Builtin.Dict_items.pairFromOwner (.ref it) 6 en.key en.val) _ _ ⟨h₁, g, dr, tk, os⟩
  unfold Builtin.Dict_items.pairFromOwner
  refine wpAny_bind (wpAny_newTuple ?_)
  have hil : it < hp.objs.size := Heap.lt_size hit
  have hz₁ : h₁.objs.size = hp.objs.size := hs₁.1
  have he₂ := Heap.get?_push_of_some ({ cls := .type "tuple", data := .seq #[en.key, en.val] } : Obj) he₁
  have ht₂ : (h₁.push { cls := .type "tuple", data := .seq #[en.key, en.val] }).get? hp.objs.size = some { cls := .type "tuple", data := .seq #[en.key, en.val] } := by rw [← hz₁]; exact Heap.get?_push_size _ rfl
  have hz₂ : (h₁.push { cls := .type "tuple", data := .seq #[en.key, en.val] }).objs.size = hp.objs.size + 1 := by rw [Heap.size_push, hz₁]
  have hk₂ : ∀ b ob, b ≠ it → hp.get? b = some ob → (h₁.push { cls := .type "tuple", data := .seq #[en.key, en.val] }).get? b = some ob := fun b ob hb e => Heap.get?_push_of_some _ (hs₁.extBut b ob hb e)
  show wpAny _ _ (Builtin.Dict_items.ownedTupleIsFree (.ref it) >>= _) _ _ ⟨h₁.push { cls := .type "tuple", data := .seq #[en.key, en.val] }, g, dr, tk, os⟩
  rw [hz₁]
  generalize h₁.push { cls := .type "tuple", data := .seq #[en.key, en.val] } = h₂ at he₂ ht₂ hz₂ hk₂
  clear he₁ hs₁ hT₁ hz₁
  have nt : hp.objs.size ≠ it := Nat.ne_of_gt hil
  refine wpAny_bind ?_
  unfold Builtin.Dict_items.ownedTupleIsFree
  rcases hf with rfl | ⟨a, oa, rfl, ha, hai, haS⟩
  · refine wpAny_bind (wpAny_field he₂ rfl (x := .none) rfl (wpAny_pure ?_))
    simp only [if_true]
    refine wpAny_bind (wpAny_field he₂ rfl (x := ok) rfl (wpAny_bind (wpAny_field he₂ rfl (x := ov) rfl ?_)))
    refine wpAny_bind (wpAny_setField_rec he₂ (by simp) fun h₃ he₃ hs₃ => wpAny_bind (wpAny_setField_rec he₃ (by simp) fun h₄ he₄ hs₄ => wpAny_bind (wpAny_setField_rec he₄ (by simp) fun h₅ he₅ hs₅ => wpAny_bind (wpAny_setField_rec he₅ (by simp) fun h₆ he₆ hs₆ => ?_))))
    have up : ∀ b ob, b ≠ it → h₂.get? b = some ob → h₆.get? b = some ob := fun b ob hb e => hs₆.extBut b ob hb (hs₅.extBut b ob hb (hs₄.extBut b ob hb (hs₃.extBut b ob hb e)))
    refine wpAny_bind (wpAny_letGo (wpAny_pure (wpAny_pure ⟨_, rfl, wpAny_pure (hQ h₆ ⟨rawInt ((hp.objs.size : Nat) : Int), false, en.key, en.val, he₆, .inr ⟨hp.objs.size, _, rfl, up _ _ nt ht₂, nt, Nat.ne_of_gt hS⟩⟩ (up _ _ nt ht₂) ?_ fun b ob hb e => up b ob hb (hk₂ b ob hb e))⟩)))
    show h₆.objs.size = _
    rw [hs₆.1, hs₅.1, hs₄.1, hs₃.1]; exact hz₂
  · refine wpAny_bind (wpAny_field he₂ rfl (x := rawInt ((a : Nat) : Int)) rfl ?_)
    have ha₂ := hk₂ a oa hai ha
    have ea : ((a : Nat) : Int).toNat = a := Int.toNat_natCast a
    show wpAny _ _ (loadIfAlive ((a : Nat) : Int).toNat >>= _) _ _ _
    rw [ea]
    refine wpAny_bind (kdx_alive ha₂ ?_)
    simp only [Option.isNone_some, Bool.false_eq_true, if_false]
    refine wpAny_bind (wpAny_field he₂ rfl (x := .bool f1) rfl ?_)
    cases f1 with
    | true =>
      rw [if_neg (by decide)]
      refine wpAny_pure ?_
      simp only [Bool.false_eq_true, if_false]
      exact wpAny_pure (wpAny_pure ⟨_, rfl, wpAny_pure (hQ h₂ ⟨_, _, ok, ov, he₂, .inr ⟨a, oa, rfl, ha₂, hai, haS⟩⟩ ht₂ hz₂ hk₂)⟩)
    | false =>
      rw [if_pos (by decide)]
      refine wpAny_bind (wpAny_setField_rec he₂ (by simp) fun h₃ he₃ hs₃ => ?_)
      replace hs₃ : Heap.SameBut it h₂ h₃ := hs₃
      refine wpAny_pure ?_
      simp only [Bool.false_eq_true, if_false]
      refine wpAny_pure (wpAny_pure ⟨_, rfl, wpAny_pure (hQ h₃ ⟨_, _, ok, ov, he₃, .inr ⟨a, oa, rfl, hs₃.extBut _ _ hai ha₂, hai, haS⟩⟩ (hs₃.extBut _ _ nt ht₂) ?_ fun b ob hb e => hs₃.extBut b ob hb (hk₂ b ob hb e))⟩)
      show h₃.objs.size = _
      rw [hs₃.1]; exact hz₂

theorem it_end {it d S : Addr} {i n ep : Nat} {o : Obj} {es : Array DictEntry} {Q : Option Value → Shared → Prop} (hh : A.handled = none) (hst : ItSt s.heap it d S i n ep) (hod : s.heap.get? d = some o) (hdd : o.data = .dict es ep) (hsz : es.size = n)
    (hx : es[i]? = none) (hQ : ∀ h', Heap.ExtBut it s.heap h' → Q none { s with heap := h' }) : wpAny (model prog w) A (pyNext (.ref it)) Q E s := by
  obtain ⟨f0, f1, ok, ov, hit, hf⟩ := hst
  have hT : s.TypeIs (.ref it) "dict_itemiterator" := ⟨_, hit, rfl⟩
  unfold pyNext
  refine wpAny_bind (wpAny_attempt (wpAny_callSpecial?_slot (name := Str.ofString "__next__") hT PySem.F.slot_dict_itemiterator_next
    (wpAny_call_entry PySem.F.slot_dict_itemiterator_next hT PySem.F.entry_dict_itemiterator_next ?_ (PySem.F.args_dict_itemiterator_next_1 _))))
  have hown : Builtin.Dict_items.ownsTuple "dict_itemiterator" = true := by decide
  refine wpAny_bind (wpAny_pure (wpAny_bind (wpAny_bind (wpAny_bind (wpAny_typeNameOfWhole_itemiter hT (wpAny_pure (wpAny_bind (wpAny_fieldsOf hit rfl ?_))))))))
  simp only [hown, if_true]
  show wpAny _ _ (if (Value.ref d == Value.none) = true then _ else _) _ _ _
  rw [if_neg (show ¬ ((Value.ref d == Value.none) = true) from Bool.false_ne_true)]
  refine wpAny_bind (wpAny_pure (wpAny_bind (wpAny_dictEntries hod hdd ?_)))
  rw [if_neg (by rw [hsz]; simp)]
  refine wpAny_bind (wpAny_pure (wpAny_bind (wpAny_dictEpoch hod hdd ?_)))
  rw [if_neg (by simp)]
  refine wpAny_pure ?_
  simp only [show ¬ ((i : Int) < 0) from by omega, if_false, Int.toNat_natCast, hx]
  refine wpAny_bind (wpAny_bind (wpAny_typeNameOfWhole_itemiter hT (wpAny_pure ?_)))
  show wpAny _ _ (setField (.ref it) 2 .none >>= _) _ _ s
  refine wpAny_bind (wpAny_setField hit rfl (by simp) ?_)
  show wpAny _ _ (newExc (.type "StopIteration") [] >>= _) _ _ _
  refine wpAny_bind ?_
  simp only [newExc, newTuple]
  refine wpAny_bind (wpAny_newObj_type ?_ (by size_fits))
  refine wpAny_bind (m := firstArgMember _ _) (wpAny_of_eq (a := Value.none) (by first | rfl | (simp only [firstArgMember]; rfl)) ?_)
  refine wpAny_newObj_type ?_ (by size_fits)
  simp only [raiseNew]
  refine wpAny_bind (wpAny_handled ?_)
  rw [show A.in1.handled = none from hh]
  refine wpAny_bind (wpAny_pure (wpAny_throw ?_))
  refine wpAny_bind (wpAny_isInstance (T := "StopIteration") (b := true) ⟨_, Heap.get?_push_size _ rfl, rfl⟩ isSubtype_stop ?_)
  exact wpAny_pure (hQ _ (((Heap.SameBut.update ..).extBut.push _).push _))
end
end Mine

namespace Mine
abbrev tup2 (en : DictEntry) : Obj := { cls := .type "tuple", data := .seq #[en.key, en.val] }
/-- the pairs made so far -/
def TupsAt (h : Heap) (I : Addr) (es : Array DictEntry) (as : List Addr) : Prop := ∀ (j : Nat) (a : Addr), as[j]? = some a → @LT.lt Nat _ I a ∧ ∃ en, es[j]? = some en ∧ h.get? a = some (tup2 en)
section
variable {prog : Program} {w : World} {A : Around} {E : Value → Shared → Prop} {s : Shared}
theorem ext_loop {S I d : Addr} {o : Obj} {es : Array DictEntry} {ep : Nat} {R : Result → Shared → Prop} (hh : A.handled = none) (hSI : S < I) (hdS : d ≠ S) (hdI : d ≠ I) (hdd : o.data = .dict es ep) (hn : es.size ≤ 100000) (res : Value) {h₁ : Heap}
    (hR : ∀ h' tk as c, (∀ b ob, b ≠ S → b ≠ I → h₁.get? b = some ob → h'.get? b = some ob) → h'.get? S = some (listOf (as.map Value.ref).toArray c) → as.length = es.size → TupsAt h' I es as → R (.ok (.ret res)) { s with heap := h', toks := tk }) :
    ∀ (k i : Nat) (h : Heap) (tk c : Nat) (as : List Addr), es.size - i = k → i ≤ es.size → ItSt h I d S i es.size ep → h.get? d = some o → (∀ b ob, b ≠ S → b ≠ I → h₁.get? b = some ob → h.get? b = some ob) →
      h.get? S = some (listOf (as.map Value.ref).toArray c) → as.length = i → TupsAt h I es as → I < h.objs.size →
      codeAny (model prog w) A (.builtin "list.extend.loop" ⟨[.ref S, .ref I, res], []⟩) R { s with heap := h, toks := tk } := by
  have hne : S ≠ I := Nat.ne_of_lt hSI
  intro k
  induction k with
  | zero =>
    intro i h tk c as hk hi hst hod hkeep hS hal hG hIs
    refine codeAny_builtin PySem.F.entry_extend_loop ?_
    rw [Around.under_plainId PySem.F.plain_extend_loop _]
    show wpAny _ A.in1 (pyNext (.ref I) >>= _) _ _ _
    refine wpAny_bind (it_end (s := { s with heap := h, toks := tk }) (A := A.in1) hh hst hod hdd rfl (Array.getElem?_eq_none (by omega)) fun h' he => ?_)
    refine wpAny_pure (hR h' tk as c (fun b ob h1 h2 e => he b ob h2 (hkeep b ob h1 h2 e)) (he S _ hne hS) (by omega) fun j a hj => ?_)
    obtain ⟨q1, en, q2, q3⟩ := hG j a hj
    exact ⟨q1, en, q2, he a _ (Nat.ne_of_gt q1) q3⟩
  | succ k ih =>
    intro i h tk c as hk hi hst hod hkeep hS hal hG hIs
    have hlt : i < es.size := by omega
    have hSl : S < h.objs.size := Heap.lt_size hS
    refine codeAny_builtin PySem.F.entry_extend_loop ?_
    rw [Around.under_plainId PySem.F.plain_extend_loop _]
    show wpAny _ A.in1 (pyNext (.ref I) >>= _) _ _ _
    refine wpAny_bind (it_step (s := { s with heap := h, toks := tk }) (S := S) hst hSl hod hdd rfl (Array.getElem?_eq_getElem hlt) fun h' hst' ht hz hkp => ?_)
    dsimp only at ht hz hkp ⊢
    have hS' := hkp S _ hne hS
    have up : ∀ b ob, b ≠ S → h'.get? b = some ob → (h'.update S (Obj.mapSeq (·.push (Value.ref h.objs.size)))).get? b = some ob := fun b ob hb e => (Heap.get?_update_other _ _ (Ne.symm hb)).trans e
    have hgrow : (h'.update S (Obj.mapSeq (·.push (Value.ref h.objs.size)))).objs.size = h.objs.size + 1 := by rw [Heap.size_after_update]; exact hz
    have hsz : ((as.map Value.ref).toArray).size = i := by simp [hal]
    show wpAny _ A.in1 (updateSeq S (·.push (Value.ref h.objs.size)) >>= _) _ _ _
    refine wpAny_bind (wpAny_updateSeq hS' rfl (wpAny_pure ⟨plainId_quiet PySem.F.plain_extend_loop _, ih (i + 1) _ tk (if ((as.map Value.ref).toArray.push (.ref h.objs.size)).size == (as.map Value.ref).toArray.size then c else c + 1) (as ++ [h.objs.size]) (by omega) hlt ?_ (up d o hdS (hkp d o hdI hod)) (fun b ob h1 h2 e => up b ob h1 (hkp b ob h2 (hkeep b ob h1 h2 e))) ?_ (by rw [List.length_append, hal]; rfl) (fun j a hj => ?_) (by rw [hgrow]; exact Nat.lt_succ_of_lt hIs)⟩) ?_ ?_)
    · obtain ⟨f0, f1, ok, ov, q1, q2⟩ := hst'
      refine ⟨f0, f1, ok, ov, up I _ (Ne.symm hne) q1, q2.imp id fun ⟨a, oa, r1, r2, r3, r4⟩ => ⟨a, oa, r1, up a oa r4 r2, r3, r4⟩⟩
    · have e := Heap.get?_update_self (Obj.mapSeq (·.push (Value.ref h.objs.size))) hS' rfl
      have e2 : ((as ++ [h.objs.size]).map Value.ref).toArray = (as.map Value.ref).toArray.push (.ref h.objs.size) := by simp
      rw [e2]; exact e
    · rcases Nat.lt_trichotomy j as.length with h1 | h1 | h1
      · rw [List.getElem?_append_left h1] at hj
        obtain ⟨q1, en, q2, q3⟩ := hG j a hj
        exact ⟨q1, en, q2, up a _ (Nat.ne_of_gt (Nat.lt_trans hSI q1)) (hkp a _ (Nat.ne_of_gt q1) q3)⟩
      · subst h1
        have hb : h.objs.size = a := by simpa using hj
        subst hb
        exact ⟨hIs, _, by rw [hal]; exact Array.getElem?_eq_getElem hlt, up _ _ (Nat.ne_of_gt hSl) ht⟩
      · rw [List.getElem?_eq_none (by rw [List.length_append, List.length_singleton]; omega)] at hj; cases hj
    · rw [hsz]; unfold sizeLine; omega
    · show ((as.map Value.ref).toArray.push (Value.ref h.objs.size)).size ≤ sizeLine + 1
      rw [Array.size_push, hsz]; unfold sizeLine; omega

theorem items_extend {r d S : Addr} {o : Obj} {es : Array DictEntry} {ep c₀ : Nat} {R : Result → Shared → Prop} (hh : A.handled = none) (hv : s.heap.IsItemsView r d) (hod : s.heap.get? d = some o) (hdd : o.data = .dict es ep) (hn : es.size ≤ 100000) (hSr : S ≠ r) (hdS : d ≠ S) (res : Value)
    (hS : s.heap.get? S = some (listOf #[] c₀))
    (hR : ∀ h' tk as c, (∀ b ob, b ≠ S → s.heap.get? b = some ob → h'.get? b = some ob) → h'.get? S = some (listOf (as.map Value.ref).toArray c) → as.length = es.size → TupsAt h' s.heap.objs.size es as → R (.ok (.ret res)) { s with heap := h', toks := tk }) :
    wpAny (model prog w) A.in1 (Builtin.List.listExtendWith (.ref S) (.ref r) res)
      (fun fin s' => match fin with | .done f => R (.ok f) s' | .again c' => c'.quiet = true ∧ codeAny (model prog w) A c' R s') (fun e s' => R (.error e) s') s := by
  have hSI : S < s.heap.objs.size := Heap.lt_size hS
  have hdI : d < s.heap.objs.size := Heap.lt_size hod
  obtain ⟨ov, hov, hcv, hdv⟩ := id hv
  have key : ∀ (h : Heap) (c₁ tk : Nat), (∀ b ob, b ≠ S → (s.heap.push (itObj .none false d 0 es.size ep .none .none)).get? b = some ob → h.get? b = some ob) →
      h.get? S = some (listOf #[] c₁) → codeAny (model prog w) A (.builtin "list.extend.loop" ⟨[.ref S, .ref s.heap.objs.size, res], []⟩) R { s with heap := h, toks := tk } := by
    intro h c₁ tk hk hS₁
    have hI := hk s.heap.objs.size _ (Nat.ne_of_gt hSI) (Heap.get?_push_size _ rfl)
    exact ext_loop (s := s) (h₁ := s.heap) hh hSI hdS (Nat.ne_of_lt hdI) hdd hn res (fun h' tk' as c hk' hS' hl hG => hR h' tk' as c (fun b ob hb e => hk' b ob hb (Nat.ne_of_lt (Heap.lt_size e)) e) hS' hl hG)
      es.size 0 h tk c₁ [] (Nat.sub_zero _) (Nat.zero_le _) ⟨.none, false, .none, .none, hI, .inl rfl⟩ (hk d o hdS (Heap.get?_push_of_some _ hod)) (fun b ob hb _ e => hk b ob hb (Heap.get?_push_of_some _ e)) hS₁ rfl
      (fun j a hj => by simp at hj) (Heap.lt_size hI)
  unfold Builtin.List.listExtendWith
  refine wpAny_bind (wpAny_typeOf (T := "dict_items") hv.typeIs ?_)
  have h1 : Builtin.List.listSameRef (.ref S) (.ref r) = false := by simp [Builtin.List.listSameRef, hSr]
  have h2 : (Value.type "dict_items" == Value.type "list") = false := by decide
  have h3 : (Value.type "dict_items" == Value.type "tuple") = false := by decide
  simp only [h1, h2, h3, Bool.or_false, Bool.false_eq_true, if_false]
  have iter : ∀ (Q' : Value → Shared → Prop) (E' : Value → Shared → Prop), Q' (.ref s.heap.objs.size) { s with heap := s.heap.push (itObj .none false d 0 es.size ep .none .none) } → wpAny (model prog w) A.in1 (pyIter (.ref r)) Q' E' s := by
    intro Q' E' hq
    refine wpAny_pyIter_slot hv.typeIs PySem.F.slot_dict_items_iter (wpAny_call_entry PySem.F.slot_dict_items_iter hv.typeIs PySem.F.entry_dict_items_iter ?_ (PySem.F.args_dict_items_iter_1 _))
    unfold Builtin.«dict_items.__iter__»
    refine wpAny_bind (wpAny_pure (wpAny_bind ?_))
    unfold Builtin.Dict_items.dictOf
    refine wpAny_bind (wpAny_field hov hdv (x := .ref d) rfl (wpAny_pure (wpAny_bind ?_)))
    unfold Builtin.Dict_items.newIterator
    refine wpAny_bind (wpAny_dictEntries hod hdd (wpAny_bind (wpAny_dictEpoch hod hdd ?_)))
    have hown : Builtin.Dict_items.ownsTuple "dict_itemiterator" = true := by decide
    simp only [hown, if_true]
    refine wpAny_newObj_type (wpAny_pure ⟨_, rfl, "dict_itemiterator", _, ⟨_, Heap.get?_push_size _ rfl, rfl⟩, PySem.F.slot_dict_itemiterator_next.lookup, ?_⟩)
      (by simp only [sizeOk, Builtin.Dict_items.ownedTupleFields, List.size_toArray, List.length_append, List.length_cons, List.length_nil, sizeLine_eq]; omega)
    exact hq
  refine wpAny_bind (iter _ _ ?_)
  have hS₁ := Heap.get?_push_of_some (itObj .none false d 0 es.size ep .none .none) hS
  refine wpAny_bind (wpAny_holding (kdx_hint ⟨ov, Heap.get?_push_of_some _ hov, hcv⟩ ?_))
  refine wpAny_ite_split (fun _ => ?_) (fun _ => wpAny_pure ⟨plainId_quiet PySem.F.plain_extend_loop _, key _ c₀ _ (fun b ob _ e => e) hS₁⟩)
  refine wpAny_bind (wpAny_rule (wpAny_bind ?_))
  show wpAny _ _ (updateSeq S (·.push .none) >>= fun _ => updateSeq S (·.pop)) _ _ _
  refine wpAny_bind (wpAny_updateSeq hS₁ rfl ?_)
  have hS₂ := Heap.get?_update_self (Obj.mapSeq (·.push Value.none)) hS₁ rfl
  refine wpAny_updateSeq (hz := by seq_fits) hS₂ rfl ?_
  have hS₃ := Heap.get?_update_self (Obj.mapSeq (·.pop)) hS₂ rfl
  refine wpAny_pure ⟨plainId_quiet PySem.F.plain_extend_loop _, key _ _ _ (fun b ob hb e => ?_) hS₃⟩
  exact (Heap.get?_update_other _ _ (Ne.symm hb)).trans ((Heap.get?_update_other _ _ (Ne.symm hb)).trans e)

theorem items_call {r d : Addr} {o : Obj} {es : Array DictEntry} {ep : Nat} {Q : Value → Shared → Prop} (hh : A.handled = none) (hv : s.heap.IsItemsView r d) (hod : s.heap.get? d = some o) (hdd : o.data = .dict es ep) (hn : es.size ≤ 100000)
    (hQ : ∀ h' tk as c, (∀ b ob, s.heap.get? b = some ob → h'.get? b = some ob) → h'.get? s.heap.objs.size = some (listOf (as.map Value.ref).toArray c) → as.length = es.size → TupsAt h' s.heap.objs.size es as → Q (.ref s.heap.objs.size) { s with heap := h', toks := tk }) :
    wpAny (model prog w) A (call (.type "list") [.ref r]) Q E s := by
  refine callType_codes (Q₁ := fun obj s₁ => obj = .ref s.heap.objs.size ∧ s₁ = { s with heap := s.heap.push { cls := .type "list", data := .seq #[] } }) PySem.F.called_list (PySem.F.typeCall_list_1 _) PySem.F.entry_list_init
    (code_list_new _ ⟨rfl, rfl⟩) fun obj s₁ h₁ => ?_
  obtain ⟨rfl, rfl⟩ := h₁
  have hS : (s.heap.push { cls := .type "list", data := .seq #[] }).get? s.heap.objs.size = some { cls := .type "list", data := .seq #[] } := Heap.get?_push_size _ rfl
  obtain ⟨ov, hov, hcv, hdv⟩ := id hv
  have hr : r < s.heap.objs.size := Heap.lt_size hov
  have hd : d < s.heap.objs.size := Heap.lt_size hod
  refine ⟨⟨_, hS, rfl⟩, PySem.F.args_list_init_2 _ _, ?_⟩
  show wpAny _ _ (do let old ← Builtin.List.listItems (.ref s.heap.objs.size); Builtin.List.listUpdate (.ref s.heap.objs.size) (fun _ => #[]); letGo old.toList.reverse; Builtin.List.listExtendWith (.ref s.heap.objs.size) (.ref r) .none) _ _ _
  refine wpAny_bind ?_
  unfold Builtin.List.listItems
  refine wpAny_bind (wpAny_seqItems hS rfl (wpAny_pure ?_))
  show wpAny _ _ (updateSeq s.heap.objs.size (fun _ => #[]) >>= fun _ => letGo (#[] : Array Value).toList.reverse >>= fun _ => Builtin.List.listExtendWith (.ref s.heap.objs.size) (.ref r) .none) _ _ _
  refine wpAny_bind (wpAny_updateSeq hS rfl ?_)
  have hS₂ := Heap.get?_update_self (Obj.mapSeq (fun _ => (#[] : Array Value))) hS rfl
  have oth : ∀ b ob, b ≠ s.heap.objs.size → (s.heap.push { cls := .type "list", data := .seq #[] }).get? b = some ob → ((s.heap.push { cls := .type "list", data := .seq #[] }).update s.heap.objs.size (Obj.mapSeq (fun _ => (#[] : Array Value)))).get? b = some ob :=
    fun b ob hb e => (Heap.get?_update_other _ _ (Ne.symm hb)).trans e
  refine wpAny_bind (wpAny_letGo ?_)
  refine items_extend (A := A.in1) hh ⟨ov, oth r ov (Nat.ne_of_lt hr) (Heap.get?_push_of_some _ hov), hcv, hdv⟩ (oth d o (Nat.ne_of_lt hd) (Heap.get?_push_of_some _ hod)) hdd hn (Nat.ne_of_gt hr) (Nat.ne_of_lt hd) .none hS₂ (fun h' tk as c hk hS' hl hG => ?_)
  refine ⟨rfl, hQ h' tk as c (fun b ob e => hk b ob (Nat.ne_of_lt (Heap.lt_size e)) (oth b ob (Nat.ne_of_lt (Heap.lt_size e)) (Heap.get?_push_of_some _ e))) hS' hl fun j a hj => ?_⟩
  obtain ⟨q1, q2⟩ := hG j a hj
  refine ⟨Nat.lt_of_le_of_lt ?_ q1, q2⟩
  rw [Heap.size_after_update, Heap.size_push]; exact Nat.le_succ _
end
end Mine

namespace Mine
def EntL : List DictEntry → List (Int × Str) → Prop
  | [], [] => True
  | e :: r, p :: q => (∃ t u, e.key = .int p.1 t ∧ e.val = .str p.2 u) ∧ EntL r q
  | [], _ :: _ => False
  | _ :: _, [] => False
def Ents (o : Obj) (ps : List (Int × Str)) : Prop := ∃ es ep, o.data = .dict es ep ∧ EntL es.toList ps
theorem EntL.length : ∀ {el : List DictEntry} {ps : List (Int × Str)}, EntL el ps → el.length = ps.length
  | [], [], _ => rfl
  | _ :: r, _ :: q, h => by rw [List.length_cons, List.length_cons, EntL.length (el := r) (ps := q) h.2]
theorem entL_pairs {w : World} {el : List DictEntry} {kvs : List (Int × Value)} (h : Pairs (intKind prg w) el kvs) (ha : AllStr kvs) : EntL el (txts kvs) := by
  induction h with
  | nil => trivial
  | @cons e kv es kvs h1 h2 _ ih =>
    refine ⟨?_, ih fun q hq => ha q (.tail _ hq)⟩
    obtain ⟨x, u, hx⟩ := ha kv (.head _)
    have hk : ∃ t, e.key = .int kv.1 t := by
      have h1' : e.key.isInt kv.1 = true := h1
      cases hh : e.key <;> rw [hh] at h1' <;> simp [Value.isInt] at h1'
      rename_i i t
      exact ⟨t, by rw [h1']⟩
    obtain ⟨t, ht⟩ := hk
    refine ⟨t, u, ht, ?_⟩
    rw [h2]; show kv.2 = .str (txt kv.2) u
    rw [hx]; rfl
theorem KObj.ents {w : World} {o : Obj} {ps : List (Int × Str)} (h : KObj w o ps) : Ents o ps := by
  obtain ⟨kvs, ⟨es, ep, _, hd, _, hp, _⟩, ha, rfl⟩ := h
  exact ⟨es, ep, hd, entL_pairs hp ha⟩
theorem TObj.ents {w : World} {o : Obj} {dt : Addr} {ps : List (Int × Str)} (h : TObj w o dt ps) : Ents o ps := by
  obtain ⟨es, ep, kvs, rfl, _, hp, _, ha, rfl⟩ := h
  exact ⟨es, ep, rfl, entL_pairs hp ha⟩
def itemD (p : Int × Str) : PyData := .tuple [.int p.1, .str p.2]
def itemsD (ps : List (Int × Str)) : PyData := .list (ps.map itemD)
def ItemsL (nl : List (Addr × Obj)) (l : Addr) (ps : List (Int × Str)) : Prop := ∀ h : Heap, (∀ p ∈ nl, h.get? p.1 = some p.2) → ∃ as, Reads h (.ref l) (itemsD ps) as
theorem reads_tups {h : Heap} : ∀ (as : List Addr) (el : List DictEntry) (ps : List (Int × Str)), as.length = el.length → EntL el ps → (∀ p ∈ as.zip el, h.get? p.1 = some (tup2 p.2)) → ∃ bs, ReadsAll h (as.map Value.ref) (ps.map itemD) bs
  | [], [], [], _, _, _ => ⟨_, ReadsAll.nil⟩
  | a :: as, e :: el, p :: ps, hl, he, hh => by
    obtain ⟨bs, hb⟩ := reads_tups as el ps (by simpa using hl) he.2 fun q hq => hh q (List.mem_cons_of_mem _ hq)
    obtain ⟨t, u, h1, h2⟩ := he.1
    have ha := hh (a, e) (List.mem_cons_self ..)
    unfold tup2 at ha
    rw [h1, h2] at ha
    exact ⟨_, ReadsAll.cons (reads_tuple_at ha rfl rfl (ReadsAll.cons (Reads.int _ _) (ReadsAll.cons (Reads.str _ _) ReadsAll.nil))) hb⟩
  | [], _ :: _, _, hl, _, _ => by simp at hl
  | _ :: _, [], _, hl, _, _ => by simp at hl
  | [], [], _ :: _, _, he, _ => he.elim
  | _ :: _, _ :: _, [], _, he, _ => he.elim
section
variable {w : World} {A : Around} {E : Value → Shared → Prop} {s : Shared} {h₀ : Heap} {L : Addr} {m : Str → Option Value} {news : List (Addr × Obj)}
theorem items_list {r d : Addr} {od : Obj} {ps : List (Int × Str)} {Q : Value → Shared → Prop} (hh : A.handled = none) (F : Fr h₀ L s.heap m) (N : News h₀ L s.heap news) (hvw : (r, ({ cls := .type "dict_items", data := .fields #[.ref d] } : Obj)) ∈ news) (hmd : (d, od) ∈ news) (hE : Ents od ps) (hn : ps.length ≤ 10000)
    (h : ∀ h' tk l nl, Fr h₀ L h' m → News h₀ L h' (nl ++ news) → ItemsL nl l ps → Q (.ref l) { s with heap := h', toks := tk }) :
    wpAny (model prg w) A (call (.type "list") [.ref r]) Q E s := by
  obtain ⟨es, ep, hdd, hel⟩ := hE
  have hlen : es.size = ps.length := by rw [← hel.length]; simp
  refine items_call hh ⟨_, (N _ hvw).1, rfl, rfl⟩ (N _ hmd).1 hdd (by omega) (fun h' tk as c hk hS hl hG => ?_)
  have hzip : ∀ p ∈ as.zip es.toList, h'.get? p.1 = some (tup2 p.2) ∧ s.heap.objs.size ≤ p.1 := fun p hp => by
    obtain ⟨j, hj⟩ := List.mem_iff_getElem?.mp hp
    rw [List.getElem?_zip_eq_some] at hj
    obtain ⟨q1, en, q2, q3⟩ := hG j p.1 hj.1
    have e : es.toList[j]? = some en := by rw [Array.getElem?_toList]; exact q2
    rw [hj.2] at e
    rw [Option.some.inj e]
    exact ⟨q3, Nat.le_of_lt q1⟩
  refine h h' tk _ ((s.heap.objs.size, listOf (as.map Value.ref).toArray c) :: (as.zip es.toList).map fun p => (p.1, tup2 p.2)) ⟨F.ns.at' fun o e => hk _ _ e, fun b o e => hk _ _ (F.keep b o e), F.above⟩ (fun p hp => ?_) (fun hp0 hall => ?_)
  · rcases List.mem_append.mp hp with hp | hp
    · rcases List.mem_cons.mp hp with rfl | hp
      · exact ⟨hS, kdx_fresh F (Nat.le_refl _)⟩
      · obtain ⟨q, hq, rfl⟩ := List.mem_map.mp hp
        exact ⟨(hzip q hq).1, kdx_fresh F (hzip q hq).2⟩
    · exact ⟨hk _ _ (N p hp).1, (N p hp).2⟩
  · obtain ⟨bs, hb⟩ := reads_tups as es.toList ps (by rw [hl]; simp) hel fun p hp => hall (p.1, tup2 p.2) (List.mem_cons_of_mem _ (List.mem_map.mpr ⟨p, hp, rfl⟩))
    exact ⟨_, reads_list_at (hall (_, _) (List.mem_cons_self ..)) rfl rfl (by simpa using hb)⟩

theorem depth_items : ∀ ps : List (Int × Str), PyData.depthAll (ps.map itemD) ≤ 1
  | [] => by simp [PyData.depthAll]
  | p :: ps => by
    have := depth_items ps
    simp only [List.map_cons, PyData.depthAll, itemD, PyData.depth]
    omega
theorem lay_items : ∀ ps : List (Int × Str), TextsOk ps → PyData.canLayAll0 (ps.map itemD) = true
  | [], _ => by simp [PyData.canLayAll0]
  | p :: ps, h => by
    have h1 := lay_items ps fun q hq => h q (.tail _ hq)
    have h2 := h p (.head _)
    simp [List.map_cons, PyData.canLayAll0, itemD, PyData.canLay0, h1, h2]
theorem shaped_items {ps : List (Int × Str)} (h : TextsOk ps) : SeqAt.shaped (itemsD ps) = true := by
  have h1 := depth_items ps
  have h2 := lay_items ps h
  unfold SeqAt.shaped itemsD
  rw [Bool.and_eq_true]
  refine ⟨by simpa [PyData.canLay0] using h2, decide_eq_true ?_⟩
  simp only [PyData.depth]; omega
theorem eqv_items : ∀ ps : List (Int × Str), PyData.eqvAll (ps.map itemD) (ps.map itemD) = true
  | [] => by simp [PyData.eqvAll]
  | p :: ps => by simp [List.map_cons, PyData.eqvAll, itemD, PyData.eqv, eqv_items ps]
theorem items_ne {l1 l2 : Addr} {n1 n2 : List (Addr × Obj)} {ps : List (Int × Str)} {Q : Value → Shared → Prop} (N : News h₀ L s.heap news) (s1 : ∀ p ∈ n1, p ∈ news) (s2 : ∀ p ∈ n2, p ∈ news) (i1 : ItemsL n1 l1 ps) (i2 : ItemsL n2 l2 ps) (hok : TextsOk ps) (hu : A.units + 64 < cLine)
    (h : Q (.bool false) s) : wpAny (model prg w) A (compareOp .NotEq (.ref l1) (.ref l2)) Q E s := by
  obtain ⟨as1, r1⟩ := i1 s.heap fun p hp => (N p (s1 p hp)).1
  obtain ⟨as2, r2⟩ := i2 s.heap fun p hp => (N p (s2 p hp)).1
  refine ne_dataH r1 r2 (shaped_items hok) (shaped_items hok) hu ?_
  have e : PyData.eqv (itemsD ps) (itemsD ps) = true := by simp only [itemsD, PyData.eqv]; exact eqv_items ps
  rw [e]; exact h

theorem find_items : findIn (hd.heap_39 w.params) (.ref 31) (Str.ofString "items") = some (some (.builtin "dict.items")) := by kernel_rfl
theorem it_kind : builtinKind "dict.items" = some .slot ∨ builtinKind "dict.items" = some .method := by decide +kernel
theorem it_split : splitId "dict.items" = some ("dict", "items") := by decide +kernel
theorem it_plain : plainId "dict.items" = true := by decide +kernel
theorem safeD_items {od : Obj} (hD : SafeD od) : lookIn (Str.ofString "items") od = some none := by
  rcases hD with rfl | ⟨h1, t1, v1, n, rfl⟩
  · rfl
  · rfl
theorem meth_tab {o od : Obj} {td dt : Addr} {ps : List (Int × Str)} {pl : Sem Bool} {Q : Value × List Value → Shared → Prop} (X₀ : (hd.heap_39 w.params).In h₀) (F : Fr h₀ L s.heap m) (N : News h₀ L s.heap news) (hmt : (td, o) ∈ news) (hmd : (dt, od) ∈ news) (hT : TObj w o dt ps) (hD : SafeD od)
    (h : Q (.builtin "dict.items", [.ref td]) s) : wpAny (model prg w) A (getMethod (.ref td) (Str.ofString "items") pl) Q E s := by
  have X := X₀.keeps F.keep
  have I := hT.inst (N _ hmt).1 (N _ hmd).1
  unfold getMethod
  refine wpAny_bind (wpAny_bind (I.type.here ((looks_findIn X find_ga).here ?_)))
  dsimp only
  rw [if_neg (by decide +kernel)]
  refine wpAny_bind (wpAny_bind (I.type.here ((looks_findIn X find_gh).here ?_)))
  rw [if_neg (by decide)]
  refine wpAny_bind (wpAny_bind (I.type.here ((looks_findIn X find_items).here ?_)))
  dsimp only
  refine wpAny_bind (wpAny_of_eq (a := .type "method_descriptor") PySem.F.type_dict_items ?_)
  rw [if_neg (by decide)]
  obtain ⟨es, ep, kvs, rfl, _⟩ := hT
  refine wpAny_bind (wpAny_loadPart (N _ hmt).1 ?_)
  dsimp only
  refine wpAny_bind (wpAny_bind (wpAny_loadPart (N _ hmd).1 ?_))
  rw [nsLook_of (safeD_items hD)]
  refine wpAny_pure ?_
  rw [if_neg (by decide)]
  exact wpAny_bind (wpAny_rule (wpAny_pure h))
theorem items_tab {o od : Obj} {td dt : Addr} {ps : List (Int × Str)} {Q : Value → Shared → Prop} (X₀ : (hd.heap_39 w.params).In h₀) (F : Fr h₀ L s.heap m) (N : News h₀ L s.heap news) (hmt : (td, o) ∈ news) (hmd : (dt, od) ∈ news) (hT : TObj w o dt ps) (hsys : (td == sysModules) = false)
    (h : ∀ h' vw, Fr h₀ L h' m → News h₀ L h' ((vw, ({ cls := .type "dict_items", data := .fields #[.ref td] } : Obj)) :: news) → Q (.ref vw) { s with heap := h' }) :
    wpAny (model prg w) A (call (.builtin "dict.items") [.ref td]) Q E s := by
  have X := X₀.keeps F.keep
  have I := hT.inst (N _ hmt).1 (N _ hmd).1
  have hi : Looks (model prg w) s.heap (isInstance (.ref td) (.type "dict")) true := I.type.andThen (looks_mroIn X sub31)
  have ho : Looks (model prg w) s.heap (isInstance (.ref td) (.type "collections.OrderedDict")) false := I.type.andThen (looks_mroIn X find_ord)
  refine sub_call it_plain PySem.F.entry_dict_items it_kind it_split hi (PySem.F.args_dict_items_1 _) ?_
  show wpAny _ _ (Builtin.Dict.noArgs "items" ⟨[.ref td], []⟩ >>= _) _ _ s
  refine wpAny_bind ?_
  unfold Builtin.Dict.noArgs
  refine wpAny_bind ?_
  unfold Builtin.Dict.notOrdered
  rw [if_pos (by decide)]
  refine wpAny_bind (I.type.here ?_)
  rw [if_pos (by rfl)]
  refine wpAny_bind (ho.here ?_)
  rw [if_neg (by decide)]
  refine wpAny_pure ?_
  refine wpAny_bind (wpAny_pure (wpAny_bind (wpAny_pure (wpAny_pure ?_))))
  show wpAny _ _ (Builtin.Dict.showsAll td >>= _) _ _ s
  unfold Builtin.Dict.showsAll
  rw [if_neg (by rw [hsys]; decide)]
  refine wpAny_bind (wpAny_pure (wpAny_bind (wpAny_newObj_type (wpAny_pure ⟨_, rfl, h _ _ (F.push _) (N.push F _)⟩))))
end
end Mine

namespace Mine
def itBody : List PySem.Stmt := forBody turnBody[3]?
local macro_rules | `(tactic| walk_at "subscriptTail") => `(tactic| k_extra "mine sub")
local macro_rules | `(tactic| walk_at "getMethod ref") => `(tactic| k_extra "mine meth")
local macro_rules | `(tactic| walk_at "call builtin:dict.items") => `(tactic| k_extra "mine items")
local macro_rules | `(tactic| walk_at "call type:list") => `(tactic| k_extra "mine list")
local macro_rules | `(tactic| walk_at "compareOp NotEq ref ref") => `(tactic| k_extra "mine ne")
theorem it_ok : ∀ (w : World) (mean : ExcName → Option Value) (mg mb : Str → Option Value) (D : Dat) (turn b i : Nat) (t1 : Tok) (fa : Addr) (cd : Value) (h₀ : Heap) (L : Addr) (m : Str → Option Value) (s : Shared) (Q : Flow → Shared → Prop) (E : Value → Shared → Prop) (news : List (Addr × Obj)),
    Below callerA h₀ [] h₀ → Fr h₀ L s.heap m → (hd.heap_39 w.params).In h₀ → News h₀ L s.heap news → TopH mean mg mb h₀ → i < 3 → b < 9000 → Apart D → Inv w D turn 3 b news →
    m (Str.ofString "one") = some (.int i t1) → m (Str.ofString "kept") = some (.ref D.aKept) → m (Str.ofString "tables") = some (.ref D.aTabs) →
    (∀ (h' : Heap) (tk' : Nat) (m' : Str → Option Value), Fr h₀ L h' m' → News h₀ L h' news → (∀ z, m' z = m z) → Q .next { s with heap := h', toks := tk' }) →
    wpAny (model PySem.Challenge.rw_dm0085_01.row.prog w) (callerA.deeper (envOf (Str.ofString "law") lawScope L fa cd)) (execs itBody (envOf (Str.ofString "law") lawScope L fa cd)) Q E s := by
  k_fill
  intro w mean mg mb D turn b i t1 fa cd h₀ L m s Q E news B F X N T hi hb AP I e1 e3 e4 hret
  have F2 := fr_b [(Str.ofString "one", .int i t1), (Str.ofString "kept", .ref D.aKept), (Str.ofString "tables", .ref D.aTabs)] F (by simp [e1, e3, e4])
  have hkm : ∀ z, kstB m [(Str.ofString "one", .int i t1), (Str.ofString "kept", .ref D.aKept), (Str.ofString "tables", .ref D.aTabs)] z = m z := fun z => kstB_eq (by simp [e1, e3, e4]) fun _ => rfl
  clear F e1 e3 e4
  dsimp only [itBody, turnBody, lawBody, lawScope, lawFn, forBody, PySem.Challenge.pw_dm0085_01, List.getLast?, List.getLast, List.getElem?_cons_succ, List.getElem?_cons_zero]
  obtain ⟨ko, o, od, ps, m1, m2, m3, m4, m5, m9, m6, m7, m8⟩ := I.pair i hi
  k_with "mine sub" => (refine item3 D.td i (by k_asm) I.tabs rfl hi ?_)
  k_with "mine meth" => (refine meth_tab (by k_asm) (by k_asm) (by k_asm) m2 m3 m5 m9 ?_)
  k_with "mine items" => (refine items_tab (by k_asm) (by k_asm) (by k_asm) m2 m3 m5 (AP.tsys i hi) (fun h' vw F' N' => Stop.here ?_))
  k_steps
  k_with_none
  unfold Stop
  k_with "mine list" => (refine items_list rfl (by k_asm) (by k_asm) (.head _) (.tail _ m2) m5.ents (by omega) (fun h2 tk2 l2 nl F2 N2 hL2 => Stop.here ?_))
  k_steps
  k_with_none
  unfold Stop
  have r0 : ∀ p ∈ news, p ∈ nl ++ (vw, ({ cls := .type "dict_items", data := .fields #[.ref (D.td i)] } : Obj)) :: news := fun p hp => List.mem_append_right _ (.tail _ hp)
  obtain ⟨kvs, hkd, hks, hkt⟩ := id m4
  k_with "mine sub" => (refine item3 D.kd i (by k_asm) (r0 _ I.kept) rfl hi ?_)
  k_with "mine meth" => (refine kdl_method (knd := intKind prg w) PySem.F.slot_dict_items PySem.F.type_dict_items (by k_asm) (r0 _ m1) hkd ?_)
  k_with "mine items" => (refine kdx_view (knd := intKind prg w) (by k_asm) (by k_asm) (r0 _ m1) hkd (AP.ksys i hi) (fun vw3 h3 F3 N3 _ => Stop.here ?_))
  k_steps
  k_with_none
  unfold Stop
  k_with "mine list" => (refine items_list rfl (by k_asm) (by k_asm) (.head _) (.tail _ (r0 _ m1)) m4.ents (by omega) (fun h4 tk4 l4 nl4 F4 N4 hL4 => ?_))
  k_with "mine ne" => (refine items_ne (by k_asm) (fun p hp => List.mem_append_right _ (.tail _ (List.mem_append_left _ hp))) (fun p hp => List.mem_append_left _ hp) hL2 hL4 m8 (by units_room) ?_)
  k_steps
  k_with_none
  exact hret _ _ _ (by k_asm) (fun p hp => N4 p (List.mem_append_right _ (.tail _ (r0 p hp)))) hkm

/-- the loop over the items -/
theorem its_ok {w : World} {mean : ExcName → Option Value} {mg mb : Str → Option Value} {D : Dat} {turn b : Nat} {fa : Addr} {cd : Value} {h₀ : Heap} {L : Addr} {m : Str → Option Value} {s : Shared} {Q : Flow → Shared → Prop} {E : Value → Shared → Prop} {news : List (Addr × Obj)}
    {r : Addr} {ta tb tc : Tok}
    (B : Below callerA h₀ [] h₀) (F : Fr h₀ L s.heap m) (X : (hd.heap_39 w.params).In h₀) (N : News h₀ L s.heap news) (T : TopH mean mg mb h₀) (hb : b < 9000) (AP : Apart D) (I : Inv w D turn 3 b news)
    (hr : IsRange s.heap r 0 3 1 ta tb tc)
    (e3 : m (Str.ofString "kept") = some (.ref D.aKept)) (e4 : m (Str.ofString "tables") = some (.ref D.aTabs))
    (hret : ∀ (h' : Heap) (tk' : Nat) (m' : Str → Option Value), Fr h₀ L h' m' → News h₀ L h' news → (∀ z, z ≠ Str.ofString "one" → m' z = m z) → Q .next { s with heap := h', toks := tk' }) :
    wpAny (model PySem.Challenge.rw_dm0085_01.row.prog w) (callerA.deeper (envOf (Str.ofString "law") lawScope L fa cd)) (pyIter (.ref r))
      (fun it s₂ => LoopAtV PySem.Challenge.rw_dm0085_01.row.prog w (callerA.deeper (envOf (Str.ofString "law") lawScope L fa cd)) h₀ (envOf (Str.ofString "law") lawScope L fa cd) (Str.ofString "one") itBody Q E it s₂) E s := by
  refine iter_rangeN (n := 3) (fun j m' nx => nx = news ∧ ∀ z, z ≠ Str.ofString "one" → m' z = m z) rfl hr (by decide) (by decide) F N ⟨rfl, fun _ _ => rfl⟩ ?turn ?done
  case done => exact fun m₁ nx h tk hR F₁ N₁ => hret h tk m₁ F₁ (hR.1 ▸ N₁) hR.2
  case turn =>
    rintro j t m₁ nx h tk own hj hadr hoff ⟨rfl, hm⟩ F₁ N₁
    have hz : ∀ z v, z ≠ Str.ofString "one" → m z = some v → (fun y => if y = Str.ofString "one" then some (Value.int (0 + (j : Int)) t) else m₁ y) z = some v := fun z v n3 e => by
      dsimp only; rw [if_neg n3, hm z n3]; exact e
    refine it_ok w mean mg mb D turn b j t fa cd h₀ L _ _ _ E (nx ++ own) B F₁ X N₁ T hj hb AP (I.mono (fun p hp => List.mem_append_left _ hp) (Nat.le_refl _)) (by rw [if_pos rfl, Int.zero_add]) (hz _ _ (by decide) e3) (hz _ _ (by decide) e4) ?_
    intro h' tk' m' F' N' hz'
    refine InvEndN.intro (nx := nx) F' N' ⟨rfl, fun z n3 => ?_⟩ rfl (fun p hp => List.mem_append_left _ hp) (fun p hp => List.mem_append_right _ hp)
    rw [hz' z, if_neg n3]; exact hm z n3
end Mine

namespace Mine
def turnRest : List PySem.Stmt := turnBody.drop 1
local macro_rules | `(tactic| walk_at "exec For Name Name cons nil") => `(tactic| (k_here; (rename Fr _ _ _ _ => lF'); (with_unfolding_all refine' For_invVF lF' ?k1 ?k2 ?_; (case k1 => exact rfl); (case k2 => exact rfl); k_whole)))
local macro_rules | `(tactic| walk_at "exec For Name Call cons nil") => `(tactic| (k_here; (rename Fr _ _ _ _ => lF'); (with_unfolding_all refine' For_invVF lF' ?k1 ?k2 ?_; (case k1 => exact rfl); (case k2 => exact rfl); k_whole)))
local macro_rules | `(tactic| walk_at "pyIter ref") => `(tactic| k_extra "mine iter")
theorem rest_ok : ∀ (w : World) (mean : ExcName → Option Value) (mg mb : Str → Option Value) (D : Dat) (turn b : Nat) (t2 : Tok) (fa : Addr) (cd : Value) (h₀ : Heap) (L : Addr) (m : Str → Option Value) (s : Shared) (Q : Flow → Shared → Prop) (E : Value → Shared → Prop) (news : List (Addr × Obj)) (lk : Addr) (vs : List Value) (ns : List Int) (nn : Nat),
    Below callerA h₀ [] h₀ → Fr h₀ L s.heap m → (hd.heap_39 w.params).In h₀ → News h₀ L s.heap news → TopH mean mg mb h₀ → turn < 2 → b + 3 * ns.length < 8000 → Apart D → Inv w D turn 0 b news →
    (lk, listOf vs.toArray nn) ∈ news → IntsAre vs ns → keyBoundOk ns →
    m (Str.ofString "turn") = some (.int turn t2) → m (Str.ofString "keys") = some (.ref lk) → m (Str.ofString "members") = some (.ref D.aMem) → m (Str.ofString "kept") = some (.ref D.aKept) → m (Str.ofString "tables") = some (.ref D.aTabs) → m (Str.ofString "safes") = some (.ref D.aSafes) →
    PassesOwn (model PySem.Challenge.rw_dm0085_01.row.prog w) (callerA.deeper (envOf (Str.ofString "law") lawScope L fa cd)) (envOf (Str.ofString "law") lawScope L fa cd) E →
    (∀ (h' : Heap) (tk' : Nat) (m' : Str → Option Value) (news' : List (Addr × Obj)), Fr h₀ L h' m' → News h₀ L h' news' → Inv w D turn 3 (b + 3 * ns.length) news' → news'.map (·.1) = news.map (·.1) → (∀ p ∈ news, (∀ i, i < 3 → p.1 ≠ D.kd i ∧ p.1 ≠ D.td i ∧ p.1 ≠ D.dd i) → p ∈ news') →
      (∀ z, z ≠ Str.ofString "way" → z ≠ Str.ofString "due" → z ≠ Str.ofString "one" → z ≠ Str.ofString "key" → m' z = m z) → Q .next { s with heap := h', toks := tk' }) →
    wpAny (model PySem.Challenge.rw_dm0085_01.row.prog w) (callerA.deeper (envOf (Str.ofString "law") lawScope L fa cd)) (execs turnRest (envOf (Str.ofString "law") lawScope L fa cd)) Q E s := by
  k_fill
  intro w mean mg mb D turn b t2 fa cd h₀ L m s Q E news lk vs ns nn B F X N T hturn hb AP I hl hi hns e1 e2 e3 e4 e5 e6 hE hret
  have hlne : ∀ i, i < 3 → lk ≠ D.kd i ∧ lk ≠ D.td i ∧ lk ≠ D.dd i := fun i hi => by
    obtain ⟨ko, o, od, ps, m1, m2, m3, m4, m5, m9, _⟩ := I.pair i hi
    exact ⟨ne_cls N hl m1 (by rw [m4.cls]; exact (by decide : (Value.type "list") ≠ .type "dict")), ne_cls N hl m2 (by rw [m5.cls]; exact (by decide : (Value.type "list") ≠ .ref 31)), ne_cls N hl m3 (by rw [m9.cls]; exact (by decide : (Value.type "list") ≠ .type "dict"))⟩
  dsimp only [turnRest, turnBody, lawBody, lawScope, lawFn, forBody, PySem.Challenge.pw_dm0085_01, List.getLast?, List.getLast, List.getElem?_cons_succ, List.getElem?_cons_zero, List.drop_succ_cons, List.drop_zero]
  k_with "mine iter" => (refine Stop.here ?_)
  k_steps
  unfold Stop
  k_dflt (refine asgs_ok (turn := turn) B (by k_asm) X (by k_asm) T hturn AP I (by assumption) e1 e6 e5 ?_)
  intro h1 tk1 m1 n1 F1 N1 R1
  obtain ⟨I1, a1, k1, z1⟩ := R1
  have hl1 := k1 _ hl fun i hi => (hlne i hi).2.2
  have ek1 : m1 (Str.ofString "keys") = some (.ref lk) := (z1 _ (by decide)).trans e2
  have F1' := fr_b [(Str.ofString "keys", .ref lk)] F1 (by simp [ek1])
  have hkm1 : ∀ z, kstB m1 [(Str.ofString "keys", .ref lk)] z = m1 z := fun z => kstB_eq (by simp [ek1]) fun _ => rfl
  have hz1 : ∀ z v, z ≠ Str.ofString "one" → m z = some v → kstB m1 [(Str.ofString "keys", .ref lk)] z = some v := fun z v n3 e => (hkm1 z).trans ((z1 z n3).trans e)
  clear F1
  k_steps
  unfold Stop
  k_dflt (refine keys_ok (turn := turn) (b := b) B (by k_asm) X (by k_asm) T hturn hb AP I1 hl1 hi hns (hz1 _ _ (by decide) e1) (hz1 _ _ (by decide) e3) (hz1 _ _ (by decide) e4) (hz1 _ _ (by decide) e5) hE ?_)
  intro h2 tk2 m2 n2 F2 N2 R2
  obtain ⟨I2, a2, k2, z2⟩ := R2
  have hz2 : ∀ z v, z ≠ Str.ofString "way" → z ≠ Str.ofString "due" → z ≠ Str.ofString "one" → z ≠ Str.ofString "key" → m z = some v → m2 z = some v := fun z v c1 c2 c3 c4 e => (z2 z c1 c2 c3 c4).trans (hz1 z v c3 e)
  k_steps
  unfold Stop
  k_dflt (refine its_ok (turn := turn) (b := b + 3 * ns.length) B (by k_asm) X (by k_asm) T (by omega) AP I2 (by assumption) (hz2 _ _ (by decide) (by decide) (by decide) (by decide) e4) (hz2 _ _ (by decide) (by decide) (by decide) (by decide) e5) ?_)
  intro h3 tk3 m3 F3 N3 z3
  k_steps
  k_with_none
  exact hret h3 tk3 m3 n2 F3 N3 I2 (a2.trans a1) (fun p hp hn => k2 p (k1 p hp fun i hi => (hn i hi).2.2) fun i hi => ⟨(hn i hi).1, (hn i hi).2.1⟩)
    (fun z c1 c2 c3 c4 => (z3 z c3).trans ((z2 z c1 c2 c3 c4).trans ((hkm1 z).trans (z1 z c3))))
end Mine

namespace Mine
section
variable {prog : Program} {w : World} {A : Around} {E : Value → Shared → Prop} {s : Shared} {h₀ : Heap} {L : Addr} {m : Str → Option Value} {news : List (Addr × Obj)}
theorem sl3 {value slice : Expr} {l : Addr} {vs : List Value} {ns : List Int} {vl vu vk : Value} {lo hi st : Option Int} {ops : List Value} {Q : Value → Shared → Prop}
    (F : Fr h₀ L s.heap m) (N : News h₀ L s.heap news) (hl : s.heap.IsList l vs.toArray) (hI : IntsAre vs ns) (hz : ns.length ≤ 200) (pl : IsPart vl lo) (pu : IsPart vu hi) (pk : IsPart vk st) (h0 : st ≠ some 0)
    (h : ∀ D zs h', Fr h₀ L h' m → News h₀ L h' ((D, ({ cls := .type "list", data := .seq zs.toArray 0 } : Obj)) :: news) → IntsAre zs (pickNums ns lo hi st) → zs.length ≤ 200 → Q (.ref D) { s with heap := h' })
    (hs : subscripted slice false (.ref l) (.ref s.heap.objs.size) = operate ops (getItem (.ref l) (.ref s.heap.objs.size)) := by with_unfolding_all rfl)
    (ht : ∀ r, letTemporaryGo value (.ref l) r = pure () := by intro _; with_unfolding_all rfl) :
    wpAny (model prog w) A (subscriptTail value slice (.ref l) (.ref s.heap.objs.size)) Q E { s with heap := s.heap.push { cls := .type "slice", data := .fields #[vl, vu, vk] } } := by
  refine slice_list3 F N hl pl pu pk h0 (fun h' F' N' => h _ (slicePick vs.toArray lo hi st).toList h' F' ?_ (hI.pick lo hi st) ?_) hs ht (by rw [List.size_toArray, hI.length, PySem.sizeLine_eq]; omega)
  · rw [Array.toArray_toList]; exact N'
  · rw [(hI.pick lo hi st).length]; exact Nat.le_trans (length_pickNums_le hI lo hi st) hz
theorem pick_mem {ns : List Int} {lo hi st : Option Int} : ∀ k ∈ pickNums ns lo hi st, k ∈ ns := by
  intro k hk
  unfold pickNums at hk
  obtain ⟨i, _, e⟩ := List.mem_filterMap.mp hk
  exact List.mem_of_getElem? e
end
local macro_rules | `(tactic| walk_at "eval ListComp") => `(tactic| (k_here; k_dflt (refine LCg.ListComp_U (F₀ := by k_asm) (by with_unfolding_all rfl) (by decide) (by rfl) (by decide) (by rfl) ?_)))
local macro_rules | `(tactic| walk_at "CompSrc") => `(tactic| k_extra "mine src")
local macro_rules | `(tactic| walk_at "subscriptTail Name Slice ref ref") => `(tactic| (k_here; k_dflt (refine' sl3 ?F ?N ?l ?i ?z ?p ?q ?r ?n ?_; (case F => k_asm); (case N => k_asm); (case l => kmk_list); (case i => assumption); (case z => omega); (case p => kmk_part); (case q => kmk_part); (case r => kmk_part); (case n => decide)); intro D' zs' h' F' N' i' z'))
local macro_rules | `(tactic| walk_at "binaryOp Add ref ref") => `(tactic| k_extra "mine add")
theorem if_ok : ∀ (w : World) (mean : ExcName → Option Value) (mg mb : Str → Option Value) (t2 : Tok) (fa : Addr) (cd : Value) (h₀ : Heap) (L : Addr) (m : Str → Option Value) (s : Shared) (Q : Flow → Shared → Prop) (E : Value → Shared → Prop) (news : List (Addr × Obj)) (lk : Addr) (vs : List Value) (ns : List Int) (nn : Nat),
    Below callerA h₀ [] h₀ → Fr h₀ L s.heap m → (hd.heap_39 w.params).In h₀ → News h₀ L s.heap news → TopH mean mg mb h₀ → ns.length < 72 →
    (lk, listOf vs.toArray nn) ∈ news → IntsAre vs ns → (∀ k ∈ ns, -13999999999 < k ∧ k < 13999999999) →
    m (Str.ofString "turn") = some (.int 1 t2) → m (Str.ofString "keys") = some (.ref lk) → 
    (∀ (h' : Heap) (tk' : Nat) (m' : Str → Option Value) (l' : Addr) (vs' : List Value) (ns' : List Int) (nn' : Nat), Fr h₀ L h' m' → News h₀ L h' ((l', listOf vs'.toArray nn') :: news) → IntsAre vs' ns' → keyBoundOk ns' → ns'.length < 144 → (∀ p ∈ news, p.1 < l') →
      (∀ z, z ≠ Str.ofString "keys" → m' z = m z) → m' (Str.ofString "keys") = some (.ref l') → wpAny (model PySem.Challenge.rw_dm0085_01.row.prog w) (callerA.deeper (envOf (Str.ofString "law") lawScope L fa cd)) (execs turnRest (envOf (Str.ofString "law") lawScope L fa cd)) Q E { s with heap := h', toks := tk' }) →
    wpAny (model PySem.Challenge.rw_dm0085_01.row.prog w) (callerA.deeper (envOf (Str.ofString "law") lawScope L fa cd)) (execs turnBody (envOf (Str.ofString "law") lawScope L fa cd)) Q E s := by
  k_fill
  intro w mean mg mb t2 fa cd h₀ L m s Q E news lk vs ns nn B F X N T hlen hl hi hb e1 e2 hret
  have F1' := fr_b [(Str.ofString "turn", .int 1 t2), (Str.ofString "keys", .ref lk)] F (by simp [e1, e2])
  have hkm : ∀ z, kstB m [(Str.ofString "turn", .int 1 t2), (Str.ofString "keys", .ref lk)] z = m z := fun z => kstB_eq (by simp [e1, e2]) fun _ => rfl
  clear F
  have hl' : (lk, ({ cls := .type "list", data := .seq vs.toArray nn } : Obj)) ∈ news := hl
  show wpAny _ _ (execs (_ :: turnRest) _) _ _ _
  revert hret
  generalize turnRest = R
  intro hret
  refine wpAny_execs_cons ?_
  dsimp only [lawScope, lawFn, PySem.Challenge.pw_dm0085_01, List.getLast?, List.getLast]
  k_with "mine src" => (refine Stop.here ?_)
  k_steps
  unfold Stop
  rename_i D1 z1 h1 F1 N1 i1 l1
  k_dflt (refine LCg.CompSrc.ledger (by rfl) F1 N1 (List.mem_cons_self) (by rw [List.size_toArray, PySem.sizeLine_eq]; omega) ?_)
  intro g
  refine' kcf_list (fun k => k + 1) i1 (fun k' t' I' oI' C' oC' D' m' ys' h' tk' E' hk' hC' hx' F' N' off' ne' hMark' => ?_) ?_
  · k_steps
  · unfold KPfDone
    intro ys hy D2 h2 tk2 F2 N2 o2
    have hyl := hy.length
    have hpl := length_pickNums_le hi none none (some 2)
    rw [List.length_map] at hyl
    k_with "mine add" => (refine Stop.here ?_)
    k_steps
    unfold Stop
    k_dflt (refine kmk_add_ints F2 N2 (News.isList N2 (List.mem_cons_of_mem _ (List.mem_cons_of_mem _ hl'))) (News.isList N2 (List.mem_cons_self)) hi hy ?_ (by rw [PySem.sizeLine_eq, List.length_map]; omega))
    intro D3 ws h3 F3 N3 l3 hI3
    k_steps
    k_with_none
    rename_i h9 F9 N9
    refine hret h9 _ _ D3 ws _ 0 F9 (fun p hp => N9 p ?_) hI3 ?_ ?_ (fun p hp => l3 p (List.mem_cons_of_mem _ (List.mem_cons_of_mem _ hp))) (fun z hz => ?_) ?_
    · rcases List.mem_cons.mp hp with rfl | hp
      · exact List.mem_cons_self
      · exact List.mem_cons_of_mem _ (List.mem_cons_of_mem _ (List.mem_cons_of_mem _ hp))
    · intro k hk
      rcases List.mem_append.mp hk with hk | hk
      · have := hb k hk; omega
      · obtain ⟨q, hq, rfl⟩ := List.mem_map.mp hk
        have := hb q (pick_mem q hq); omega
    · rw [List.length_append, List.length_map]; omega
    · show (if z = _ then _ else _) = _
      rw [if_neg hz]; exact hkm z
    · show (if _ = _ then _ else _) = _
      rw [if_pos rfl]
theorem if0_ok : ∀ (w : World) (mean : ExcName → Option Value) (mg mb : Str → Option Value) (t2 : Tok) (fa : Addr) (cd : Value) (h₀ : Heap) (L : Addr) (m : Str → Option Value) (s : Shared) (Q : Flow → Shared → Prop) (E : Value → Shared → Prop) (news : List (Addr × Obj)),
    Below callerA h₀ [] h₀ → Fr h₀ L s.heap m → (hd.heap_39 w.params).In h₀ → News h₀ L s.heap news → TopH mean mg mb h₀ →
    m (Str.ofString "turn") = some (.int 0 t2) → 
    (∀ (tk' : Nat), wpAny (model PySem.Challenge.rw_dm0085_01.row.prog w) (callerA.deeper (envOf (Str.ofString "law") lawScope L fa cd)) (execs turnRest (envOf (Str.ofString "law") lawScope L fa cd)) Q E { s with toks := tk' }) →
    wpAny (model PySem.Challenge.rw_dm0085_01.row.prog w) (callerA.deeper (envOf (Str.ofString "law") lawScope L fa cd)) (execs turnBody (envOf (Str.ofString "law") lawScope L fa cd)) Q E s := by
  k_fill
  intro w mean mg mb t2 fa cd h₀ L m s Q E news B F X N T e1 hret
  have F1' := fr_b [(Str.ofString "turn", .int 0 t2)] F (by simp [e1])
  clear F
  show wpAny _ _ (execs (_ :: turnRest) _) _ _ _
  revert hret
  generalize turnRest = R
  intro hret
  refine wpAny_execs_cons ?_
  dsimp only [lawScope, lawFn, PySem.Challenge.pw_dm0085_01, List.getLast?, List.getLast]
  k_steps
  exact hret _
end Mine

namespace Mine
/-- what the loop over the turns keeps -/
def RT (w : World) (D : Dat) (lk : Addr) (lo : Obj) (news : List (Addr × Obj)) (m₀ : Str → Option Value) (j : Nat) (m : Str → Option Value) (nx : List (Addr × Obj)) : Prop :=
  Inv w D j 0 (1000 * j) nx ∧ nx.map (·.1) = news.map (·.1) ∧ (lk, lo) ∈ nx ∧ (∀ z, z ≠ Str.ofString "way" → z ≠ Str.ofString "due" → z ≠ Str.ofString "one" → z ≠ Str.ofString "key" → z ≠ Str.ofString "turn" → z ≠ Str.ofString "keys" → m z = m₀ z) ∧ (j < 2 → m (Str.ofString "keys") = some (.ref lk))

theorem turns_ok {w : World} {mean : ExcName → Option Value} {mg mb : Str → Option Value} {D : Dat} {fa : Addr} {cd : Value} {h₀ : Heap} {L : Addr} {m : Str → Option Value} {s : Shared} {Q : Flow → Shared → Prop} {E : Value → Shared → Prop} {news : List (Addr × Obj)}
    {r : Addr} {ta tb tc : Tok} {lk : Addr} {vs : List Value} {ns : List Int} {nn : Nat}
    (B : Below callerA h₀ [] h₀) (F : Fr h₀ L s.heap m) (X : (hd.heap_39 w.params).In h₀) (N : News h₀ L s.heap news) (T : TopH mean mg mb h₀) (AP : Apart D) (I : Inv w D 0 0 0 news)
    (hr : IsRange s.heap r 0 2 1 ta tb tc)
    (hl : (lk, listOf vs.toArray nn) ∈ news) (hi : IntsAre vs ns) (hns : ∀ k ∈ ns, -13999999999 < k ∧ k < 13999999999) (hlen : ns.length < 72)
    (e2 : m (Str.ofString "keys") = some (.ref lk)) (e3 : m (Str.ofString "members") = some (.ref D.aMem)) (e4 : m (Str.ofString "kept") = some (.ref D.aKept)) (e5 : m (Str.ofString "tables") = some (.ref D.aTabs)) (e6 : m (Str.ofString "safes") = some (.ref D.aSafes))
    (hE : PassesOwn (model PySem.Challenge.rw_dm0085_01.row.prog w) (callerA.deeper (envOf (Str.ofString "law") lawScope L fa cd)) (envOf (Str.ofString "law") lawScope L fa cd) E)
    (hret : ∀ (h' : Heap) (tk' : Nat) (m' : Str → Option Value), Fr h₀ L h' m' → Q .next { s with heap := h', toks := tk' }) :
    wpAny (model PySem.Challenge.rw_dm0085_01.row.prog w) (callerA.deeper (envOf (Str.ofString "law") lawScope L fa cd)) (pyIter (.ref r))
      (fun it s₂ => LoopAtV PySem.Challenge.rw_dm0085_01.row.prog w (callerA.deeper (envOf (Str.ofString "law") lawScope L fa cd)) h₀ (envOf (Str.ofString "law") lawScope L fa cd) (Str.ofString "turn") turnBody Q E it s₂) E s := by
  have hin : ∀ i, i < 3 → D.kd i ∈ news.map (·.1) ∧ D.td i ∈ news.map (·.1) ∧ D.dd i ∈ news.map (·.1) := fun i hi => by
    obtain ⟨ko, o, od, ps, m1, m2, m3, _⟩ := I.pair i hi
    exact ⟨List.mem_map.mpr ⟨_, m1, rfl⟩, List.mem_map.mpr ⟨_, m2, rfl⟩, List.mem_map.mpr ⟨_, m3, rfl⟩⟩
  have hlne : ∀ i, i < 3 → lk ≠ D.kd i ∧ lk ≠ D.td i ∧ lk ≠ D.dd i := fun i hi => by
    obtain ⟨ko, o, od, ps, m1, m2, m3, m4, m5, m9, _⟩ := I.pair i hi
    exact ⟨ne_cls N hl m1 (by rw [m4.cls]; exact (by decide : (Value.type "list") ≠ .type "dict")), ne_cls N hl m2 (by rw [m5.cls]; exact (by decide : (Value.type "list") ≠ .ref 31)), ne_cls N hl m3 (by rw [m9.cls]; exact (by decide : (Value.type "list") ≠ .type "dict"))⟩
  refine iter_rangeN (n := 2) (fun j m' nx => RT w D lk (listOf vs.toArray nn) news m j m' nx) rfl hr (by decide) (by decide) F N ⟨I, rfl, hl, fun _ _ _ _ _ _ _ => rfl, fun _ => e2⟩ ?turn ?done
  case done => exact fun m₁ nx h tk _ F₁ _ => hret h tk m₁ F₁
  case turn =>
    intro j t m₁ nx h tk own hj hadr hoff hR F₁ N₁
    obtain ⟨I₁, ha, hlk, hm, hks⟩ := hR
    have hz : ∀ z v, z ≠ Str.ofString "way" → z ≠ Str.ofString "due" → z ≠ Str.ofString "one" → z ≠ Str.ofString "key" → z ≠ Str.ofString "turn" → z ≠ Str.ofString "keys" → m z = some v → (fun y => if y = Str.ofString "turn" then some (Value.int (0 + (j : Int)) t) else m₁ y) z = some v := fun z v n1 n2 n3 n4 n5 n6 e => by
      dsimp only; rw [if_neg n5, hm z n1 n2 n3 n4 n5 n6]; exact e
    have hzk : (fun y => if y = Str.ofString "turn" then some (Value.int (0 + (j : Int)) t) else m₁ y) (Str.ofString "keys") = some (.ref lk) := by
      dsimp only; rw [if_neg (by decide)]; exact hks hj
    have hmm : ∀ z, z ≠ Str.ofString "way" → z ≠ Str.ofString "due" → z ≠ Str.ofString "one" → z ≠ Str.ofString "key" → z ≠ Str.ofString "turn" → z ≠ Str.ofString "keys" → (fun y => if y = Str.ofString "turn" then some (Value.int (0 + (j : Int)) t) else m₁ y) z = m z := fun z n1 n2 n3 n4 n5 n6 => by
      dsimp only; rw [if_neg n5]; exact hm z n1 n2 n3 n4 n5 n6
    have hzt : (fun y => if y = Str.ofString "turn" then some (Value.int (0 + (j : Int)) t) else m₁ y) (Str.ofString "turn") = some (.int (j : Int) t) := by
      dsimp only; rw [if_pos rfl, Int.zero_add]
    generalize (fun y => if y = Str.ofString "turn" then some (Value.int (0 + (j : Int)) t) else m₁ y) = mm at F₁ hz hzk hzt hmm
    rcases (by omega : j = 0 ∨ j = 1) with rfl | rfl
    · refine if0_ok w mean mg mb t fa cd h₀ L mm _ _ E (nx ++ own) B F₁ X N₁ T hzt fun tk1 => ?_
      refine rest_ok w mean mg mb D 0 0 t fa cd h₀ L mm _ _ E (nx ++ own) lk vs ns nn B F₁ X N₁ T (by omega) (by omega) AP (I₁.mono (fun p hp => List.mem_append_left _ hp) (by omega)) (List.mem_append_left _ hlk) hi (fun k hk => by have := hns k hk; omega) hzt hzk (hz _ _ (by decide) (by decide) (by decide) (by decide) (by decide) (by decide) e3) (hz _ _ (by decide) (by decide) (by decide) (by decide) (by decide) (by decide) e4) (hz _ _ (by decide) (by decide) (by decide) (by decide) (by decide) (by decide) e5) (hz _ _ (by decide) (by decide) (by decide) (by decide) (by decide) (by decide) e6) hE ?_
      intro h' tk' m' news' F' N' I' ha' hk' hz'
      have hcut := cut_mem ha' ha hoff
      refine InvEndN.intro (nx := news'.take nx.length) F' N' ⟨(Inv.mono (I.cut I' hcut) (fun _ h => h) (by omega)).next 1, (cut_map ha').trans ha, hcut _ (hk' _ (List.mem_append_left _ hlk) hlne) (List.mem_map.mpr ⟨_, hl, rfl⟩), fun z n1 n2 n3 n4 n5 n6 => ?_, fun _ => ?_⟩ ((cut_map ha').trans ha) (fun p hp => List.mem_of_mem_take hp) (fun p hp => hk' p (List.mem_append_right _ hp) fun i hi => ⟨hoff p hp _ (hin i hi).1, hoff p hp _ (hin i hi).2.1, hoff p hp _ (hin i hi).2.2⟩)
      · rw [hz' z n1 n2 n3 n4]; exact hmm z n1 n2 n3 n4 n5 n6
      · rw [hz' _ (by decide) (by decide) (by decide) (by decide)]; exact hzk
    · refine if_ok w mean mg mb t fa cd h₀ L mm _ _ E (nx ++ own) lk vs ns nn B F₁ X N₁ T hlen (List.mem_append_left _ hlk) hi hns hzt hzk ?_
      intro h1 tk1 m1 l1 vs1 ns1 nn1 F1 N1 hi1 hb1 hlen1 hlt hm1 hk1
      have N1' : News h₀ L h1 (nx ++ (own ++ [(l1, listOf vs1.toArray nn1)])) := fun p hp => N1 p (by
        rw [← List.append_assoc] at hp
        rcases List.mem_append.mp hp with h | h
        · exact List.mem_cons_of_mem _ h
        · rw [List.mem_singleton.mp h]; exact List.mem_cons_self)
      have hoff1 : OwnOff (own ++ [(l1, listOf vs1.toArray nn1)]) (news.map (·.1)) := fun p hp a hpa => by
        rcases List.mem_append.mp hp with h | h
        · exact hoff p h a hpa
        · rw [List.mem_singleton.mp h]
          rw [← ha] at hpa
          obtain ⟨q, hq, rfl⟩ := List.mem_map.mp hpa
          exact Nat.ne_of_gt (hlt q (List.mem_append_left _ hq))
      have hz1 : ∀ z v, z ≠ Str.ofString "keys" → mm z = some v → m1 z = some v := fun z v n e => (hm1 z n).trans e
      refine rest_ok w mean mg mb D 1 1000 t fa cd h₀ L m1 _ _ E (nx ++ (own ++ [(l1, listOf vs1.toArray nn1)])) l1 vs1 ns1 nn1 B F1 X N1' T (by omega) (by omega) AP (I₁.mono (fun p hp => List.mem_append_left _ hp) (by omega)) (List.mem_append_right _ (List.mem_append_right _ List.mem_cons_self)) hi1 hb1 (hz1 _ _ (by decide) hzt) hk1 (hz1 _ _ (by decide) (hz _ _ (by decide) (by decide) (by decide) (by decide) (by decide) (by decide) e3)) (hz1 _ _ (by decide) (hz _ _ (by decide) (by decide) (by decide) (by decide) (by decide) (by decide) e4)) (hz1 _ _ (by decide) (hz _ _ (by decide) (by decide) (by decide) (by decide) (by decide) (by decide) e5)) (hz1 _ _ (by decide) (hz _ _ (by decide) (by decide) (by decide) (by decide) (by decide) (by decide) e6)) hE ?_
      intro h' tk' m' news' F' N' I' ha' hk' hz'
      have hcut := cut_mem ha' ha hoff1
      refine InvEndN.intro (nx := news'.take nx.length) F' N' ⟨(Inv.mono (I.cut I' hcut) (fun _ h => h) (by omega)).next 2, (cut_map ha').trans ha, hcut _ (hk' _ (List.mem_append_left _ hlk) hlne) (List.mem_map.mpr ⟨_, hl, rfl⟩), fun z n1 n2 n3 n4 n5 n6 => ?_, fun h => absurd h (by omega)⟩ ((cut_map ha').trans ha) (fun p hp => List.mem_of_mem_take hp) (fun p hp => hk' p (List.mem_append_right _ (List.mem_append_left _ hp)) fun i hi => ⟨hoff p hp _ (hin i hi).1, hoff p hp _ (hin i hi).2.1, hoff p hp _ (hin i hi).2.2⟩)
      rw [hz' z n1 n2 n3 n4, hm1 z n6]; exact hmm z n1 n2 n3 n4 n5 n6
end Mine

namespace Mine
theorem small_lo (x : Int) : -1000000 < small x := by
  unfold small; split
  · omega
  · have := fmod_lo x (n := 1114112) (by decide); omega
theorem small_hi (x : Int) : small x < 2000000 := by
  unfold small; split
  · omega
  · have := fmod_hi x (n := 1114112) (by decide); omega
theorem keyOf_bd (x : Int) : -13900000000 < keyOf x ∧ keyOf x < 13900000000 := by
  have e : (7 : Int) ^ Int.toNat 12 = 13841287201 := by decide
  unfold keyOf; rw [e]
  have h1 := fmod_lo x (n := 13841287201) (by decide)
  have h2 := fmod_hi x (n := 13841287201) (by decide)
  have h3 := fmod_lo (-x) (n := 13841287201) (by decide)
  have h4 := fmod_hi (-x) (n := 13841287201) (by decide)
  by_cases hx : x < 0
  · rw [if_pos hx]
    by_cases h : -x < 13841287201
    · rw [if_pos h]; omega
    · rw [if_neg h, if_neg (by omega)]; omega
  · rw [if_neg hx]
    by_cases h : x < 13841287201
    · rw [if_pos h]; omega
    · rw [if_neg h, if_pos (by omega)]; omega
abbrev Go (w : World) (fa : Addr) (cd : Value) (L : Addr) (i : Nat) (Q : Flow → Shared → Prop) (E : Value → Shared → Prop) (s : Shared) : Prop :=
  wpAny (model PySem.Challenge.rw_dm0085_01.row.prog w) (callerA.deeper (envOf (Str.ofString "law") lawScope L fa cd)) (execs (lawBody.drop i) (envOf (Str.ofString "law") lawScope L fa cd)) Q E s
local macro_rules | `(tactic| walk_at "call ref") => `(tactic| k_extra "mine call")
local macro_rules | `(tactic| walk_at "eval Call") => `(tactic| k_extra "mine ecall")
theorem s0_ok : ∀ (w : World) (mean : ExcName → Option Value) (mg mb : Str → Option Value) (fa : Addr) (cd : Value) (h₀ : Heap) (L : Addr) (m : Str → Option Value) (s : Shared) (Q : Flow → Shared → Prop) (E : Value → Shared → Prop) (news : List (Addr × Obj)) (sc : Addr) (vs : List Value) (ns : List Int),
    Below callerA h₀ [] h₀ → Fr h₀ L s.heap m → (hd.heap_39 w.params).In h₀ → News h₀ L s.heap news → TopH mean mg mb h₀ → h₀.IsList sc vs.toArray → IntsAre vs ns → ns.length ≤ 63 →
    m (Str.ofString "script") = some (.ref sc) →
    (∀ (h' : Heap) (tk' : Nat) (m' : Str → Option Value) (f : Int) (t : Tok), Fr h₀ L h' m' → (∀ z, m' z = if z = Str.ofString "first" then some (.int f t) else m z) → News h₀ L h' news → -1000000 < f → f < 2000000 → Go w fa cd L 1 Q E { s with heap := h', toks := tk' }) →
    Go w fa cd L 0 Q E s := by
  unfold Go
  k_fill
  intro w mean mg mb fa cd h₀ L m s Q E news sc vs ns B F X N T hL hi hlen e1 hret
  have F1' := fr_b [(Str.ofString "script", .ref sc)] F (by simp [e1])
  have hkm : ∀ z, kstB m [(Str.ofString "script", .ref sc)] z = m z := fun z => kstB_eq (by simp [e1]) fun _ => rfl
  clear F
  show wpAny _ _ (execs (_ :: lawBody.drop 1) _) _ _ _
  revert hret
  generalize lawBody.drop 1 = R
  intro hret
  refine wpAny_execs_cons ?_
  dsimp only [lawScope, lawFn, PySem.Challenge.pw_dm0085_01, List.getLast?, List.getLast]
  k_with "mine call" => (refine Stop.here ?_)
  k_with "mine ecall" => (k_dflt (refine Call_ ?_))
  k_steps
  · unfold Stop
    k_dflt (refine' small_call w mean mg mb _ _ _ _ _ _ _ _ _ _ _ _ _ _ _ _ _ _ _ news B ?k2 X ?k4 T ?k6 ?k7 ?k8 ?rr)
    case k2 => k_asm
    case k4 => k_asm
    case k6 => rfl
    case k7 => first | ktr_room | k_room
    case k8 => first | ktr_units | units_room
    case rr =>
      intro t1 h1 tk1 F1 N1
      k_steps
      rename_i h2 F2 N2
      exact hret h2 _ _ _ _ F2 (fun z => by rw [← hkm z]) N2 (small_lo _) (small_hi _)
  · rename_i h2 F2 N2
    exact hret h2 _ _ _ _ F2 (fun z => by rw [← hkm z]) N2 (by decide) (by decide)
  k_with_none
end Mine

namespace Mine
local macro_rules | `(tactic| walk_at "eval ListComp") => `(tactic| (k_here; k_dflt (refine LCg.ListComp_U (F₀ := by k_asm) (by with_unfolding_all rfl) (by decide) (by rfl) (by decide) (by rfl) ?_)))
local macro_rules | `(tactic| walk_at "CompSrc") => `(tactic| k_extra "mine src")
local macro_rules | `(tactic| walk_at "subscriptTail Name Slice ref ref") => `(tactic| (k_here; k_dflt (refine' sl3 ?F ?N ?l ?i ?z ?p ?q ?r ?n ?_; (case F => k_asm); (case N => k_asm); (case l => kmk_list); (case i => assumption); (case z => omega); (case p => kmk_part); (case q => kmk_part); (case r => kmk_part); (case n => decide)); intro D' zs' h' F' N' i' z'))
local macro_rules | `(tactic| walk_at "binaryOp Add ref ref") => `(tactic| k_extra "mine add")
local macro_rules | `(tactic| walk_at "call ref") => `(tactic| k_extra "mine call")
local macro_rules | `(tactic| walk_at "eval Call") => `(tactic| k_extra "mine ecall")
theorem s1_ok : ∀ (w : World) (mean : ExcName → Option Value) (mg mb : Str → Option Value) (fa : Addr) (cd : Value) (h₀ : Heap) (L : Addr) (m : Str → Option Value) (s : Shared) (Q : Flow → Shared → Prop) (E : Value → Shared → Prop) (news : List (Addr × Obj)) (sc : Addr) (vs : List Value) (ns : List Int),
    Below callerA h₀ [] h₀ → Fr h₀ L s.heap m → (hd.heap_39 w.params).In h₀ → News h₀ L s.heap news → TopH mean mg mb h₀ → h₀.IsList sc vs.toArray → IntsAre vs ns → ns.length ≤ 63 →
    m (Str.ofString "script") = some (.ref sc) →
    (∀ (h' : Heap) (tk' : Nat) (m' : Str → Option Value) (l' : Addr) (vs' : List Value) (ns' : List Int), Fr h₀ L h' m' → (∀ z, m' z = if z = Str.ofString "octets" then some (.ref l') else m z) → News h₀ L h' ((l', listOf vs'.toArray 0) :: news) → IntsAre vs' ns' → (∀ k ∈ ns', 0 ≤ k ∧ k < 256) → ns'.length ≤ 71 → Go w fa cd L 2 Q E { s with heap := h', toks := tk' }) →
    Go w fa cd L 1 Q E s := by
  unfold Go
  k_fill
  intro w mean mg mb fa cd h₀ L m s Q E news sc vs ns B F X N T hL hi hlen e1 hret
  have F1' := fr_b [(Str.ofString "script", .ref sc)] F (by simp [e1])
  have hkm : ∀ z, kstB m [(Str.ofString "script", .ref sc)] z = m z := fun z => kstB_eq (by simp [e1]) fun _ => rfl
  clear F
  show wpAny _ _ (execs (_ :: lawBody.drop 2) _) _ _ _
  revert hret
  generalize lawBody.drop 2 = R
  intro hret
  refine wpAny_execs_cons ?_
  dsimp only [lawScope, lawFn, PySem.Challenge.pw_dm0085_01, List.getLast?, List.getLast]
  k_with "mine src" => (refine Stop.here ?_)
  k_with "mine add" => (refine Stop.here ?_)
  k_steps
  unfold Stop
  rename_i D1 z1 h1 F1 N1 i1 l1
  k_dflt (refine LCg.CompSrc.ledger (by rfl) F1 N1 (List.mem_cons_self) (by rw [List.size_toArray, PySem.sizeLine_eq]; omega) ?_)
  intro g
  refine' kcf_list (fun k => k.fmod 256) i1 (fun k' t' I' oI' C' oC' D' m' ys' h' tk' E' hk' hC' hx' F' N' off' ne' hMark' => ?_) ?_
  · k_steps
  · unfold KPfDone
    intro ys hy D2 h2 tk2 F2 N2 o2
    have hyl := hy.length
    have hpl := length_pickNums_le hi (some 1) none (some 3)
    rw [List.length_map] at hyl
    k_steps
    unfold Stop
    k_dflt (refine kmk_add_ints (by k_asm) (by k_asm) (News.isList (by k_asm) (by k_mem)) (News.isList (by k_asm) (by k_mem)) hy (.cons 61 _ (.cons 95 _ .nil)) ?_ (by rw [PySem.sizeLine_eq, List.length_map]; simp only [List.length_cons, List.length_nil]; omega))
    intro D3 ws h3 F3 N3 l3 hI3
    k_steps
    rename_i h9 F9 N9
    k_with_none
    refine hret h9 _ _ D3 ws _ F9 (fun z => by rw [← hkm z]) (fun p hp => N9 p ?_) hI3 ?_ ?_
    · rcases List.mem_cons.mp hp with rfl | hp
      · exact List.mem_cons_self
      · repeat (first | exact hp | refine List.mem_cons_of_mem _ ?_)
    · intro k hk
      rcases List.mem_append.mp hk with hk | hk
      · obtain ⟨q, hq, rfl⟩ := List.mem_map.mp hk
        exact ⟨fmod_lo q (by decide), fmod_hi q (by decide)⟩
      · simp at hk; omega
    · simp only [List.length_append, List.length_map, List.length_cons, List.length_nil]; omega
theorem s2_ok : ∀ (w : World) (mean : ExcName → Option Value) (mg mb : Str → Option Value) (fa : Addr) (cd : Value) (h₀ : Heap) (L : Addr) (m : Str → Option Value) (s : Shared) (Q : Flow → Shared → Prop) (E : Value → Shared → Prop) (news : List (Addr × Obj)) (sc : Addr) (vs : List Value) (ns : List Int),
    Below callerA h₀ [] h₀ → Fr h₀ L s.heap m → (hd.heap_39 w.params).In h₀ → News h₀ L s.heap news → TopH mean mg mb h₀ → h₀.IsList sc vs.toArray → IntsAre vs ns → ns.length ≤ 63 →
    m (Str.ofString "script") = some (.ref sc) →
    (∀ (h' : Heap) (tk' : Nat) (m' : Str → Option Value) (l' : Addr) (vs' : List Value) (ns' : List Int), Fr h₀ L h' m' → (∀ z, m' z = if z = Str.ofString "numbers" then some (.ref l') else m z) → News h₀ L h' ((l', listOf vs'.toArray 0) :: news) → IntsAre vs' ns' → (∀ k ∈ ns', -1000000 < k ∧ k < 2000000) → ns'.length < 72 → Go w fa cd L 3 Q E { s with heap := h', toks := tk' }) →
    Go w fa cd L 2 Q E s := by
  unfold Go
  k_fill
  intro w mean mg mb fa cd h₀ L m s Q E news sc vs ns B F X N T hL hi hlen e1 hret
  have F1' := fr_b [(Str.ofString "script", .ref sc)] F (by simp [e1])
  have hkm : ∀ z, kstB m [(Str.ofString "script", .ref sc)] z = m z := fun z => kstB_eq (by simp [e1]) fun _ => rfl
  clear F
  show wpAny _ _ (execs (_ :: lawBody.drop 3) _) _ _ _
  revert hret
  generalize lawBody.drop 3 = R
  intro hret
  refine wpAny_execs_cons ?_
  dsimp only [lawScope, lawFn, PySem.Challenge.pw_dm0085_01, List.getLast?, List.getLast]
  k_with "mine src" => (refine Stop.here ?_)
  k_with "mine add" => (refine Stop.here ?_)
  k_steps
  unfold Stop
  rename_i D1 z1 h1 F1 N1 i1 l1
  k_dflt (refine LCg.CompSrc.ledger (by rfl) F1 N1 (List.mem_cons_self) (by rw [List.size_toArray, PySem.sizeLine_eq]; omega) ?_)
  intro g
  refine' kcf_list (fun k => small k) i1 (fun k' t' I' oI' C' oC' D' m' ys' h' tk' E' hk' hC' hx' F' N' off' ne' hMark' => ?_) ?_
  · k_with "mine call" => (refine Stop.here ?_)
    k_with "mine ecall" => (k_dflt (refine Call_ ?_))
    k_steps
    unfold Stop
    k_dflt (refine' small_call w mean mg mb _ _ _ _ _ _ _ _ _ _ _ _ _ _ _ _ _ _ _ ((I', oI') :: (C', oC') :: (D', LCg.lst ys') :: ((D1, ({ cls := .type "list", data := .seq z1.toArray 0 } : Obj)) :: news)) B ?k2 X ?k4 T ?k6 ?k7 ?k8 ?rr)
    case k2 => k_asm
    case k4 => k_asm
    case k6 => rfl
    case k7 => first | ktr_room | k_room
    case k8 => first | ktr_units | units_room
    case rr =>
      intro t1 h1 tk1 F1 N1
      k_steps
  · unfold KPfDone
    intro ys hy D2 h2 tk2 F2 N2 o2
    have hyl := hy.length
    have hpl := length_pickNums_le hi none none (some 3)
    rw [List.length_map] at hyl
    k_steps
    unfold Stop
    k_dflt (refine kmk_add_ints (by k_asm) (by k_asm) (News.isList (by k_asm) (by k_mem)) (News.isList (by k_asm) (by k_mem)) hy (.cons (61) _ (.cons (300) _ (.cons (-1) _ (.cons (1114112) _ .nil)))) ?_ (by rw [PySem.sizeLine_eq, List.length_map]; simp only [List.length_cons, List.length_nil]; omega))
    intro D3 ws h3 F3 N3 l3 hI3
    k_steps
    rename_i h9 F9 N9
    k_with_none
    refine hret h9 _ _ D3 ws _ F9 (fun z => by rw [← hkm z]) (fun p hp => N9 p ?_) hI3 ?_ ?_
    · rcases List.mem_cons.mp hp with rfl | hp
      · exact List.mem_cons_self
      · repeat (first | exact hp | refine List.mem_cons_of_mem _ ?_)
    · intro k hk
      rcases List.mem_append.mp hk with hk | hk
      · obtain ⟨q, hq, rfl⟩ := List.mem_map.mp hk
        exact ⟨small_lo q, small_hi q⟩
      · simp at hk; omega
    · simp only [List.length_append, List.length_map, List.length_cons, List.length_nil]; omega
theorem s6_ok : ∀ (w : World) (mean : ExcName → Option Value) (mg mb : Str → Option Value) (fa : Addr) (cd : Value) (h₀ : Heap) (L : Addr) (m : Str → Option Value) (s : Shared) (Q : Flow → Shared → Prop) (E : Value → Shared → Prop) (news : List (Addr × Obj)) (sc : Addr) (vs : List Value) (ns : List Int),
    Below callerA h₀ [] h₀ → Fr h₀ L s.heap m → (hd.heap_39 w.params).In h₀ → News h₀ L s.heap news → TopH mean mg mb h₀ → h₀.IsList sc vs.toArray → IntsAre vs ns → ns.length ≤ 63 →
    m (Str.ofString "script") = some (.ref sc) →
    (∀ (h' : Heap) (tk' : Nat) (m' : Str → Option Value) (l' : Addr) (vs' : List Value) (ns' : List Int), Fr h₀ L h' m' → (∀ z, m' z = if z = Str.ofString "keys" then some (.ref l') else m z) → News h₀ L h' ((l', listOf vs'.toArray 0) :: news) → IntsAre vs' ns' → (∀ k ∈ ns', -13999999999 < k ∧ k < 13999999999) → ns'.length < 72 → Go w fa cd L 7 Q E { s with heap := h', toks := tk' }) →
    Go w fa cd L 6 Q E s := by
  unfold Go
  k_fill
  intro w mean mg mb fa cd h₀ L m s Q E news sc vs ns B F X N T hL hi hlen e1 hret
  have F1' := fr_b [(Str.ofString "script", .ref sc)] F (by simp [e1])
  have hkm : ∀ z, kstB m [(Str.ofString "script", .ref sc)] z = m z := fun z => kstB_eq (by simp [e1]) fun _ => rfl
  clear F
  show wpAny _ _ (execs (_ :: lawBody.drop 7) _) _ _ _
  revert hret
  generalize lawBody.drop 7 = R
  intro hret
  refine wpAny_execs_cons ?_
  dsimp only [lawScope, lawFn, PySem.Challenge.pw_dm0085_01, List.getLast?, List.getLast]
  k_with "mine src" => (refine Stop.here ?_)
  k_with "mine add" => (refine Stop.here ?_)
  k_steps
  unfold Stop
  have hvl := hi.length
  k_dflt (refine LCg.CompSrc.base (by rfl) (by k_asm) (by k_asm) hL (by rw [List.size_toArray, PySem.sizeLine_eq]; omega) ?_)
  intro g
  refine' kcf_list (fun k => keyOf k) hi (fun k' t' I' oI' C' oC' D' m' ys' h' tk' E' hk' hC' hx' F' N' off' ne' hMark' => ?_) ?_
  · k_with "mine call" => (refine Stop.here ?_)
    k_with "mine ecall" => (k_dflt (refine Call_ ?_))
    k_steps
    unfold Stop
    k_dflt (refine' key_call w mean mg mb _ _ _ _ _ _ _ _ _ _ _ _ _ _ _ _ _ _ _ ((I', oI') :: (C', oC') :: (D', LCg.lst ys') :: news) B ?k2 X ?k4 T ?k6 ?k7 ?k8 ?rr)
    case k2 => k_asm
    case k4 => k_asm
    case k6 => rfl
    case k7 => first | ktr_room | k_room
    case k8 => first | ktr_units | units_room
    case rr =>
      intro t1 h1 tk1 F1 N1
      k_steps
  · unfold KPfDone
    intro ys hy D2 h2 tk2 F2 N2 o2
    have hyl := hy.length
    rw [List.length_map] at hyl
    k_steps
    unfold Stop
    k_dflt (refine kmk_add_ints (by k_asm) (by k_asm) (News.isList (by k_asm) (by k_mem)) (News.isList (by k_asm) (by k_mem)) hy (.cons (32) _ (.cons (61) _ (.cons (65) _ (.cons (300) _ (.cons (-1) _ (.cons (1114112) _ (.cons (255) _ (.cons (-10) _ .nil)))))))) ?_ (by rw [PySem.sizeLine_eq, List.length_map]; simp only [List.length_cons, List.length_nil]; omega))
    intro D3 ws h3 F3 N3 l3 hI3
    k_steps
    rename_i h9 F9 N9
    k_with_none
    refine hret h9 _ _ D3 ws _ F9 (fun z => by rw [← hkm z]) (fun p hp => N9 p ?_) hI3 ?_ ?_
    · rcases List.mem_cons.mp hp with rfl | hp
      · exact List.mem_cons_self
      · repeat (first | exact hp | refine List.mem_cons_of_mem _ ?_)
    · intro k hk
      rcases List.mem_append.mp hk with hk | hk
      · obtain ⟨q, hq, rfl⟩ := List.mem_map.mp hk
        exact ⟨by have := keyOf_bd q; omega, by have := keyOf_bd q; omega⟩
      · simp at hk; omega
    · simp only [List.length_append, List.length_map, List.length_cons, List.length_nil]; omega
end Mine

namespace Mine
section
variable {prog : Program} {w : World} {A : Around} {E : Value → Shared → Prop} {s : Shared} {h₀ : Heap} {L : Addr} {m : Str → Option Value} {news : List (Addr × Obj)}
theorem range2 {a b : Int} {t u : Tok} {Q : Value → Shared → Prop} (F : Fr h₀ L s.heap m) (N : News h₀ L s.heap news)
    (h : ∀ (D : Addr) (h' : Heap) (tk' : Nat) (v : Tok), Fr h₀ L h' m → News h₀ L h' ((D, ({ cls := .type "range", data := .fields #[.int a t, .int b u, .int 1 v] } : Obj)) :: news) → Q (.ref D) { s with heap := h', toks := tk' }) :
    wpAny (model prog w) A (call (.type "range") [.int a t, .int b u]) Q E s :=
  call_range_2 (h _ _ _ _ (F.push _) (N.push F _))
theorem any_getD (ns : List Int) (k : Int) : ((List.range ns.length).map fun i => ns.getD i 0).any (· == k) = ns.any (· == k) := by
  congr 1
  refine List.ext_getElem (by simp) fun i h1 h2 => ?_
  simp [List.getD, List.getElem?_eq_getElem h2]
theorem any_run (a : Int) (n : Nat) (k : Int) : ((List.range n).map fun (i : Nat) => a + (i : Int)).any (· == k) = decide (a ≤ k ∧ k < a + n) := by
  rw [Bool.eq_iff_iff]
  simp only [List.any_eq_true, List.mem_map, List.mem_range, beq_iff_eq, decide_eq_true_eq]
  constructor
  · rintro ⟨x, ⟨i, hi, rfl⟩, rfl⟩; omega
  · intro h; exact ⟨k, ⟨(k - a).toNat, by omega, by omega⟩, rfl⟩
/-- what a set that was made is to its maker -/
theorem set_made {S : Int → Bool} {n : Nat} {h' : Heap} (F : Fr h₀ L s.heap m) (N : News h₀ L s.heap news) (hS : h'.SetOf (intKind prog w) s.heap.objs.size S n) (hk : ∀ b o, b < s.heap.objs.size → s.heap.get? b = some o → h'.get? b = some o) :
    Fr h₀ L h' m ∧ ∃ o, News h₀ L h' ((s.heap.objs.size, o) :: news) ∧ o.SetObjOf (intKind prog w) S n := by
  obtain ⟨o, ho, hso⟩ := hS.objOf
  obtain ⟨oL, _, _, hL, _⟩ := F.ns
  have hLlt : L < s.heap.objs.size := Heap.lt_size hL
  refine ⟨⟨F.ns.at' fun o' e => hk L o' hLlt e, fun b o' e => hk b o' (Heap.lt_size (F.keep b o' e)) (F.keep b o' e), F.above⟩, o, fun p hp => ?_, hso⟩
  rcases List.mem_cons.mp hp with rfl | hp
  · exact ⟨ho, Nat.ne_of_gt hLlt, next_is_new F⟩
  · exact ⟨hk _ _ (Heap.lt_size (N p hp).1) (N p hp).1, (N p hp).2.1, (N p hp).2.2⟩
theorem set_listN {l : Addr} {vs : List Value} {ns : List Int} {Q : Value → Shared → Prop} (F : Fr h₀ L s.heap m) (N : News h₀ L s.heap news)
    (hh : A.handled = none) (hl : s.heap.IsList l vs.toArray) (hi : IntsAre vs ns) (hb : ns.length + 1 < scanBound)
    (h : ∀ (D : Addr) (h' : Heap) (tk : Nat) (o : Obj) (n : Nat), Fr h₀ L h' m → News h₀ L h' ((D, o) :: news) → o.SetObjOf (intKind prog w) (fun k => ns.any (· == k)) n → n < scanBound → Q (.ref D) { s with heap := h', toks := tk }) :
    wpAny (model prog w) A (call (.type "set") [.ref l]) Q E s := by
  have hvn : vs.length = ns.length := IntsAre.length hi
  refine PySem.call_set_list (items := vs.toArray) (ns := ns) hh hl (by simpa using hi) (by rw [List.size_toArray, hvn]; exact hb) fun h' tk hS hk => ?_
  rw [show vs.toArray.size = ns.length from hvn] at hS
  obtain ⟨F', o, N', ho⟩ := set_made F N hS hk
  rw [show (fun k' => (firstMet (fun i => ns.getD i 0) ns.length).any (· == k')) = (fun k => ns.any (· == k)) from funext fun k => (firstMet_any _ _ k).trans (any_getD ns k)] at ho
  exact h _ h' tk o _ F' N' ho (by have := firstMet_length_le (fun i => ns.getD i 0) ns.length; omega)
end
local macro_rules | `(tactic| walk_at "call type:range") => `(tactic| k_extra "mine range")
theorem s3_ok : ∀ (w : World) (mean : ExcName → Option Value) (mg mb : Str → Option Value) (fa : Addr) (cd : Value) (h₀ : Heap) (L : Addr) (m : Str → Option Value) (s : Shared) (Q : Flow → Shared → Prop) (E : Value → Shared → Prop) (news : List (Addr × Obj)) (f : Int) (t : Tok),
    Below callerA h₀ [] h₀ → Fr h₀ L s.heap m → (hd.heap_39 w.params).In h₀ → News h₀ L s.heap news → TopH mean mg mb h₀ → -1000000 < f → f < 2000000 →
    m (Str.ofString "first") = some (.int f t) →
    (∀ (h' : Heap) (tk' : Nat) (m' : Str → Option Value) (r : Addr) (t1 t2 t3 : Tok), Fr h₀ L h' m' → (∀ z, m' z = if z = Str.ofString "stretch" then some (.ref r) else m z) → News h₀ L h' ((r, { cls := .type "range", data := .fields #[.int (f - 9) t1, .int (f + 55) t2, .int 1 t3] }) :: news) → Go w fa cd L 4 Q E { s with heap := h', toks := tk' }) →
    Go w fa cd L 3 Q E s := by
  unfold Go
  k_fill
  intro w mean mg mb fa cd h₀ L m s Q E news f t B F X N T hf1 hf2 e1 hret
  have F1' := fr_b [(Str.ofString "first", .int f t)] F (by simp [e1])
  have hkm : ∀ z, kstB m [(Str.ofString "first", .int f t)] z = m z := fun z => kstB_eq (by simp [e1]) fun _ => rfl
  clear F
  show wpAny _ _ (execs (_ :: lawBody.drop 4) _) _ _ _
  revert hret
  generalize lawBody.drop 4 = R
  intro hret
  refine wpAny_execs_cons ?_
  dsimp only [lawScope, lawFn, PySem.Challenge.pw_dm0085_01, List.getLast?, List.getLast]
  k_with "mine range" => (k_dflt (refine range2 (by k_asm) (by k_asm) ?_); intro D' h' tk' v' F' N')
  k_steps
  k_with_none
  rename_i h9 F9 N9
  exact hret h9 _ _ _ _ _ _ F9 (fun z => by rw [← hkm z]) N9
end Mine

namespace Mine
section
variable {prog : Program} {w : World} {A : Around} {E : Value → Shared → Prop} {s : Shared}
theorem call_set_range {r : Addr} {a b : Int} {t u v : Tok} {n : Nat} {Q : Value → Shared → Prop}
    (hh : A.handled = none) (hr : IsRange s.heap r a b 1 t u v) (hsmall : Builtin.Range.small a b 1 = true) (hn : Builtin.Range.rangeSize a b 1 = (n : Int)) (hb : n + 1 < scanBound)
    (h : ∀ (h' : Heap) (tk : Nat), h'.SetOf (intKind prog w) s.heap.objs.size (fun k' => (firstMet (fun i => a + (i : Int)) n).any (· == k')) (firstMet (fun i => a + (i : Int)) n).length →
      (∀ b o, b < s.heap.objs.size → s.heap.get? b = some o → h'.get? b = some o) → Q (.ref s.heap.objs.size) { s with heap := h', toks := tk }) :
    wpAny (model prog w) A (call (.type "set") [.ref r]) Q E s := by
  obtain ⟨c, tl, hmro⟩ := F.called_set.mro
  have hmade := F.called_set.made
  have hsub := F.called_set.sub
  refine wpAny_call (codeAny_of_tree ?_)
  show wpAny _ _ (callAny (.type "set") _) _ _ _
  refine wpAny_pure ⟨Code.quiet_builtin _ (by decide +kernel), codeAny_builtin F.entry_type_call ?_⟩
  rw [Around.under_plain (weight_type_call_type "set" [.ref r] []) rfl]
  have h1 := F.called_set.notType
  have h2 := F.called_set.canCreate
  have hct := F.typeCall_set_1 (.ref r)
  repeat (any_goals (first | assumption | wp_step))
  refine codeAny_mono (code_set_new_1 (.ref r) (E := E) (Q₁ := fun obj s₁ => ∃ led : Bool, obj = .ref s.heap.objs.size ∧ s₁ = { s with heap := s.heap.push { cls := .type "set", dict := none, data := .set #[] 0 (.fresh 0 0 led) } }) fun led => ⟨led, rfl, rfl⟩) fun res s₁ hres => ?_
  cases res with
  | error e => exact hres
  | ok fl =>
    cases fl with
    | ret obj =>
      obtain ⟨led, rfl, rfl⟩ := hres
      have hS : (s.heap.push { cls := .type "set", dict := none, data := .set #[] 0 (.fresh 0 0 led) }).get? s.heap.objs.size = some { cls := .type "set", dict := none, data := .set #[] 0 (.fresh 0 0 led) } := Heap.get?_push_size _ rfl
      have hT : Shared.TypeIs { s with heap := s.heap.push { cls := .type "set", dict := none, data := .set #[] 0 (.fresh 0 0 led) } } (.ref s.heap.objs.size) "set" := ⟨_, hS, rfl⟩
      have hli := F.called_set.init.lookup
      have hbi := F.called_set.init.bind (.ref s.heap.objs.size)
      repeat (any_goals (first | assumption | wp_step))
      refine codeAny_mono (codeAny_call_builtin (R := wants (fun q s₂ => q = .none ∧ ∃ h' tk, s₂ = { s with heap := h', toks := tk } ∧
          h'.SetOf (intKind prog w) s.heap.objs.size (fun k' => (firstMet (fun i => a + (i : Int)) n).any (· == k')) (firstMet (fun i => a + (i : Int)) n).length ∧
          (∀ b o, b < s.heap.objs.size → s.heap.get? b = some o → h'.get? b = some o)) E) F.called_set.init.plain F.entry_set_init (check_set_init_1 hT ?_)) fun r₂ s₂ hr₂ => ?_
      · have hol' : (s.heap.push { cls := .type "set", dict := none, data := .set #[] 0 (.fresh 0 0 led) }).get? r = some { cls := .type "range", dict := none, data := .fields #[.int a t, .int b u, .int 1 v], slots := #[] } := Heap.get?_push_of_some _ hr
        have hsls := F.sub_range_set
        have hslf := F.sub_range_frozenset
        have hne : (Value.type "range" == Value.type "dict") = false := by decide
        unfold Builtin.«set.__init__» noKeywords Builtin.Frozenset.updateFrom
        generalize hPI : pyIter = PI
        wp_walk
        subst hPI
        refine wpAny_pyIter_range hol' hsmall ?_
        refine wpAny_bind (wpAny_runValue ?_)
        have hh3 : A.in1.in1.in1.handled = none := by simp [hh]
        have hSf : s.heap.objs.size ∉ [(s.heap.push { cls := .type "set", dict := none, data := .set #[] 0 (.fresh 0 0 led) }).objs.size] := by
          rw [Heap.size_push]; simp only [List.mem_singleton]
          exact Nat.ne_of_lt (Nat.lt_succ_self _)
        refine codeAny_set_update_loopS ((Walks.range hh3 _ a 1 n).toS) s.heap.objs.size
          hSf (fun i => a + (i : Int)) (fun i v hv => by obtain ⟨t, e⟩ := hv; exact ⟨t, by rw [e, Int.mul_one]⟩) hb (n - 0) 0 _ (by omega) (Nat.zero_le _)
          ?hI ?hS0 ?hR
        case hI =>
          show IsRangeIter _ _ _ _ _
          rw [hn]
          refine Eq.trans (Heap.get?_push_size _ rfl) ?_
          simp
        case hS0 =>
          exact SetOf_congr ((setObjOf_fresh (knd := intKind prog w) led).setOf (Heap.get?_push_of_some _ hS) (by unfold scanBound; omega)) (fun _ => rfl) rfl
        case hR =>
          intro s' hm hS'
          obtain ⟨h', g', d', tk', os'⟩ := s'
          have eg : g' = s.gens := hm.gens
          have ed : d' = s.drawn := hm.drawn
          have eo : os' = s.os := hm.os
          subst eg; subst ed; subst eo
          show wpAny _ _ _ _ _ _
          refine wpAny_pure ?_
          show wpAny _ _ (ret Value.none) _ _ _
          refine wpAny_pure ⟨rfl, h', tk', rfl, hS', fun b o hb e => ?_⟩
          have hb1 : b ≠ s.heap.objs.size := Nat.ne_of_lt hb
          have hb2 : b ≠ (s.heap.push { cls := .type "set", dict := none, data := .set #[] 0 (.fresh 0 0 led) }).objs.size := by
            rw [Heap.size_push]; exact Nat.ne_of_lt (Nat.lt_succ_of_lt hb)
          exact hm.heap b o (by simp only [List.mem_cons, List.not_mem_nil, or_false, not_or]; exact ⟨hb1, hb2⟩) (Heap.get?_push_of_some _ (Heap.get?_push_of_some _ e))
      · cases r₂ with
        | error e => exact hr₂
        | ok fl₂ =>
          cases fl₂ with
          | ret q =>
            obtain ⟨rfl, h', tk, rfl, hS', hk'⟩ := hr₂
            repeat (any_goals (first | assumption | wp_step))
            exact h _ _ hS' hk'
          | _ => exact hr₂.elim
    | _ => exact hres.elim
end
end Mine

namespace Mine
local macro_rules | `(tactic| walk_at "call type:bytes") => `(tactic| k_extra "mine bytes")
theorem s4_ok : ∀ (w : World) (mean : ExcName → Option Value) (mg mb : Str → Option Value) (fa : Addr) (cd : Value) (h₀ : Heap) (L : Addr) (m : Str → Option Value) (s : Shared) (Q : Flow → Shared → Prop) (E : Value → Shared → Prop) (news : List (Addr × Obj)) (lo ln lr : Addr) (vs : List Value) (ns : List Int),
    Below callerA h₀ [] h₀ → Fr h₀ L s.heap m → (hd.heap_39 w.params).In h₀ → News h₀ L s.heap news → TopH mean mg mb h₀ →
    (lo, listOf vs.toArray 0) ∈ news → IntsAre vs ns → (∀ k ∈ ns, 0 ≤ k ∧ k < 256) → ns.length ≤ 71 →
    m (Str.ofString "octets") = some (.ref lo) → m (Str.ofString "numbers") = some (.ref ln) → m (Str.ofString "stretch") = some (.ref lr) →
    (∀ (h' : Heap) (tk' : Nat) (m' : Str → Option Value) (l' : Addr) (u : Tok) (n : Nat), Fr h₀ L h' m' → (∀ z, m' z = if z = Str.ofString "safes" then some (.ref l') else m z) → News h₀ L h' ((l', listOf #[.bytes (byteArr ns) u, .ref ln, .ref lr] n) :: news) → Go w fa cd L 5 Q E { s with heap := h', toks := tk' }) →
    Go w fa cd L 4 Q E s := by
  unfold Go
  k_fill
  intro w mean mg mb fa cd h₀ L m s Q E news lo ln lr vs ns B F X N T hl hi hb hlen e1 e2 e3 hret
  have F1' := fr_b [(Str.ofString "octets", .ref lo), (Str.ofString "numbers", .ref ln), (Str.ofString "stretch", .ref lr)] F (by simp [e1, e2, e3])
  have hkm : ∀ z, kstB m [(Str.ofString "octets", .ref lo), (Str.ofString "numbers", .ref ln), (Str.ofString "stretch", .ref lr)] z = m z := fun z => kstB_eq (by simp [e1, e2, e3]) fun _ => rfl
  clear F
  show wpAny _ _ (execs (_ :: lawBody.drop 5) _) _ _ _
  revert hret
  generalize lawBody.drop 5 = R
  intro hret
  refine wpAny_execs_cons ?_
  dsimp only [lawScope, lawFn, PySem.Challenge.pw_dm0085_01, List.getLast?, List.getLast]
  have hl' : (lo, ({ cls := .type "list", data := .seq vs.toArray 0 } : Obj)) ∈ news := hl
  have hvn := hi.length
  k_with "mine bytes" => (k_dflt (refine bytes_K (by k_asm) (by k_asm) (News.isList (by k_asm) hl') hi hb (by rw [PySem.sizeLine_eq]; omega) rfl ?_); intro h' t' k' F' N' b')
  k_steps
  k_with_none
  rename_i h9 F9 N9
  exact hret h9 _ _ _ _ _ F9 (fun z => by rw [← hkm z]) N9
end Mine

namespace Mine
section
variable {prog : Program} {w : World} {A : Around} {E : Value → Shared → Prop} {s : Shared} {h₀ : Heap} {L : Addr} {m : Str → Option Value} {news : List (Addr × Obj)}
theorem set_rangeN {r : Addr} {a b : Int} {t u v : Tok} {Q : Value → Shared → Prop} (F : Fr h₀ L s.heap m) (N : News h₀ L s.heap news)
    (hh : A.handled = none) (hr : (r, ({ cls := .type "range", data := .fields #[.int a t, .int b u, .int 1 v] } : Obj)) ∈ news) (ha : -2000000 < a) (hb : b < 4000000) (hab : b = a + 64)
    (h : ∀ (D : Addr) (h' : Heap) (tk : Nat) (o : Obj) (n : Nat), Fr h₀ L h' m → News h₀ L h' ((D, o) :: news) → o.SetObjOf (intKind prog w) (fun k => decide (a ≤ k ∧ k < b)) n → n < scanBound → Q (.ref D) { s with heap := h', toks := tk }) :
    wpAny (model prog w) A (call (.type "set") [.ref r]) Q E s := by
  refine call_set_range (n := 64) hh (N _ hr).1 (small_one (by omega) (by omega) (by omega) (by omega)) (by rw [rangeSize_one, if_pos (by omega)]; omega) (by decide) fun h' tk hS hk => ?_
  obtain ⟨F', o, N', ho⟩ := set_made F N hS hk
  rw [show (fun k' => (firstMet (fun i => a + (i : Int)) 64).any (· == k')) = (fun k => decide (a ≤ k ∧ k < b)) from funext fun k => (firstMet_any _ _ k).trans ((any_run a 64 k).trans (by rw [hab]; rfl))] at ho
  exact h _ h' tk o _ F' N' ho (by have := firstMet_length_le (fun i => a + (i : Int)) 64; unfold scanBound; omega)
end
local macro_rules | `(tactic| walk_at "call type:set") => `(tactic| k_extra "mine set")
local macro_rules | `(tactic| walk_at "call type:set cons nil") => `(tactic| k_extra "mine set")
theorem s5_ok : ∀ (w : World) (mean : ExcName → Option Value) (mg mb : Str → Option Value) (fa : Addr) (cd : Value) (h₀ : Heap) (L : Addr) (m : Str → Option Value) (s : Shared) (Q : Flow → Shared → Prop) (E : Value → Shared → Prop) (news : List (Addr × Obj)) (lo ln lr : Addr) (v1 v2 : List Value) (n1 n2 : List Int) (f : Int) (t1 t2 t3 : Tok),
    Below callerA h₀ [] h₀ → Fr h₀ L s.heap m → (hd.heap_39 w.params).In h₀ → News h₀ L s.heap news → TopH mean mg mb h₀ →
    (lo, listOf v1.toArray 0) ∈ news → IntsAre v1 n1 → n1.length ≤ 71 → (ln, listOf v2.toArray 0) ∈ news → IntsAre v2 n2 → n2.length < 72 →
    (lr, ({ cls := .type "range", data := .fields #[.int (f - 9) t1, .int (f + 55) t2, .int 1 t3] } : Obj)) ∈ news → -1000000 < f → f < 2000000 →
    m (Str.ofString "octets") = some (.ref lo) → m (Str.ofString "numbers") = some (.ref ln) → m (Str.ofString "stretch") = some (.ref lr) →
    (∀ (h' : Heap) (tk' : Nat) (m' : Str → Option Value) (l' : Addr) (n : Nat) (d0 d1 d2 : Addr) (o0 o1 o2 : Obj) (c0 c1 c2 : Nat), Fr h₀ L h' m' → (∀ z, m' z = if z = Str.ofString "members" then some (.ref l') else m z) →
      News h₀ L h' ((l', listOf #[.ref d0, .ref d1, .ref d2] n) :: (d2, o2) :: (d1, o1) :: (d0, o0) :: news) → c0 < scanBound → c1 < scanBound → c2 < scanBound →
      o0.SetObjOf (intKind prg w) (fun k => n1.any (· == k)) c0 → o1.SetObjOf (intKind prg w) (fun k => n2.any (· == k)) c1 → o2.SetObjOf (intKind prg w) (fun k => decide (f - 9 ≤ k ∧ k < f + 55)) c2 → Go w fa cd L 6 Q E { s with heap := h', toks := tk' }) →
    Go w fa cd L 5 Q E s := by
  unfold Go
  k_fill
  intro w mean mg mb fa cd h₀ L m s Q E news lo ln lr v1 v2 n1 n2 f t1 t2 t3 B F X N T hl1 hi1 hlen1 hl2 hi2 hlen2 hr hf1 hf2 e1 e2 e3 hret
  have F1' := fr_b [(Str.ofString "octets", .ref lo), (Str.ofString "numbers", .ref ln), (Str.ofString "stretch", .ref lr)] F (by simp [e1, e2, e3])
  have hkm : ∀ z, kstB m [(Str.ofString "octets", .ref lo), (Str.ofString "numbers", .ref ln), (Str.ofString "stretch", .ref lr)] z = m z := fun z => kstB_eq (by simp [e1, e2, e3]) fun _ => rfl
  clear F
  show wpAny _ _ (execs (_ :: lawBody.drop 6) _) _ _ _
  revert hret
  generalize lawBody.drop 6 = R
  intro hret
  refine wpAny_execs_cons ?_
  dsimp only [lawScope, lawFn, PySem.Challenge.pw_dm0085_01, List.getLast?, List.getLast]
  have hl1' : (lo, ({ cls := .type "list", data := .seq v1.toArray 0 } : Obj)) ∈ news := hl1
  have hl2' : (ln, ({ cls := .type "list", data := .seq v2.toArray 0 } : Obj)) ∈ news := hl2
  clear hl1 hl2
  k_with "mine set" => (refine Stop.here ?_)
  k_steps
  unfold Stop
  k_dflt (refine set_listN (by k_asm) (by k_asm) rfl (News.isList (by k_asm) hl1') hi1 (by unfold scanBound; omega) ?_)
  intro d0 h0 k0 o0 c0 F0 N0 S0 b0
  k_steps
  unfold Stop
  k_dflt (refine set_listN F0 N0 rfl (News.isList N0 (List.mem_cons_of_mem _ hl2')) hi2 (by unfold scanBound; omega) ?_)
  intro d1 h1 k1 o1 c1 F1 N1 S1 b1
  k_steps
  unfold Stop
  k_dflt (refine set_rangeN F1 N1 rfl (List.mem_cons_of_mem _ (List.mem_cons_of_mem _ hr)) (by omega) (by omega) (by omega) ?_)
  intro d2 h2 k2 o2 c2 F2 N2 S2 b2
  k_steps
  k_with_none
  rename_i h9 F9 N9
  exact hret h9 _ _ _ _ _ _ _ _ _ _ _ _ _ F9 (fun z => by rw [← hkm z]) N9 b0 b1 b2 S0 S1 S2
end Mine

namespace Mine
def makesD (K : Frag) (C : Addr) : Bool := match K.lookup C with
  | some ⟨_, _, .cls cd, sl⟩ => !cd.hasDel && (sl.toList[4]?).join == some (.builtin "dict.__new__") && !cd.mro.isEmpty && cd.mro.contains (.ref C) && cd.mro.contains (.type "dict") &&
      !(cd.mro.any fun | .type n => !["dict", "object", "collections.defaultdict", "collections.OrderedDict"].contains n | _ => false) && !cd.mro.contains (.type "collections.OrderedDict") &&
      specialIn K (.ref C) "__call__" == some (some (.builtin "type.__call__")) && instIn K (.ref C) (.type "type") == some true
  | _ => false
theorem makes31 (w : World) : makesD (hd.heap_39 w.params) 31 = true := by kernel_rfl
theorem find_init (w : World) : findIn (hd.heap_39 w.params) (.ref 31) (Str.ofString "__init__") = some (some (.builtin "dict.__init__")) := by kernel_rfl
structure MakesD (M : Model) (h : Heap) (C : Addr) : Prop where
  obj : ∃ oc od cd sl, h.get? C = some ⟨oc, od, .cls cd, sl⟩ ∧ cd.hasDel = false ∧ cd.mro.isEmpty = false ∧ (cd.mro.any fun | .type n => !["dict", "object", "collections.defaultdict", "collections.OrderedDict"].contains n | _ => false) = false
  made : Looks M h (Bind.madeBy (.ref C)) (some "dict.__new__")
  base : Looks M h (Bind.staticBase (.ref C)) (.ref C)
  self : Looks M h (isSubtype (.ref C) (.ref C)) true
  top : Looks M h (isSubtype (.ref C) (.type "dict")) true
  ord : Looks M h (isSubtype (.ref C) (.type "collections.OrderedDict")) false
  call : Looks M h (specialOf (.ref C) "__call__") (some (.builtin "type.__call__"))
  typ : Looks M h (isInstance (.ref C) (.type "type")) true
theorem makesD_of {K : Frag} {M : Model} {h : Heap} (X : K.In h) {C : Addr} (e : makesD K C = true) : MakesD M h C := by
  unfold makesD at e
  split at e
  · rename_i oc od cd sl ho
    simp only [Bool.and_eq_true, Bool.not_eq_true', beq_iff_eq] at e
    obtain ⟨⟨⟨⟨⟨⟨⟨⟨e2, e3⟩, e4⟩, e5⟩, e6⟩, e9⟩, e10⟩, e7⟩, e8⟩ := e
    have hc : clsIn K C = some cd := by unfold clsIn; rw [ho]
    have hm : Looks M h (mroOf (.ref C)) cd.mro := (looks_clsIn X hc).andThen .now
    obtain ⟨c, l, hl⟩ : ∃ c l, cd.mro = c :: l := by cases q : cd.mro with | nil => rw [q] at e4; cases e4 | cons c l => exact ⟨c, l, rfl⟩
    have made : Looks M h (Bind.madeBy (.ref C)) (some "dict.__new__") := by
      intro A Q E s k q
      unfold Bind.madeBy
      refine wpAny_bind (hm A _ E s k ?_)
      rw [hl, List.forIn_cons]
      refine wpAny_bind (wpAny_bind (wpAny_bind (wpAny_bind (wpAny_loadPart (k _ _ (X _ _ ho)) (wpAny_pure ?_)))))
      dsimp only
      rw [← Array.getElem?_toList, e3]
      exact wpAny_pure (wpAny_pure (wpAny_pure q))
    refine ⟨⟨oc, od, cd, sl, X _ _ ho, e2, e4, e9⟩, made, ?_, looks_mroIn X ?_, looks_mroIn X ?_, looks_mroIn X ?_, looks_specialIn X e7, looks_instIn X e8⟩
    · intro A Q E s k q
      unfold Bind.staticBase
      refine wpAny_bind (hm A _ E s k ?_)
      rw [hl, List.forIn_cons]
      exact wpAny_bind (wpAny_bind (wpAny_bind (made A _ E s k (wpAny_pure (wpAny_pure (wpAny_pure q))))))
    · unfold mroIn; rw [hc, Option.bind_some, if_neg (by rw [e4]; decide), e5]
    · unfold mroIn; rw [hc, Option.bind_some, if_neg (by rw [e4]; decide), e6]
    · unfold mroIn; rw [hc, Option.bind_some, if_neg (by rw [e4]; decide), e10]
  · cases e
abbrev tabObj (C dx : Addr) : Obj := { cls := .ref C, dict := some dx, data := .dict #[] }
theorem dn_quiet : ("dict.__new__" : String).startsWith "lifetime." = false := by decide +kernel
theorem dn_split : splitId "dict.__new__" = some ("dict", "__new__") := by decide +kernel
theorem dn_kind : builtinKind "dict.__new__" = some .builtinFn := by decide +kernel
theorem dn_row : Manifest.signature? "dict.__new__" = some ⟨.any, "dict", "dict", .cls, [⟨"args", .varPos, false⟩, ⟨"kwargs", .varKw, false⟩]⟩ := by kernel_rfl
theorem dn_args (C : Addr) : Bind.checkArgs "dict.__new__" ⟨.any, "dict", "dict", .cls, [⟨"args", .varPos, false⟩, ⟨"kwargs", .varKw, false⟩]⟩ ⟨[.ref C], []⟩ = pure () := by kernel_rfl
section
variable {prog : Program} {w : World} {A : Around} {K : Frag} {C : Addr} {R : Result → Shared → Prop} {h : Heap} {g : Array GenState} {d : Drawn} {t : Nat} {os : OsState}
theorem new_D (Y : MakesD (model prog w) h C)
    (hq : R (.ok (.ret (.ref (h.objs.size + 1)))) ⟨(h.push emptyDict).push (tabObj C h.objs.size), g, d, t, os⟩) :
    codeAny (model prog w) A (.call (.builtin "dict.__new__") ⟨[.ref C], []⟩) R ⟨h, g, d, t, os⟩ := by
  obtain ⟨⟨oc, od, cd, sl, hC, e2, e4, e9⟩, made, base, self, top, ord, call, typ⟩ := Y
  refine codeAny_call_builtin_code (Code.quiet_builtin _ dn_quiet) ?_
  simp only [checkBuiltinCall, dn_kind, dn_split, dn_row, dn_args]
  have hm : Looks (model prog w) h (mroOf (.ref C)) cd.mro := ((Looks.ld (part := none) hC).andThen .now).andThen .now
  repeat (first | simp only [bne_self_eq_false, Bool.false_eq_true, if_false] | lk)
  refine codeAny_builtin F.kt_entry_dict_new ?_
  unfold Builtin.«dict.__new__»
  repeat (first | simp only [Bool.not_true, Bool.false_eq_true, if_false] | lk)
  refine PySem.bm_if_false e9 ?_
  refine wpAny_bind (wpAny_alloc ?_)
  refine wpAny_bind ?_
  unfold newObj
  dsimp only
  rw [if_neg (by simp)]
  unfold newObjAsIs classHasDel
  refine wpAny_bind (wpAny_alloc (wpAny_bind (wpAny_bind (wpAny_load (Heap.get?_push_of_some _ (Heap.get?_push_of_some _ hC)) (wpAny_pure ?_)))))
  rw [e2]
  refine wpAny_pure (wpAny_pure ?_)
  show R _ _
  rw [Heap.size_push]
  exact hq
theorem init_bindD (self : Value) : bindSpecial (.builtin "dict.__init__") self = pure (.builtin "dict.__init__", [self]) := PySem.F.slot_dict_init.bind self
theorem di_kind : builtinKind "dict.__init__" = some .slot := by decide +kernel
theorem di_split : splitId "dict.__init__" = some ("dict", "__init__") := by decide +kernel
theorem di_args (a : Value) : argsOk "dict.__init__" ⟨[a], []⟩ := by unfold argsOk; kernel_rfl
theorem make_coreD (Y : MakesD (model prog w) h C) (hi : Looks (model prog w) h (typeLookup (.ref C) "__init__") (some (.builtin "dict.__init__")))
    (hq : R (.ok (.ret (.ref (h.objs.size + 1)))) ⟨(h.push emptyDict).push (tabObj C h.objs.size), g, d, t, os⟩) :
    codeAny (model prog w) A (.call (.ref C) ⟨[], []⟩) R ⟨h, g, d, t, os⟩ := by
  have Y' := Y
  obtain ⟨⟨oc, od, cd, sl, hC, e2, e4, e9⟩, made, base, self, top, ord, call, typ⟩ := Y
  refine codeAny_of_tree ?_
  show wpAny _ _ (callAny (.ref C) _) _ _ _
  refine nd_load hC ?_
  show wpAny _ _ (callAny.viaDunder (.ref C) _) _ _ _
  unfold callAny.viaDunder
  refine wpAny_bind (call.at ?_)
  dsimp only
  rw [tc_bind]
  refine wpAny_bind (wpAny_pure (wpAny_bind (wpAny_pure ?_)))
  refine wpAny_pure (a := Fin.again (.call (.builtin "type.__call__") ⟨[.ref C], []⟩)) (And.intro rfl ?_)
  refine codeAny_call_builtin_at (Code.quiet_builtin _ (by decide +kernel)) entry_typeCall (check_slot tc_kind tc_split typ (tc_args _ _ _) ?_)
  unfold Builtin.«type.__call__»
  have hm : Looks (model prog w) h (mroOf (.ref C)) cd.mro := ((Looks.ld (part := none) hC).andThen .now).andThen .now
  repeat (first | simp only [e4, Bool.false_eq_true, if_false] | with_reducible refine wpAny_call ?_ | lk)
  refine new_D Y' ?_
  have k : ∀ b o, h.get? b = some o → ((h.push emptyDict).push (tabObj C h.objs.size)).get? b = some o := fun b o e => Heap.get?_push_of_some _ (Heap.get?_push_of_some _ e)
  have hx : ((h.push emptyDict).push (tabObj C h.objs.size)).get? (h.objs.size + 1) = some (tabObj C h.objs.size) := by heap_get
  have t1 : Looks (model prog w) ((h.push emptyDict).push (tabObj C h.objs.size)) (typeOf (.ref (h.objs.size + 1))) (.ref C) := (Looks.ld hx).andThen .now
  have s1 := self.keeps k
  have i1 := hi.keeps k
  have b1 : Looks (model prog w) ((h.push emptyDict).push (tabObj C h.objs.size)) (bindSpecial (.builtin "dict.__init__") (.ref (h.objs.size + 1))) (.builtin "dict.__init__", [.ref (h.objs.size + 1)]) := Looks.of_pure (init_bindD _)
  have t2 : Looks (model prog w) ((h.push emptyDict).push (tabObj C h.objs.size)) (isInstance (.ref (h.objs.size + 1)) (.type "dict")) true := t1.andThen (top.keeps k)
  have t3 : Looks (model prog w) ((h.push emptyDict).push (tabObj C h.objs.size)) (isInstance (.ref (h.objs.size + 1)) (.type "collections.OrderedDict")) false := t1.andThen (ord.keeps k)
  unfold isInstance callSpecial? specialOf
  repeat (first | with_reducible refine wpAny_call ?_ | lk)
  refine codeAny_call_builtin PySem.F.slot_dict_init.plain PySem.F.entry_dict_init (check_slot di_kind di_split t2 (di_args _) ?_)
  unfold Builtin.«dict.__init__» Builtin.Dict.selfAndRest
  refine wpAny_bind ?_
  show wpAny _ _ (Builtin.Dict.notOrdered "__init__" ⟨[.ref (h.objs.size + 1)], []⟩ >>= _) _ _ _
  refine wpAny_bind ?_
  unfold Builtin.Dict.notOrdered
  rw [if_pos (by decide)]
  refine wpAny_bind (t1.here ?_)
  rw [if_pos (by rfl)]
  refine wpAny_bind (t3.here ?_)
  simp only [Bool.false_eq_true, if_false]
  refine wpAny_pure ?_
  show wpAny _ _ (pure (h.objs.size + 1, [])) _ _ _
  refine wpAny_pure ?_
  show wpAny _ _ (Builtin.Dict.addKeywords (h.objs.size + 1) [] >>= _) _ _ _
  refine wpAny_bind (wpAny_pure ?_)
  show wpAny _ _ (ret .none) _ _ _
  refine wpAny_pure ?_
  exact wpAny_pure (wpAny_pure hq)
theorem tab_made {s : Shared} {h₀ : Heap} {L : Addr} {m : Str → Option Value} {news : List (Addr × Obj)} {Q E : Value → Shared → Prop} (F : Fr h₀ L s.heap m) (N : News h₀ L s.heap news) (X : (hd.heap_39 w.params).In s.heap)
    (hq : ∀ x dx h', Fr h₀ L h' m → News h₀ L h' ((x, tabObj 31 dx) :: (dx, emptyDict) :: news) → (∀ p ∈ news, p.1 < dx) → dx < x → h₀.objs.size < dx → Q (.ref x) { s with heap := h' }) :
    wpAny (model prog w) A (call (.ref 31) []) Q E s := by
  obtain ⟨hh, g, d, t, os⟩ := s
  have N' := (N.push F emptyDict).push (F.push _) (tabObj 31 hh.objs.size)
  rw [Heap.size_push] at N'
  exact wpAny_call (make_coreD (makesD_of X (makes31 w)) (looks_findIn X (find_init w)) (hq _ _ _ ((F.push _).push _) N' (fun p hp => Heap.lt_size (N p hp).1) (Nat.lt_succ_self _) (Nat.lt_of_le_of_lt F.above F.ns.lt)))
end
end Mine

namespace Mine
local macro_rules | `(tactic| walk_at "call ref") => `(tactic| k_extra "mine call")
local macro_rules | `(tactic| walk_at "eval Call") => `(tactic| k_extra "mine ecall")
theorem s7_ok : ∀ (w : World) (mean : ExcName → Option Value) (mg mb : Str → Option Value) (fa : Addr) (cd : Value) (h₀ : Heap) (L : Addr) (m : Str → Option Value) (s : Shared) (Q : Flow → Shared → Prop) (E : Value → Shared → Prop) (news : List (Addr × Obj)),
    Below callerA h₀ [] h₀ → Fr h₀ L s.heap m → (hd.heap_39 w.params).In h₀ → News h₀ L s.heap news → TopH mean mg mb h₀ →
    (∀ (h' : Heap) (tk' : Nat) (m' : Str → Option Value) (l' : Addr) (n : Nat) (d0 d1 d2 x0 x1 x2 : Addr), Fr h₀ L h' m' → (∀ z, m' z = if z = Str.ofString "tables" then some (.ref l') else m z) →
      News h₀ L h' ((l', listOf #[.ref x0, .ref x1, .ref x2] n) :: (x2, tabObj 31 d2) :: (d2, emptyDict) :: (x1, tabObj 31 d1) :: (d1, emptyDict) :: (x0, tabObj 31 d0) :: (d0, emptyDict) :: news) → 
      d0 < x0 → x0 < d1 → d1 < x1 → x1 < d2 → d2 < x2 → (∀ p ∈ news, p.1 < d0) → h₀.objs.size < d0 → Go w fa cd L 8 Q E { s with heap := h', toks := tk' }) →
    Go w fa cd L 7 Q E s := by
  unfold Go
  k_fill
  intro w mean mg mb fa cd h₀ L m s Q E news B F X N T hret
  have F1' := fr_b [] F (by simp)
  have hkm : ∀ z, kstB m [] z = m z := fun z => kstB_eq (by simp) fun _ => rfl
  clear F
  show wpAny _ _ (execs (_ :: lawBody.drop 8) _) _ _ _
  revert hret
  generalize lawBody.drop 8 = R
  intro hret
  refine wpAny_execs_cons ?_
  dsimp only [lawScope, lawFn, PySem.Challenge.pw_dm0085_01, List.getLast?, List.getLast]
  k_with "mine call" => (refine Stop.here ?_)
  k_with "mine ecall" => (k_dflt (refine Call_ ?_))
  k_steps
  unfold Stop
  k_dflt (refine tab_made (m := kstB m []) (by k_asm) (by k_asm) (X.keeps (Fr.keep (by k_asm))) ?_)
  intro x0 d0 h0 F0 N0 a0 b0 g0
  k_steps
  unfold Stop
  k_dflt (refine tab_made F0 N0 (X.keeps (Fr.keep F0)) ?_)
  intro x1 d1 h1 F1 N1 a1 b1 g1
  k_steps
  unfold Stop
  k_dflt (refine tab_made F1 N1 (X.keeps (Fr.keep F1)) ?_)
  intro x2 d2 h2 F2 N2 a2 b2 g2
  k_steps
  k_with_none
  rename_i h9 F9 N9
  exact hret h9 _ _ _ _ _ _ _ _ _ _ F9 (fun z => by rw [← hkm z]) N9 b0 (a1 _ List.mem_cons_self) b1 (a2 _ List.mem_cons_self) b2 a0 g0
end Mine

namespace Mine
local macro_rules | `(tactic| walk_at "eval Dict") => `(tactic| k_extra "mine dict")
local macro_rules | `(tactic| walk_at "eval Dict nil nil") => `(tactic| k_extra "mine dict")
theorem s8_ok : ∀ (w : World) (mean : ExcName → Option Value) (mg mb : Str → Option Value) (fa : Addr) (cd : Value) (h₀ : Heap) (L : Addr) (m : Str → Option Value) (s : Shared) (Q : Flow → Shared → Prop) (E : Value → Shared → Prop) (news : List (Addr × Obj)),
    Below callerA h₀ [] h₀ → Fr h₀ L s.heap m → (hd.heap_39 w.params).In h₀ → News h₀ L s.heap news → TopH mean mg mb h₀ →
    (∀ (h' : Heap) (tk' : Nat) (m' : Str → Option Value) (l' : Addr) (n : Nat) (k0 k1 k2 : Addr) (o0 o1 o2 : Obj), Fr h₀ L h' m' → (∀ z, m' z = if z = Str.ofString "kept" then some (.ref l') else m z) →
      News h₀ L h' ((l', listOf #[.ref k0, .ref k1, .ref k2] n) :: (k2, o2) :: (k1, o1) :: (k0, o0) :: news) → 
      k0 < k1 → k1 < k2 → (∀ p ∈ news, p.1 < k0) → o0.IsDictOf (intKind prg w) [] → o1.IsDictOf (intKind prg w) [] → o2.IsDictOf (intKind prg w) [] → Go w fa cd L 9 Q E { s with heap := h', toks := tk' }) →
    Go w fa cd L 8 Q E s := by
  unfold Go
  k_fill
  intro w mean mg mb fa cd h₀ L m s Q E news B F X N T hret
  have hbig : h₀.NoLimit := Top.nolimit T
  have F1' := fr_b [] F (by simp)
  have hkm : ∀ z, kstB m [] z = m z := fun z => kstB_eq (by simp) fun _ => rfl
  clear F
  show wpAny _ _ (execs (_ :: lawBody.drop 9) _) _ _ _
  revert hret
  generalize lawBody.drop 9 = R
  intro hret
  refine wpAny_execs_cons ?_
  dsimp only [lawScope, lawFn, PySem.Challenge.pw_dm0085_01, List.getLast?, List.getLast]
  k_with "mine dict" => (refine Stop.here ?_)
  k_steps
  unfold Stop
  k_dflt (refine newDict_K (m := kstB m []) (by k_asm) (by k_asm) hbig ?_)
  intro k0 h0 o0 F0 N0 a0 _ _ _ i0 _
  k_steps
  unfold Stop
  k_dflt (refine newDict_K F0 N0 hbig ?_)
  intro k1 h1 o1 F1 N1 a1 _ _ _ i1 _
  k_steps
  unfold Stop
  k_dflt (refine newDict_K F1 N1 hbig ?_)
  intro k2 h2 o2 F2 N2 a2 _ _ _ i2 _
  k_steps
  k_with_none
  rename_i h9 F9 N9
  exact hret h9 _ _ _ _ _ _ _ _ _ _ F9 (fun z => by rw [← hkm z]) N9 (a1 _ List.mem_cons_self) (a2 _ List.mem_cons_self) a0 i0 i1 i2
end Mine

namespace Mine
local macro_rules | `(tactic| walk_at "exec For Name Call cons nil") => `(tactic| (k_here; (rename Fr _ _ _ _ => lF'); (with_unfolding_all refine' For_invVF lF' ?k1 ?k2 ?_; (case k1 => exact rfl); (case k2 => exact rfl); k_whole)))
local macro_rules | `(tactic| walk_at "pyIter ref") => `(tactic| k_extra "mine iter")
theorem s9_ok : ∀ (w : World) (mean : ExcName → Option Value) (mg mb : Str → Option Value) (D : Dat) (fa : Addr) (cd : Value) (h₀ : Heap) (L : Addr) (m : Str → Option Value) (s : Shared) (Q : Flow → Shared → Prop) (E : Value → Shared → Prop) (news : List (Addr × Obj)) (lk : Addr) (vs : List Value) (ns : List Int) (nn : Nat),
    Below callerA h₀ [] h₀ → Fr h₀ L s.heap m → (hd.heap_39 w.params).In h₀ → News h₀ L s.heap news → TopH mean mg mb h₀ → Apart D → Inv w D 0 0 0 news →
    (lk, listOf vs.toArray nn) ∈ news → IntsAre vs ns → (∀ k ∈ ns, -13999999999 < k ∧ k < 13999999999) → ns.length < 72 →
    m (Str.ofString "keys") = some (.ref lk) → m (Str.ofString "members") = some (.ref D.aMem) → m (Str.ofString "kept") = some (.ref D.aKept) → m (Str.ofString "tables") = some (.ref D.aTabs) → m (Str.ofString "safes") = some (.ref D.aSafes) →
    PassesOwn (model PySem.Challenge.rw_dm0085_01.row.prog w) (callerA.deeper (envOf (Str.ofString "law") lawScope L fa cd)) (envOf (Str.ofString "law") lawScope L fa cd) E →
    (∀ (h' : Heap) (tk' : Nat) (m' : Str → Option Value), Fr h₀ L h' m' → Q (.ret (.bool true)) { s with heap := h', toks := tk' }) →
    Go w fa cd L 9 Q E s := by
  unfold Go
  k_fill
  intro w mean mg mb D fa cd h₀ L m s Q E news lk vs ns nn B F X N T AP I hl hi hns hlen e2 e3 e4 e5 e6 hE hret
  dsimp only [lawBody, lawScope, lawFn, PySem.Challenge.pw_dm0085_01, List.getLast?, List.getLast, List.drop_succ_cons, List.drop_zero]
  k_with "mine iter" => (refine Stop.here ?_)
  k_steps
  unfold Stop
  k_dflt (refine turns_ok B (by k_asm) X (by k_asm) T AP I (by assumption) hl hi hns hlen e2 e3 e4 e5 e6 hE ?_)
  intro h1 tk1 m1 F1
  k_steps
  k_with_none
  exact hret _ _ _ F1
end Mine

namespace Mine
theorem pass {m m' : Str → Option Value} {n z : Str} {v : Value} {r : Option Value} (h : ∀ z, m' z = if z = n then some v else m z) (hz : z ≠ n) (e : m z = r) : m' z = r := by rw [h z, if_neg hz]; exact e
theorem here {m m' : Str → Option Value} {n : Str} {v : Value} (h : ∀ z, m' z = if z = n then some v else m z) : m' n = some v := by rw [h n, if_pos rfl]
theorem u8_eq {a b : Int} (ha : 0 ≤ a) (ha' : a < 256) (hb : 0 ≤ b) (hb' : b < 256) (h : a.toNat.toUInt8 = b.toNat.toUInt8) : a = b := by
  have h2 := congrArg UInt8.toNat h
  rw [Nat.toUInt8_eq, Nat.toUInt8_eq, UInt8.toNat_ofNat', UInt8.toNat_ofNat'] at h2
  omega
theorem bytes_any {ns : List Int} (hr : ∀ n ∈ ns, 0 ≤ n ∧ n < 256) {k : Int} (h0 : 0 ≤ k) (h1 : k < 256) : ns.any (· == k) = (byteArr ns).contains k.toNat.toUInt8 := by
  rw [Bool.eq_iff_iff]
  unfold byteArr
  simp only [List.any_eq_true, beq_iff_eq, List.contains_toArray, List.contains_eq_mem, List.mem_map, decide_eq_true_eq]
  constructor
  · rintro ⟨n, hn, rfl⟩; exact ⟨n, hn, rfl⟩
  · rintro ⟨n, hn, e⟩; exact ⟨n, hn, u8_eq (hr n hn).1 (hr n hn).2 h0 h1 e⟩
def pick3 {α : Sort u} (a b c : α) : Nat → α
  | 0 => a
  | 1 => b
  | _ => c
theorem pick3_0 {α : Sort u} (a b c : α) : pick3 a b c 0 = a := rfl
theorem pick3_1 {α : Sort u} (a b c : α) : pick3 a b c 1 = b := rfl
theorem pick3_2 {α : Sort u} (a b c : α) : pick3 a b c 2 = c := rfl
theorem pick_ne {a b c : Nat} (h1 : a < b) (h2 : b < c) : ∀ i j, i < 3 → j < 3 → i ≠ j → pick3 a b c i ≠ pick3 a b c j := by
  intro i j hi hj ne
  rcases (by omega : i = 0 ∨ i = 1 ∨ i = 2) with rfl | rfl | rfl <;> rcases (by omega : j = 0 ∨ j = 1 ∨ j = 2) with rfl | rfl | rfl <;>
    first | exact absurd rfl ne | (simp only [pick3_0, pick3_1, pick3_2]; omega)
theorem pick_ap {a b c p q r : Nat} (h : (a ≠ p ∧ a ≠ q ∧ a ≠ r) ∧ (b ≠ p ∧ b ≠ q ∧ b ≠ r) ∧ (c ≠ p ∧ c ≠ q ∧ c ≠ r)) : ∀ i j, i < 3 → j < 3 → pick3 a b c i ≠ pick3 p q r j := by
  intro i j hi hj
  rcases (by omega : i = 0 ∨ i = 1 ∨ i = 2) with rfl | rfl | rfl <;> rcases (by omega : j = 0 ∨ j = 1 ∨ j = 2) with rfl | rfl | rfl <;>
    (simp only [pick3_0, pick3_1, pick3_2]; omega)
theorem pick_sys {a b c z : Nat} (h1 : z < a) (h2 : z < b) (h3 : z < c) : ∀ i, i < 3 → (pick3 a b c i == z) = false := by
  intro i hi
  rcases (by omega : i = 0 ∨ i = 1 ∨ i = 2) with rfl | rfl | rfl <;> refine beq_eq_false_iff_ne.mpr ?_ <;> (simp only [pick3_0, pick3_1, pick3_2]; omega)
theorem apart_of {lm lp lt ls n5 n8 n7 n4 : Nat} {sd : Nat → Addr} {sv : Nat → Value} {S : Nat → Int → Bool} {d0 d1 d2 x0 x1 x2 k0 k1 k2 z : Nat} (hz : sysModules = z) (g0 : z < d0) (g1 : d0 < x0) (g2 : x0 < d1) (g3 : d1 < x1) (g4 : x1 < d2) (g5 : d2 < x2) (g6 : x2 < k0) (g7 : k0 < k1) (g8 : k1 < k2) :
    Apart ⟨lm, lp, lt, ls, n5, n8, n7, n4, sd, pick3 k0 k1 k2, pick3 x0 x1 x2, pick3 d0 d1 d2, sv, S⟩ := by
  refine ⟨pick_ne g7 g8, pick_ne (by omega) (by omega), pick_ap (by omega), pick_ne (by omega) (by omega), fun i j hi hj => pick_ap (by omega) j i hj hi, fun i j hi hj => pick_ap (by omega) j i hj hi, ?_, ?_⟩
  · rw [hz]; exact pick_sys (by omega) (by omega) (by omega)
  · rw [hz]; exact pick_sys (by omega) (by omega) (by omega)
theorem kobj_nil {w : World} {o : Obj} (h : o.IsDictOf (intKind prg w) []) : KObj w o [] := ⟨[], h, fun _ hp => (nomatch hp), rfl⟩
theorem tobj_nil {w : World} {dx : Addr} : TObj w (tabObj 31 dx) dx [] := ⟨#[], 0, [], rfl, fun e he => absurd he (by simp), .nil, List.nodup_nil, fun _ hp => (nomatch hp), rfl⟩
theorem safeD_nil : SafeD emptyDict := .inl rfl
theorem law_ok {w : World} {mean : ExcName → Option Value} {mg mb : Str → Option Value} {fa : Addr} {cd : Value} {h₀ : Heap} {L : Addr} {m : Str → Option Value} {s : Shared} {Q : Flow → Shared → Prop} {E : Value → Shared → Prop} {sc : Addr} {vs : List Value} {ns : List Int}
    (B : Below callerA h₀ [] h₀) (F : Fr h₀ L s.heap m) (X : (hd.heap_39 w.params).In h₀) (T : TopH mean mg mb h₀) (hL : h₀.IsList sc vs.toArray) (hi : IntsAre vs ns) (hlen : ns.length ≤ 63)
    (e : m (Str.ofString "script") = some (.ref sc))
    (hE : PassesOwn (model PySem.Challenge.rw_dm0085_01.row.prog w) (callerA.deeper (envOf (Str.ofString "law") lawScope L fa cd)) (envOf (Str.ofString "law") lawScope L fa cd) E)
    (hret : ∀ (h' : Heap) (tk' : Nat) (m' : Str → Option Value), Fr h₀ L h' m' → Q (.ret (.bool true)) { s with heap := h', toks := tk' }) :
    Go w fa cd L 0 Q E s := by
  have hsys : sysModules < h₀.objs.size := modules_low (Top.nolimit T)
  refine s0_ok w mean mg mb fa cd h₀ L m s Q E [] sc vs ns B F X .nil T hL hi hlen e ?_
  intro h0 tk0 m0 f tf F0 z0 N0 hf1 hf2
  refine s1_ok w mean mg mb fa cd h₀ L m0 _ Q E [] sc vs ns B F0 X N0 T hL hi hlen (pass z0 (by decide) e) ?_
  intro h1 tk1 m1 lo v1 n1 F1 z1 N1 i1 r1 c1
  refine s2_ok w mean mg mb fa cd h₀ L m1 _ Q E _ sc vs ns B F1 X N1 T hL hi hlen (pass z1 (by decide) (pass z0 (by decide) e)) ?_
  intro h2 tk2 m2 ln v2 n2 F2 z2 N2 i2 r2 c2
  refine s3_ok w mean mg mb fa cd h₀ L m2 _ Q E _ f tf B F2 X N2 T hf1 hf2 (pass z2 (by decide) (pass z1 (by decide) (here z0))) ?_
  intro h3 tk3 m3 lr ta tb tc F3 z3 N3
  refine s4_ok w mean mg mb fa cd h₀ L m3 _ Q E _ lo ln lr v1 n1 B F3 X N3 T (by simp) i1 r1 c1 (pass z3 (by decide) (pass z2 (by decide) (here z1))) (pass z3 (by decide) (here z2)) (here z3) ?_
  intro h4 tk4 m4 ls u4 n4 F4 z4 N4
  refine s5_ok w mean mg mb fa cd h₀ L m4 _ Q E _ lo ln lr v1 v2 n1 n2 f ta tb tc B F4 X N4 T (by simp) i1 c1 (by simp) i2 c2 (by simp) hf1 hf2 (pass z4 (by decide) (pass z3 (by decide) (pass z2 (by decide) (here z1)))) (pass z4 (by decide) (pass z3 (by decide) (here z2))) (pass z4 (by decide) (here z3)) ?_
  intro h5 tk5 m5 lm n5 e0 e1 e2 p0 p1 p2 q0 q1 q2 F5 z5 N5 b0 b1 b2 S0 S1 S2
  refine s6_ok w mean mg mb fa cd h₀ L m5 _ Q E _ sc vs ns B F5 X N5 T hL hi hlen (pass z5 (by decide) (pass z4 (by decide) (pass z3 (by decide) (pass z2 (by decide) (pass z1 (by decide) (pass z0 (by decide) e)))))) ?_
  intro h6 tk6 m6 lk v6 n6 F6 z6 N6 i6 r6 c6
  refine s7_ok w mean mg mb fa cd h₀ L m6 _ Q E _ B F6 X N6 T ?_
  intro h7 tk7 m7 lt n7 d0 d1 d2 x0 x1 x2 F7 z7 N7 g1 g2 g3 g4 g5 g6 g0
  refine s8_ok w mean mg mb fa cd h₀ L m7 _ Q E _ B F7 X N7 T ?_
  intro h8 tk8 m8 lp n8 k0 k1 k2 o0 o1 o2 F8 z8 N8 y1 y2 y3 D0 D1 D2
  have l2 : x2 < k0 := y3 (x2, tabObj 31 d2) (by simp)
  have t3 : ∀ i, i < 3 → i = 0 ∨ i = 1 ∨ i = 2 := fun i hi => by omega
  refine s9_ok w mean mg mb ⟨lm, lp, lt, ls, n5, n8, n7, n4, pick3 e0 e1 e2, pick3 k0 k1 k2, pick3 x0 x1 x2, pick3 d0 d1 d2, pick3 (.bytes (byteArr n1) u4) (.ref ln) (.ref lr), pick3 (fun k => (byteArr n1).contains k.toNat.toUInt8) (fun k => n2.any (· == k)) (fun k => decide (f - 9 ≤ k ∧ k < f + 55))⟩
    fa cd h₀ L m8 _ Q E _ lk v6 n6 0 B F8 X N8 T ?ap ?inv (by simp) i6 r6 c6 (pass z8 (by decide) (pass z7 (by decide) (here z6))) (pass z8 (by decide) (pass z7 (by decide) (pass z6 (by decide) (here z5)))) (here z8) (pass z8 (by decide) (here z7)) (pass z8 (by decide) (pass z7 (by decide) (pass z6 (by decide) (pass z5 (by decide) (here z4))))) hE ?ret
  case ret => exact fun h' tk' m' F' => hret h' tk' m' F'
  case ap => exact apart_of rfl (Nat.lt_trans hsys g0) g1 g2 g3 g4 g5 l2 y1 y2
  case inv =>
    refine ⟨?_, ?_, ?_, ?_, ?_, ?_, ?_⟩
    · simp [pick3_0, pick3_1, pick3_2]
    · simp [pick3_0, pick3_1, pick3_2]
    · simp [pick3_0, pick3_1, pick3_2]
    · simp [pick3_0, pick3_1, pick3_2]
    · intro j hj
      rcases t3 j hj with rfl | rfl | rfl
      · exact ⟨p0, _, q0, by simp [pick3_0, pick3_1, pick3_2], S0, b0, fun k hk => bytes_any r1 (hk rfl).1 (hk rfl).2⟩
      · exact ⟨p1, _, q1, by simp [pick3_0, pick3_1, pick3_2], S1, b1, fun k _ => rfl⟩
      · exact ⟨p2, _, q2, by simp [pick3_0, pick3_1, pick3_2], S2, b2, fun k _ => rfl⟩
    · intro i hi
      rcases t3 i hi with rfl | rfl | rfl
      · exact ⟨o0, tabObj 31 d0, emptyDict, [], by simp [pick3_0, pick3_1, pick3_2], by simp [pick3_0, pick3_1, pick3_2], by simp [pick3_0, pick3_1, pick3_2], kobj_nil D0, tobj_nil, safeD_nil, fun h => absurd h (Nat.not_lt_zero _), Nat.le_refl _, fun _ hp => (nomatch hp)⟩
      · exact ⟨o1, tabObj 31 d1, emptyDict, [], by simp [pick3_0, pick3_1, pick3_2], by simp [pick3_0, pick3_1, pick3_2], by simp [pick3_0, pick3_1, pick3_2], kobj_nil D1, tobj_nil, safeD_nil, fun h => absurd h (Nat.not_lt_zero _), Nat.le_refl _, fun _ hp => (nomatch hp)⟩
      · exact ⟨o2, tabObj 31 d2, emptyDict, [], by simp [pick3_0, pick3_1, pick3_2], by simp [pick3_0, pick3_1, pick3_2], by simp [pick3_0, pick3_1, pick3_2], kobj_nil D2, tobj_nil, safeD_nil, fun h => absurd h (Nat.not_lt_zero _), Nat.le_refl _, fun _ hp => (nomatch hp)⟩
    · intro j hj
      rcases t3 j hj with rfl | rfl | rfl
      · exact .octets (byteArr n1) u4
      · exact .list ln v2 n2 0 (by show _ ∈ _; simp) i2
      · exact .range lr (f - 9) (f + 55) ta tb tc (by show _ ∈ _; simp)
end Mine

namespace Mine
theorem fin : PySem.Challenge.rw_dm0085_01.Holds := by
  refine hd ?_
  k_go0
  refine law_ok (by assumption) (by assumption) (by assumption) (by assumption) (by assumption) (by assumption) ?_ ?_ ?_ ?_
  · omega
  · rfl
  · passes_own
  · intro h' tk' m' F'
    k_steps
end Mine

theorem PySem.Challenge.cw_dm0085_01_holds : PySem.Challenge.rw_dm0085_01.Holds := by
  exact Mine.fin
