import PyProof.Rows.All
import Wide.All
import OpenK.AllK
import Wide.FinOn
import PyProof.FactsTree
import PyProof.TableTree
import Lean
import PySem.Challenge.RW_bf0061_02
open PySem PySem.W PyProof.Rows
set_option Elab.async false
namespace Mine
set_option maxRecDepth 100000 in
set_option maxHeartbeats 8000000 in
open_top hd for PySem.Challenge.rw_bf0061_02
open PySem.Calls PySem.Spec
set_option maxRecDepth 100000
local macro_rules | `(tactic| walk_at $s:str) => `(tactic| k_extra $s)
section
abbrev Led := List (Addr × Obj)
noncomputable abbrev LO : List PySem.Str := looseW hd.view_39 [Str.ofString "_plain_int_re", Str.ofString "parse_range_header", Str.ofString "parse_content_range_header"]
/-- a call of the def at f, from a def's frame, gives back a value and a ledger of which Out holds -/
def Ctr (n : Nat) (w : World) (mean : ExcName → Option Value) (mg mb : PySem.Str → Option Value) (f : Addr) (vs : List Value) (news : Led) (Out : Led → Value → Prop) : Prop :=
  ∀ (dp un : Nat) (gd : Option (List Code)) (cn : PySem.Str) (cs : Scope) (a : Addr) (ccd : Value) (cl : List (PySem.Str × Addr)) (outer : List Env) (A₀ : Around) (base h₀ : Heap) (L : Addr) (m : PySem.Str → Option Value) (s : Shared) (Q E : Value → Shared → Prop),
    Below A₀ base outer h₀ → Fr h₀ L s.heap m → (hd.heap_39 w.params).In h₀ → News h₀ L s.heap news → Top hd.view_39 LO mean mg mb h₀ → cs.kind = .function →
    dp + 8 * n < recursionLimit → un + 80 * n < cLine →
    (∀ r news' h' tk', Out news' r → Fr h₀ L h' m → News h₀ L h' news' → Q r { s with heap := h', toks := tk' }) →
      wpAny (model PySem.Challenge.rw_bf0061_02.row.prog w) (ktrTop dp un gd cn cs L a ccd cl outer) (call (.ref f) vs) Q E s
theorem ctr_use {n : Nat} {w : World} {mean : ExcName → Option Value} {mg mb : PySem.Str → Option Value} {f : Addr} {vs : List Value} {news : Led} {Out : Led → Value → Prop}
  {dp un : Nat} {gd : Option (List Code)} {cn : PySem.Str} {cs : Scope} {a : Addr} {ccd : Value} {cl : List (PySem.Str × Addr)} {outer : List Env} {A₀ : Around} {base h₀ : Heap} {L : Addr} {m : PySem.Str → Option Value} {s : Shared} {Q E : Value → Shared → Prop}
  (C : Ctr n w mean mg mb f vs news Out)
  (B : Below A₀ base outer h₀) (F : Fr h₀ L s.heap m) (X : (hd.heap_39 w.params).In h₀) (N : News h₀ L s.heap news) (T : Top hd.view_39 LO mean mg mb h₀) (hk : cs.kind = .function)
  (hd : dp + 8 * n < recursionLimit) (hu : un + 80 * n < cLine)
  (ret : ∀ r news' h' tk', Out news' r → Fr h₀ L h' m → News h₀ L h' news' → Q r { s with heap := h', toks := tk' }) :
  wpAny (model PySem.Challenge.rw_bf0061_02.row.prog w) (ktrTop dp un gd cn cs L a ccd cl outer) (call (.ref f) vs) Q E s :=
  C dp un gd cn cs a ccd cl outer A₀ base h₀ L m s Q E B F X N T hk hd hu ret
/-- the same, from the law's own frame alone (a def that catches wants it so) -/
def CtrL (n : Nat) (w : World) (mean : ExcName → Option Value) (mg mb : PySem.Str → Option Value) (f : Addr) (vs : List Value) (news : Led) (Out : Led → Value → Prop) : Prop :=
  ∀ (dp un : Nat) (gd : Option (List Code)) (cn : PySem.Str) (cs : Scope) (a : Addr) (ccd : Value) (A₀ : Around) (base h₀ : Heap) (L : Addr) (m : PySem.Str → Option Value) (s : Shared) (Q E : Value → Shared → Prop),
    Below A₀ base [] h₀ → (hd.heap_39 w.params).In base → Top hd.view_39 LO mean mg mb base → Fr h₀ L s.heap m → (hd.heap_39 w.params).In h₀ → News h₀ L s.heap news → Top hd.view_39 LO mean mg mb h₀ → cs.kind = .function →
    dp + 8 * n < recursionLimit → un + 80 * n < cLine →
    (∀ r news' h' tk', Out news' r → Fr h₀ L h' m → News h₀ L h' news' → Q r { s with heap := h', toks := tk' }) →
      wpAny (model PySem.Challenge.rw_bf0061_02.row.prog w) { handled := none, depth := dp, frames := some [envOf cn cs L a ccd], guards := gd, units := un } (call (.ref f) vs) Q E s
theorem upd_tail1 {D S : Addr} {o o' tup : Obj} {news news' : Led} (l : ∀ p ∈ news, p.1 < D) (hm : (S, o) ∈ news) (U : Upd S o o' news news') : Upd S o o' ((D, tup) :: news) ((D, tup) :: news') :=
  .tail (Ne.symm (Nat.ne_of_lt (l _ hm))) U
/-- a ledger that holds the law's state, told by the state's second place -/
structure St (S Nm : Addr) (vs : List Value) (sn nn : Nat) (NF : Int → Tok → Led) : Prop where
  s : ∀ k t, (S, listOf (List.toArray [Value.ref Nm, Value.int k t]) sn) ∈ NF k t
  n : ∀ k t, (Nm, listOf vs.toArray nn) ∈ NF k t
  u : ∀ k t k' t', Upd S (listOf (List.toArray [Value.ref Nm, Value.int k t]) sn) (listOf (List.toArray [Value.ref Nm, Value.int k' t']) sn) (NF k t) (NF k' t')
theorem St.cons {S Nm : Addr} {vs : List Value} {sn nn : Nat} {NF : Int → Tok → Led} (H : St S Nm vs sn nn NF) {D : Addr} {o : Obj} (h : S ≠ D) : St S Nm vs sn nn (fun k t => (D, o) :: NF k t) :=
  ⟨fun k t => .tail _ (H.s k t), fun k t => .tail _ (H.n k t), fun k t k' t' => .tail (Ne.symm h) (H.u k t k' t')⟩
end
section
theorem set_at1 {prog : Program} {w : World} {A : Around} {E : Value → Shared → Prop} {s : Shared} {h₀ : Heap} {L S D : Addr} {m : PySem.Str → Option Value} {news : Led} {news' : Tok → Led} {tup no : Obj} {Nm : Addr} {v0 v1 : Value} {x : Int} {t u : Tok} {sn : Nat} {Q : Unit → Shared → Prop}
    (U : ∀ t', Upd S (listOf (List.toArray [v0, v1]) sn) (listOf (List.toArray [v0, Value.int x t']) sn) news (news' t'))
    (hm : (S, listOf (List.toArray [v0, v1]) sn) ∈ news) (l : ∀ p ∈ news, p.1 < D) (F : Fr h₀ L s.heap m) (N : News h₀ L s.heap ((D, tup) :: news))
    (hN : ∀ t', (Nm, no) ∈ news' t')
    (h : ∀ h', Fr h₀ L h' m → News h₀ L h' ((D, tup) :: news' t) → (Nm, no) ∈ news' t → Q () { s with heap := h' }) :
    wpAny (model prog w) A (setItem (.ref S) (.int 1 u) (.int x t)) Q E s :=
  ki_set (k := 1) (q := [v0, Value.int x t]) F N (by decide) (by decide) rfl (upd_tail1 l hm (U t)) fun h' a b => h h' a b (hN t)
theorem one_add_fdiv_ne {a b : Int} (ha : 0 ≤ a) (hb : 0 < b) : 1 + a.fdiv b ≠ 0 := by
  have := Int.fdiv_nonneg ha (Int.le_of_lt hb)
  omega
theorem fdiv_turn {prog : Program} {w : World} {A : Around} {E : Value → Shared → Prop} {s : Shared} {a k n : Int} {t u : Tok} {Q : Value → Shared → Prop} (hk : 0 ≤ k) (hk2 : k ≤ 100) (hn : 0 < n)
    (h : Q (.int (a.fdiv (1 + k.fdiv n)) s.toks) { s with toks := s.toks + 1 }) : wpAny (model prog w) A (binaryOp .FloorDiv (.int a t) (.int (1 + k.fdiv n) u)) Q E s := by
  have h1 := Int.fdiv_nonneg hk (Int.le_of_lt hn)
  have h2 : k.fdiv n ≤ k := by
    rw [Int.fdiv_eq_ediv_of_nonneg _ (Int.le_of_lt hn)]
    exact Int.ediv_le_self n hk
  exact floordiv_int (by omega) h (Or.inl (PyProof.noPylong_small (by omega)))
theorem fmod_nn {a b : Int} (hb : 0 < b) : 0 ≤ a.fmod b := Int.fmod_nonneg_of_pos a hb
theorem fmod_lt {a b : Int} (hb : 0 < b) : a.fmod b < b := Int.fmod_lt_of_pos a hb
theorem len_led {prog : Program} {w : World} {A : Around} {E : Value → Shared → Prop} {s : Shared} {h₀ : Heap} {L l : Addr} {news : Led} {vs : List Value} {ns : List Int} {nn : Nat} {Q : Value → Shared → Prop}
    (N : News h₀ L s.heap news) (hm : (l, listOf vs.toArray nn) ∈ news) (hv : IntsAre vs ns) (h30 : ns.length ≤ 30) (h : ∀ t k, Q (.int (ns.length : Int) t) { s with toks := k }) :
    wpAny (model prog w) A (call (.builtin "len") [.ref l]) Q E s := by
  have e : (vs.toArray.size : Int) = (ns.length : Int) := by rw [List.size_toArray, hv.length]
  refine len_list (News.isList N hm) (by rw [e]; omega) ?_
  rw [e]
  exact h _ _
local macro_rules | `(tactic| k_mem) => `(tactic| (k_dflt assumption))
local macro_rules | `(tactic| news_mem) => `(tactic| k_mem)
set_option maxHeartbeats 4000000 in
theorem next_ctr (w : World) (mean : ExcName → Option Value) (mg mb : PySem.Str → Option Value) {S Nm : Addr} {vs : List Value} {sn nn : Nat} {NF : Int → Tok → Led} (H : St S Nm vs sn nn NF) {ns : List Int} (k : Int) (t tm : Tok) (many : Int)
   (hv : IntsAre vs ns) (h3 : 3 ≤ ns.length) (h30 : ns.length ≤ 30) (hk : 0 ≤ k) (hk2 : k ≤ 100) (hm : 0 < many) :
   Ctr 1 w mean mg mb 208 [.ref S, .int many tm] (NF k t) (fun nw r => ∃ t' x tx, nw = NF (k + 1) t' ∧ r = .int x tx ∧ 0 ≤ x ∧ x < many) := by
  k_with_none
  w_top off
  k_with "call builtin:len" => (k_here; k_dflt (refine len_led (by k_asm) (by k_mem) (by assumption) (by assumption) ?_); intro t9 k9)
  k_with "binaryOp FloorDiv int int" => (k_here; (first | (with_reducible refine fdiv_turn (by omega) (by omega) (by omega) ?_) | (with_reducible refine floordiv_int (by omega) ?_)))
  k_with "binaryOp Mod int int" => (k_here; k_dflt (refine mod_int' (by omega) ?_))
  k_with "setItem ref int" => (k_here; (rename (∀ t', Upd _ _ _ _ _) => hU9); (rename (∀ t', (_, _) ∈ _) => hN9); k_dflt (refine set_at1 hU9 (by assumption) (by assumption) (by k_asm) (by k_asm) hN9 ?_); intro h' F' N' hM9)
  have hS := H.s k t
  have hN := H.n k t
  have U := fun t' => H.u k t (k + 1) t'
  have hN' := fun t' => H.n (k + 1) t'
  clear H
  unfold Ctr
  dsimp only [LO]
  k_fill
  intros
  rename_i hret
  refine wpAny_call ?_
  k_dflt cell_enter
  (repeat' (first | (k_unfold; (try dsimp only)) | walk1 | (dsimp only; walk1)))
  rename News _ _ _ (_ :: NF _ _) => kN9
  exact hret _ (NF _ _) _ _ ⟨_, _, _, rfl, rfl, fmod_nn hm, fmod_lt hm⟩ (by k_asm) (cb_drop kN9 (fun p hp => .tail _ hp))
end
section
section
variable {prog : Program} {w : World} {A : Around} {E : Value → Shared → Prop} {s : Shared} {h₀ : Heap} {L l : Addr} {news : Led}
theorem strs_get : ∀ {vs : List Value} {xs : List PySem.Str}, StrsAre vs xs → ∀ j : Nat, j < xs.length → ∃ x t, vs[j]? = some (.str x t) ∧ x ∈ xs
  | _, _, .cons y t _, 0, _ => ⟨y, t, rfl, .head _⟩
  | _, _, .cons _ _ r, j + 1, h => by
    obtain ⟨x, t, e, m⟩ := strs_get r j (by simpa using h)
    exact ⟨x, t, by simpa using e, .tail _ m⟩
theorem item_strsM {value slice : PySem.Expr} {vs : List Value} {xs : List PySem.Str} {nn : Nat} {k : Int} {u : Tok} {Q : Value → Shared → Prop} (N : News h₀ L s.heap news) (hm : (l, listOf vs.toArray nn) ∈ news) (hx : StrsAre vs xs)
    (h0 : 0 ≤ k) (h1 : k < xs.length) (hfit : k < 2 ^ 63) (hl : ∀ x ∈ xs, x.length ≤ 40) (h : ∀ x t, x ∈ xs → x.length ≤ 40 → Q (.str x t) s)
    (hs : subscripted slice false (.ref l) (.int k u) = operate [.ref l, .int k u] (getItem (.ref l) (.int k u)) := by with_unfolding_all rfl) :
    wpAny (model prog w) A (subscriptTail value slice (.ref l) (.int k u)) Q E s := by
  obtain ⟨x, t, e, m⟩ := strs_get hx k.toNat (by omega)
  exact item_litK (News.isList N hm) h0 hfit e (h x t m (hl x m)) hs
theorem ints_get : ∀ {vs : List Value} {xs : List Int}, IntsAre vs xs → ∀ j : Nat, j < xs.length → ∃ x t, vs[j]? = some (.int x t) ∧ x ∈ xs
  | _, _, .cons y t _, 0, _ => ⟨y, t, rfl, .head _⟩
  | _, _, .cons _ _ r, j + 1, h => by
    obtain ⟨x, t, e, m⟩ := ints_get r j (by simpa using h)
    exact ⟨x, t, by simpa using e, .tail _ m⟩
theorem item_intsM {value slice : PySem.Expr} {vs : List Value} {xs : List Int} {nn : Nat} {k : Int} {u : Tok} {b : Int} {Q : Value → Shared → Prop} (N : News h₀ L s.heap news) (hm : (l, listOf vs.toArray nn) ∈ news) (hx : IntsAre vs xs)
    (h0 : 0 ≤ k) (h1 : k < xs.length) (hfit : k < 2 ^ 63) (hb : ∀ x ∈ xs, 0 ≤ x ∧ x < b) (h : ∀ x t, 0 ≤ x → x < b → Q (.int x t) s)
    (hs : subscripted slice false (.ref l) (.int k u) = operate [.ref l, .int k u] (getItem (.ref l) (.int k u)) := by with_unfolding_all rfl) :
    wpAny (model prog w) A (subscriptTail value slice (.ref l) (.int k u)) Q E s := by
  obtain ⟨x, t, e, m⟩ := ints_get hx k.toNat (by omega)
  exact item_litK (News.isList N hm) h0 hfit e (h x t (hb x m).1 (hb x m).2) hs
theorem item_strsD {value slice : PySem.Expr} {vs : List Value} {xs : List PySem.Str} {nn : Nat} {k : Int} {u : Tok} {Q : Value → Shared → Prop} (N : News h₀ L s.heap ((l, listOf vs.toArray nn) :: news)) (hx : StrsAre vs xs)
    (h0 : 0 ≤ k) (h1 : k < xs.length) (hfit : k < 2 ^ 63) (hl : ∀ x ∈ xs, x.length ≤ 40) (h : ∀ x t, x ∈ xs → x.length ≤ 40 → News h₀ L s.heap news → Q (.str x t) s)
    (hs : subscripted slice false (.ref l) (.int k u) = operate [.ref l, .int k u] (getItem (.ref l) (.int k u)) := by with_unfolding_all rfl) :
    wpAny (model prog w) A (subscriptTail value slice (.ref l) (.int k u)) Q E s :=
  item_strsM N (.head _) hx h0 h1 hfit hl (fun x t a b => h x t a b fun p hp => N p (.tail _ hp)) hs
theorem item_intsD {value slice : PySem.Expr} {vs : List Value} {xs : List Int} {nn : Nat} {k : Int} {u : Tok} {b : Int} {Q : Value → Shared → Prop} (N : News h₀ L s.heap ((l, listOf vs.toArray nn) :: news)) (hx : IntsAre vs xs)
    (h0 : 0 ≤ k) (h1 : k < xs.length) (hfit : k < 2 ^ 63) (hb : ∀ x ∈ xs, 0 ≤ x ∧ x < b) (h : ∀ x t, 0 ≤ x → x < b → News h₀ L s.heap news → Q (.int x t) s)
    (hs : subscripted slice false (.ref l) (.int k u) = operate [.ref l, .int k u] (getItem (.ref l) (.int k u)) := by with_unfolding_all rfl) :
    wpAny (model prog w) A (subscriptTail value slice (.ref l) (.int k u)) Q E s :=
  item_intsM N (.head _) hx h0 h1 hfit hb (fun x t a b => h x t a b fun p hp => N p (.tail _ hp)) hs
theorem len_int {n : Int} (h : n.natAbs < 1000) : (PySem.Str.ofString (toString n)).length ≤ 4 := by
  rw [PySem.ofString_length]
  exact PySem.int_text_length_le10 (k := 3) (by decide) h
theorem str_small {n : Int} {t : Tok} {Q : Value → Shared → Prop} (hn : n.natAbs < 1000) (h : (PySem.Str.ofString (toString n)).length ≤ 4 → Q (.str (PySem.Str.ofString (toString n)) s.toks) { s with toks := s.toks + 1 }) :
    wpAny (model prog w) A (call (.type "str") [.int n t]) Q E s := by
  refine P.str_of_int ?_ (h (len_int hn))
  by_cases h0 : n.natAbs = 0
  · rw [h0]; decide +kernel
  · exact Nat.lt_of_lt_of_le ((Nat.log2_lt h0).2 (Nat.lt_of_lt_of_le hn (by decide : 1000 ≤ 2 ^ 10))) (by decide)
theorem add_small {x y : PySem.Str} {t u : Tok} {Q : Value → Shared → Prop} (hs : x.length + y.length ≤ 1000) (h : ∀ t' k, (x ++ y).length = x.length + y.length → Q (.str (x ++ y) t') { s with toks := k }) :
    wpAny (model prog w) A (binaryOp .Add (.str x t) (.str y u)) Q E s :=
  add_str (fun t' k => h t' k (PySem.Str.length_append ..)) (Nat.le_trans hs (by rw [PySem.sizeLine_eq]; decide))
theorem carried_len : ∀ {ys : List Value} {ds : List PyData}, CarriedAll ys ds → ys.length = ds.length := fun h => h.length_eq
theorem truthy_signs {p : PySem.Str → Bool} {d : PySem.Str} {D : Addr} {ys : List Value} {Q : Bool → Shared → Prop} (hl : s.heap.IsList D ys.toArray) (hc : CarriedAll ys (((signs d).filter p).map PyData.str)) (hd : d.length ≤ 1000)
    (h : ∀ k, Q (!((signs d).filter p).isEmpty) { s with toks := k }) : wpAny (model prog w) A (truthy (.ref D)) Q E s := by
  have e := carried_len hc
  rw [List.length_map] at e
  have e2 : ((signs d).filter p).length ≤ d.length := by rw [← signs_length d]; exact List.length_filter_le ..
  refine wpAny_truthy_list hl (by rw [List.size_toArray]; omega) ?_
  have e3 : ys.toArray.isEmpty = ((signs d).filter p).isEmpty := by
    rw [List.isEmpty_toArray]
    cases ys <;> cases hq : (signs d).filter p <;> simp_all
  rw [e3]
  exact h _
end
end
section
/-- the four parts of a text of the law's -/
noncomputable def units : List PySem.Str := [PySem.Str.ofString "bytes ", PySem.Str.ofString "rows ", PySem.Str.ofString " bytes ", PySem.Str.ofString "bytes", PySem.Str.ofString ""]
noncomputable def places (f la : Int) : List PySem.Str := [PySem.Str.ofString (toString f) ++ PySem.Str.ofString "-" ++ PySem.Str.ofString (toString la), PySem.Str.ofString "*", PySem.Str.ofString (toString f),
  PySem.Str.ofString "-" ++ PySem.Str.ofString (toString la), PySem.Str.ofString (toString f) ++ PySem.Str.ofString "- " ++ PySem.Str.ofString (toString la), PySem.Str.ofString "+1-2"]
noncomputable def slashes : List PySem.Str := [PySem.Str.ofString "/", PySem.Str.ofString "/", PySem.Str.ofString "/", PySem.Str.ofString ""]
noncomputable def lens (n f la : Int) : List PySem.Str := [PySem.Str.ofString (toString n), PySem.Str.ofString "*", PySem.Str.ofString (toString (la + 1)), PySem.Str.ofString (toString f), PySem.Str.ofString "-3", PySem.Str.ofString "x", PySem.Str.ofString " 9"]
structure Parts (f d n : Int) (u p sl l x : PySem.Str) : Prop where
  hx : x = u ++ p ++ sl ++ l
  hl : l ∈ lens n f (f + d - 1)
  hp : p ∈ places f (f + d - 1)
  hu : u ∈ units
  hs : sl ∈ slashes
  f0 : 0 ≤ f
  f1 : f < 9
  d0 : 0 ≤ d
  d1 : d < 5
  n0 : 0 ≤ n
  n1 : n < 14
def IsText (x : PySem.Str) : Prop := ∃ f d n u p sl l, Parts f d n u p sl l x
-- a draw: the state behind none, one, two objects that were made since
local macro_rules | `(tactic| ktn_lt) => `(tactic| first
  | exact Nat.ne_of_lt (by exact (by assumption : ∀ p ∈ _, p.1 < _) _ (St.s (by assumption) _ _))
  | ((rename (∀ p, p ∈ _ → Prod.fst p < _) => l9); (have q9 := l9 _ (St.s (by assumption) _ _)); (dsimp only at q9); (rename (_ < _ ∧ AllLt _ _) => l8); (have q8 := l8.1); exact Nat.ne_of_lt (Nat.lt_trans q9 q8)))
local macro_rules | `(tactic| l_ints) => `(tactic| (repeat' (first | exact IntsAre.nil | refine' IntsAre.cons _ _ ?_ | exact StrsAre.nil | refine' StrsAre.cons _ _ ?_)))
local macro_rules | `(tactic| l_idx) => `(tactic| ((try simp only [List.length_cons, List.length_nil]); omega))
local macro_rules | `(tactic| kopn_len) => `(tactic| ((repeat' (first | exact List.forall_mem_nil _ | refine List.forall_mem_cons.mpr ⟨?_, ?_⟩)) <;> ((try simp only [PySem.Str.length_append]); (try kopn_lits); omega)))
set_option maxHeartbeats 1000000 in
theorem text_ctr (w : World) (mean : ExcName → Option Value) (mg mb : PySem.Str → Option Value) {S Nm : Addr} {vs : List Value} {sn nn : Nat} {NF : Int → Tok → Led} (H : St S Nm vs sn nn NF) {ns : List Int} (k : Int) (t : Tok)
   (hv : IntsAre vs ns) (h3 : 3 ≤ ns.length) (h30 : ns.length ≤ 30) (hk : 0 ≤ k) (hk2 : k ≤ 90) :
   Ctr 2 w mean mg mb 239 [.ref S] (NF k t) (fun nw r => ∃ t' x tx, nw = NF (k + 7) t' ∧ r = .str x tx ∧ IsText x) := by
  k_with_none
  w_top off
  k_with "call ref" => (k_here; (rename St _ _ _ _ _ _ => hSt9); (first | k_dflt (refine' ctr_use (next_ctr _ _ _ _ hSt9 _ _ _ _ (by assumption) (by assumption) (by assumption) ?z9k1 ?z9k2 ?z9k3) ?z9B ?z9F ?z9X ?z9N ?z9T ?z9hk ?z9hd ?z9hu ?_; (case z9B => k_asm); (case z9F => k_asm); (case z9X => k_asm); (case z9N => k_asm); (case z9T => k_asm); (case z9hk => exact rfl); (case z9k1 => omega); (case z9k2 => omega); (case z9k3 => omega); (case z9hd => ktr_room); (case z9hu => ktr_units)) | k_dflt (refine' ctr_use (next_ctr _ _ _ _ (St.cons hSt9 ?z9n1) _ _ _ _ (by assumption) (by assumption) (by assumption) ?z9k1 ?z9k2 ?z9k3) ?z9B ?z9F ?z9X ?z9N ?z9T ?z9hk ?z9hd ?z9hu ?_; (case z9B => k_asm); (case z9F => k_asm); (case z9X => k_asm); (case z9N => k_asm); (case z9n1 => ktn_lt); (case z9T => k_asm); (case z9hk => exact rfl); (case z9k1 => omega); (case z9k2 => omega); (case z9k3 => omega); (case z9hd => ktr_room); (case z9hu => ktr_units)) | k_dflt (refine' ctr_use (next_ctr _ _ _ _ (St.cons (St.cons hSt9 ?z9n1) ?z9n2) _ _ _ _ (by assumption) (by assumption) (by assumption) ?z9k1 ?z9k2 ?z9k3) ?z9B ?z9F ?z9X ?z9N ?z9T ?z9hk ?z9hd ?z9hu ?_; (case z9B => k_asm); (case z9F => k_asm); (case z9X => k_asm); (case z9N => k_asm); (case z9n1 => ktn_lt); (case z9n2 => ktn_lt); (case z9T => k_asm); (case z9hk => exact rfl); (case z9k1 => omega); (case z9k2 => omega); (case z9k3 => omega); (case z9hd => ktr_room); (case z9hu => ktr_units))); intro r9 nw9 h9 tk9 O9 F9 N9; obtain ⟨t9, x9, tx9, e9, e9', hx0, hx1⟩ := O9; subst e9; subst e9'; (try dsimp only at N9); (try dsimp only); (try k_fold))
  k_with "call type:str" => (k_here; (with_reducible refine str_small (by omega) ?_); intro hl9)
  k_with "binaryOp Add str str" => (k_here; (with_reducible refine add_small ?z9z ?_; (case z9z => (simp only [PySem.Str.length_append]; (try kopn_lits); omega))); intro t9 k9 hl9)
  k_with "subscriptTail" => (k_here; (with_reducible show wpAny _ _ (subscriptTail _ _ (Value.ref _) (Value.int _ _)) _ _ _); (rename News _ _ _ ((_, listOf _ _) :: _) => oN9); (first | (k_dflt (refine' item_intsD (b := 5) oN9 ?z9i ?z9a ?z9b ?z9c ?z9d ?_ ?z9e; (case z9i => l_ints); (case z9a => omega); (case z9b => l_idx); (case z9c => omega); (case z9d => decide); (case z9e => with_unfolding_all rfl)); intro x9 t9 hx0 hx1 N9; clear oN9) | (k_dflt (refine' item_intsD (b := 6) oN9 ?z9i ?z9a ?z9b ?z9c ?z9d ?_ ?z9e; (case z9i => l_ints); (case z9a => omega); (case z9b => l_idx); (case z9c => omega); (case z9d => decide); (case z9e => with_unfolding_all rfl)); intro x9 t9 hx0 hx1 N9; clear oN9) | (k_dflt (refine' item_intsD (b := 7) oN9 ?z9i ?z9a ?z9b ?z9c ?z9d ?_ ?z9e; (case z9i => l_ints); (case z9a => omega); (case z9b => l_idx); (case z9c => omega); (case z9d => decide); (case z9e => with_unfolding_all rfl)); intro x9 t9 hx0 hx1 N9; clear oN9) | (k_dflt (refine' item_strsD oN9 ?z9i ?z9a ?z9b ?z9c ?z9d ?_ ?z9e; (case z9i => l_ints); (case z9a => omega); (case z9b => l_idx); (case z9c => omega); (case z9d => kopn_len); (case z9e => with_unfolding_all rfl)); intro x9 t9 hx9 hl9 N9; clear oN9)))
  unfold Ctr
  dsimp only [LO]
  k_fill
  intros
  rename_i hret
  refine wpAny_call ?_
  k_dflt cell_enter
  (repeat' (first | (k_unfold; (try dsimp only)) | walk1 | (dsimp only; walk1)))
  rename News _ _ _ (NF (k + 1 + 1 + 1 + 1 + 1 + 1 + 1) _) => kN9
  rw [show k + 1 + 1 + 1 + 1 + 1 + 1 + 1 = k + 7 by omega] at kN9
  exact hret _ (NF (k + 7) _) _ _ ⟨_, _, _, rfl, rfl, ⟨_, _, _, _, _, _, _, ⟨rfl, by assumption, by assumption, by assumption, by assumption, by assumption, by assumption, by assumption, by assumption, by assumption, by assumption⟩⟩⟩ (by k_asm) kN9
end
section
/-- an int or None, as a value -/
def optI : Option Int → Tok → Value
  | none, _ => .none
  | some n, t => .int n t
/-- a text or None, as a value -/
def optS : Option PySem.Str → Tok → Value
  | none, _ => .none
  | some x, t => .str x t
def noDigit (a : PySem.Str) : Bool := !!(Builtin.Str.occurrences (PySem.Str.ofString "0123456789") a 0 (PySem.Str.ofString "0123456789").length 1).isEmpty
def digitsVal (d : PySem.Str) : Int := List.foldl (fun T a => 10 * T + Txt.find (PySem.Str.ofString "0123456789") a) 0 (signs d)
/-- what _law_number gives -/
def numS (s : PySem.Str) : Option Int :=
  if (Txt.slice s none (some 1) == PySem.Str.ofString "-") = true then
    if (Txt.slice s (some 1) none == PySem.Str.ofString "") = true then none else if ((signs (Txt.slice s (some 1) none)).filter noDigit).isEmpty = true then some (-digitsVal (Txt.slice s (some 1) none)) else none
  else if (s == PySem.Str.ofString "") = true then none else if ((signs s).filter noDigit).isEmpty = true then some (digitsVal s) else none
def numF (x : PySem.Str) : Option Int := numS (Txt.stripChars x (PySem.Str.ofString " \t"))
section
variable {s : PySem.Str}
theorem numS_1 (a : (Txt.slice s none (some 1) == PySem.Str.ofString "-") = true) (b : (Txt.slice s (some 1) none == PySem.Str.ofString "") = true) : numS s = none := by
  unfold numS; rw [if_pos a, if_pos b]
theorem numS_2 (a : (Txt.slice s none (some 1) == PySem.Str.ofString "-") = true) (b : (Txt.slice s (some 1) none == PySem.Str.ofString "") = false) (c : ((signs (Txt.slice s (some 1) none)).filter noDigit).isEmpty = false) : numS s = none := by
  unfold numS; rw [if_pos a, if_neg (by rw [b]; decide), if_neg (by rw [c]; decide)]
theorem numS_3 (a : (Txt.slice s none (some 1) == PySem.Str.ofString "-") = true) (b : (Txt.slice s (some 1) none == PySem.Str.ofString "") = false) (c : ((signs (Txt.slice s (some 1) none)).filter noDigit).isEmpty = true) :
    numS s = some (-digitsVal (Txt.slice s (some 1) none)) := by
  unfold numS; rw [if_pos a, if_neg (by rw [b]; decide), if_pos c]
theorem numS_4 (a : (Txt.slice s none (some 1) == PySem.Str.ofString "-") = false) (b : (s == PySem.Str.ofString "") = true) : numS s = none := by
  unfold numS; rw [if_neg (by rw [a]; decide), if_pos b]
theorem numS_5 (a : (Txt.slice s none (some 1) == PySem.Str.ofString "-") = false) (b : (s == PySem.Str.ofString "") = false) (c : ((signs s).filter noDigit).isEmpty = false) : numS s = none := by
  unfold numS; rw [if_neg (by rw [a]; decide), if_neg (by rw [b]; decide), if_neg (by rw [c]; decide)]
theorem numS_6 (a : (Txt.slice s none (some 1) == PySem.Str.ofString "-") = false) (b : (s == PySem.Str.ofString "") = false) (c : ((signs s).filter noDigit).isEmpty = true) : numS s = some (digitsVal s) := by
  unfold numS; rw [if_neg (by rw [a]; decide), if_neg (by rw [b]; decide), if_pos c]
theorem no_raise {a d : PySem.Str} (hm : a ∈ signs d) (he : ((signs d).filter noDigit).isEmpty = true) (ho : (Builtin.Str.occurrences (PySem.Str.ofString "0123456789") a 0 (PySem.Str.ofString "0123456789").length 1).isEmpty = true) : False := by
  have h := List.isEmpty_iff.mp he
  have h2 : a ∈ (signs d).filter noDigit := List.mem_filter.mpr ⟨hm, by unfold noDigit; rw [ho]; rfl⟩
  rw [h] at h2
  cases h2
end
set_option maxHeartbeats 4000000 in
theorem num_ctr (w : World) (mean : ExcName → Option Value) (mg mb : PySem.Str → Option Value) (news : Led) (x : PySem.Str) (hx : x.length ≤ 100) (t : Tok) :
   Ctr 1 w mean mg mb 218 [.str x t] news (fun nw r => nw = news ∧ ∃ tx, r = optI (numF x) tx) := by
  k_with_none
  w_top off
  k_with "truthy ref" => (k_here; (with_reducible refine truthy_signs (by assumption) (by assumption) (by omega) ?_); intro k9)
  unfold Ctr
  dsimp only [LO]
  k_fill
  intros
  rename_i hret
  refine wpAny_call ?_
  k_dflt cell_enter
  (repeat' (first | (k_unfold; (try dsimp only)) | walk1 | (dsimp only; walk1)))
  all_goals first
    | exact (no_raise (by assumption) (by assumption) (by assumption)).elim
    | refine hret _ news _ _ ⟨rfl, 0, congrArg (optI · 0) (numS_1 (by assumption) (by assumption)).symm⟩ (by k_asm) (by first | k_asm | exact cb_drop (by assumption) (fun p hp => .tail _ hp))
    | refine hret _ news _ _ ⟨rfl, 0, congrArg (optI · 0) (numS_4 (by assumption) (by assumption)).symm⟩ (by k_asm) (by first | k_asm | exact cb_drop (by assumption) (fun p hp => .tail _ hp))
    | refine hret _ news _ _ ⟨rfl, 0, congrArg (optI · 0) (numS_2 (by assumption) (by assumption) (by assumption)).symm⟩ (by k_asm) (by first | k_asm | exact cb_drop (by assumption) (fun p hp => .tail _ hp))
    | refine hret _ news _ _ ⟨rfl, 0, congrArg (optI · 0) (numS_5 (by assumption) (by assumption) (by assumption)).symm⟩ (by k_asm) (by first | k_asm | exact cb_drop (by assumption) (fun p hp => .tail _ hp))
    | refine hret _ news _ _ ⟨rfl, _, congrArg (optI · _) (numS_3 (by assumption) (by assumption) (by assumption)).symm⟩ (by k_asm) (by first | k_asm | exact cb_drop (by assumption) (fun p hp => .tail _ hp))
    | refine hret _ news _ _ ⟨rfl, _, congrArg (optI · _) (numS_6 (by assumption) (by assumption) (by assumption)).symm⟩ (by k_asm) (by first | k_asm | exact cb_drop (by assumption) (fun p hp => .tail _ hp))
end
section
/-- an int whose text is short enough for str() -/
structure Sm (n : Int) : Prop where
  h : n.natAbs.log2 < 1920
  l : (PySem.Str.ofString (toString n)).length ≤ 110
theorem find_bd (x y : PySem.Str) : -1 ≤ Txt.find x y ∧ Txt.find x y ≤ x.length := by
  unfold Txt.find
  have h := PySem.StrLaws.occ_spec x y 0 x.length 1
  cases e : Builtin.Str.occurrences x y 0 x.length 1 with
  | nil => dsimp only; omega
  | cons i r =>
    rw [e] at h
    have := (h i (.head _)).1
    dsimp only
    omega
theorem fold_bd (D : PySem.Str) (hD : D.length ≤ 10) : ∀ (l : List PySem.Str) (T : Int), (List.foldl (fun T a => 10 * T + Txt.find D a) T l).natAbs + 2 ≤ (T.natAbs + 2) * 10 ^ l.length
  | [], T => by simp
  | a :: r, T => by
    have ih := fold_bd D hD r (10 * T + Txt.find D a)
    have hb := find_bd D a
    rw [List.foldl_cons, List.length_cons, Nat.pow_succ]
    refine Nat.le_trans ih ?_
    rw [Nat.mul_comm (10 ^ r.length) 10, ← Nat.mul_assoc]
    exact Nat.mul_le_mul_right _ (by omega)
theorem sm_of {n : Int} (h : n.natAbs < 10 ^ 102) : Sm n := by
  refine ⟨?_, ?_⟩
  · by_cases h0 : n.natAbs = 0
    · rw [h0]; decide +kernel
    · exact Nat.lt_of_lt_of_le ((Nat.log2_lt h0).2 (Nat.lt_of_lt_of_le h (Nat.le_of_ble_eq_true rfl : 10 ^ 102 ≤ 2 ^ 400))) (by decide)
  · have := PySem.int_text_length_le10 (k := 102) (by decide) h
    rw [PySem.ofString_length]
    omega
theorem digits_sm {d : PySem.Str} (h : d.length ≤ 100) : (digitsVal d).natAbs < 10 ^ 102 := by
  have b := fold_bd (PySem.Str.ofString "0123456789") (by decide +kernel) (signs d) 0
  rw [signs_length] at b
  have e : (0 : Int).natAbs + 2 = 2 := rfl
  rw [e] at b
  have p : 10 ^ d.length ≤ 10 ^ 100 := Nat.pow_le_pow_right (by decide) h
  have q : 2 * 10 ^ 100 ≤ 10 ^ 102 := Nat.le_of_ble_eq_true rfl
  unfold digitsVal
  generalize 10 ^ 100 = A at *
  generalize 10 ^ 102 = B at *
  generalize 10 ^ d.length = C at *
  omega
theorem num_sm {x : PySem.Str} {n : Int} (hx : x.length ≤ 100) (e : numF x = some n) : Sm n := by
  refine sm_of ?_
  have h1 : (Txt.stripChars x (PySem.Str.ofString " \t")).length ≤ 100 := Nat.le_trans (len_stripChars x _) hx
  have h2 : (Txt.slice (Txt.stripChars x (PySem.Str.ofString " \t")) (some 1) none).length ≤ 100 := Nat.le_trans (PyProof.Txt.length_slice_le _ _ _) h1
  unfold numF numS at e
  split at e
  · split at e
    · cases e
    · split at e
      · cases e; rw [Int.natAbs_neg]; exact digits_sm h2
      · cases e
  · split at e
    · cases e
    · split at e
      · cases e; exact digits_sm h1
      · cases e
section
variable {prog : Program} {w : World} {A : Around} {E : Value → Shared → Prop} {s : Shared}
theorem str_sm {n : Int} {t : Tok} {Q : Value → Shared → Prop} (hn : Sm n) (h : (PySem.Str.ofString (toString n)).length ≤ 110 → Q (.str (PySem.Str.ofString (toString n)) s.toks) { s with toks := s.toks + 1 }) :
    wpAny (model prog w) A (call (.type "str") [.int n t]) Q E s := P.str_of_int hn.h (h hn.l)
end
end
section
theorem plainAttrs_pat : PlainAttrs "re.Pattern" :=
  ⟨⟨"object.__getattribute__", by rw [typeLookup_type, builtinLookup_eq_fast]; kernel_rfl, by decide +kernel⟩, by rw [typeLookup_type, builtinLookup_eq_fast]; kernel_rfl⟩
theorem slot_fm : Slot "re.Pattern" "fullmatch" "re.Pattern.fullmatch" :=
  .of (owner := "re.Pattern") (n := "fullmatch") (by rw [typeLookup_type, builtinLookup_eq_fast]; kernel_rfl) (by decide +kernel) (by decide +kernel) (by decide +kernel)
    (by first | exact .inl (by decide +kernel) | exact .inr (by decide +kernel)) (by rw [isSubtype_type]; kernel_rfl)
theorem type_fm : typeOf (.builtin "re.Pattern.fullmatch") = pure (.type "method_descriptor") := by show builtinType _ = _; rw [builtinType_eq_fast]; kernel_rfl
theorem entry_fm : entryFor table "re.Pattern.fullmatch" = some Builtin.«re.Pattern.fullmatch» := entryFor_of_tree (by kernel_rfl)
theorem args_fm (a b : Value) : argsOk "re.Pattern.fullmatch" ⟨[a, b], []⟩ := by
  unfold argsOk; kernel_rfl
/-- the pattern's code, its object -/
def codeV : Array Value := #[Value.int 14 0, Value.int 4 0, Value.int 0 0, Value.int 1 0, Value.int 4294967295 0, Value.int 24 0,
        Value.int 6 0, Value.int 0 0, Value.int 1 0, Value.int 16 0, Value.int 45 0, Value.int 1 0, Value.int 24 0,
        Value.int 10 0, Value.int 1 0, Value.int 4294967295 0, Value.int 13 0, Value.int 5 0, Value.int 22 0,
        Value.int 48 0, Value.int 57 0, Value.int 0 0, Value.int 1 0, Value.int 1 0]
def codeN : Array Nat := #[14, 4, 0, 1, 4294967295, 24, 6, 0, 1, 16, 45, 1, 24, 10, 1, 4294967295, 13, 5, 22, 48, 57, 0, 1, 1]
def patV : Array Value := #[Value.str (PySem.Str.ofString "-?[0-9]+") 292, Value.int 256 319, Value.int 0 0, Value.none, Value.none, Value.ref 42, Value.int 0 0]
/-- the machine after k turns of four steps, stopped where it has ended -/
def turns : Nat → Sre.M → Sre.M
  | 0, m => m
  | k + 1, m => let m' := m.runFor Builtin.Re.reTurnSteps; if m'.outcome.isSome then m' else turns k m'
theorem drive_turns {M : Model} {A : Around} {E : Value → Shared → Prop} {s : Shared} {Q : Sre.M → Shared → Prop} : ∀ (k n : Nat) (m : Sre.M), k < n → (turns (k + 1) m).outcome.isSome = true → Q (turns (k + 1) m) s → wpAny M A (Builtin.Re.reDrive n m) Q E s
  | k, 0, _, h, _, _ => absurd h (Nat.not_lt_zero _)
  | 0, n + 1, m, _, he, q => by
    unfold Builtin.Re.reDrive
    unfold turns at he q
    dsimp only at he q ⊢
    cases ho : (m.runFor Builtin.Re.reTurnSteps).outcome.isSome with
    | true => rw [ho] at q; exact wpAny_pure q
    | false => rw [ho] at he; unfold turns at he; rw [if_neg (by decide)] at he; rw [ho] at he; cases he
  | k + 1, n + 1, m, h, he, q => by
    unfold Builtin.Re.reDrive
    unfold turns at he q
    dsimp only at he q ⊢
    cases ho : (m.runFor Builtin.Re.reTurnSteps).outcome.isSome with
    | true => rw [ho] at q; exact wpAny_pure q
    | false =>
      rw [ho] at he q
      exact wpAny_bind (wpAny_rule (drive_turns k n _ (Nat.lt_of_succ_lt_succ h) he q))
/-- the machine that full-matches x, at its end -/
def mach (x : PySem.Str) : Sre.M := turns 40 (Sre.forMatch codeN x.cps 0 0 x.cps.size true false)
def ended (x : PySem.Str) (b : Bool) : Bool := match (mach x).outcome with
  | some .matched => b
  | some .failed => !b
  | _ => false
theorem rules_pass {M : Model} {A : Around} {E : Value → Shared → Prop} {s : Shared} {c : Nat → Bool} {nm : Nat → String} {Q : PUnit → Shared → Prop} (h : ∀ u, Q u s) : ∀ (l : List Nat) (u : PUnit),
    wpAny M A (forIn l u (fun i _ => (if c i = true then (rule (nm i) >>= fun _ => pure (ForInStep.yield PUnit.unit)) else (pure PUnit.unit >>= fun _ => pure (ForInStep.yield PUnit.unit)) : Sem (ForInStep PUnit)))) Q E s
  | [], u => by rw [List.forIn_nil]; exact wpAny_pure (h u)
  | a :: r, u => by
    rw [List.forIn_cons]
    refine wpAny_bind ?_
    cases hc : c a with
    | true => rw [if_pos rfl]; exact wpAny_bind (wpAny_rule (wpAny_pure (rules_pass h r _)))
    | false => rw [if_neg (by decide)]; exact wpAny_bind (wpAny_pure (wpAny_pure (rules_pass h r _)))
theorem run_end {M : Model} {A : Around} {E : Value → Shared → Prop} {s : Shared} {x : PySem.Str} {b : Bool} (he : ended x b = true) {Q : Option Sre.M → Shared → Prop}
    (h1 : b = true → ∀ m', Q (some m') s) (h0 : b = false → Q none s) : wpAny M A (Builtin.Re.reRunToEnd (Sre.forMatch codeN x.cps 0 0 x.cps.size true false)) Q E s := by
  unfold Builtin.Re.reRunToEnd
  have ho : (mach x).outcome.isSome = true := by
    unfold ended at he
    split at he
    · rename_i e; rw [e]; rfl
    · rename_i e; rw [e]; rfl
    · cases he
  refine wpAny_bind (drive_turns 39 (2 ^ 64) _ (by decide) ho ?_)
  show wpAny M A _ Q E s
  refine wpAny_bind (rules_pass ?_ _ _)
  intro u
  show wpAny M A (match (mach x).outcome with | some .matched => _ | some .failed => _ | some (.stuck why) => _ | none => _) Q E s
  unfold ended at he
  split at he
  · rename_i e
    rw [e]
    exact wpAny_pure (h1 he _)
  · rename_i e
    rw [e]
    refine wpAny_pure (h0 ?_)
    cases b <;> first | rfl | cases he
  · cases he
theorem named_fm (v : Value) : Builtin.Re.reNamed "re.Pattern.fullmatch" "fullmatch" ["string", "pos", "endpos"] 1 [v] [] = pure [some v, none, none] := by
  with_unfolding_all rfl
section
variable {prog : Program} {w : World} {A : Around} {E : Value → Shared → Prop} {s : Shared} {h₀ : Heap} {L : Addr} {m : PySem.Str → Option Value} {news : Led}
theorem target_fm {x : PySem.Str} {t : Tok} {n : Nat} {Q : Builtin.Re.ReTarget → Shared → Prop} (hp : s.heap.get? 43 = some ⟨.type "re.Pattern", none, .fields patV, #[]⟩) (hc : s.heap.get? 42 = some ⟨.type "tuple", none, .seq codeV n, #[]⟩)
    (hx : x.length ≤ 1000) (h : Q { pattern := .ref 43, string := .str x t, code := codeN, text := x.cps, kind := 0, groups := 0, pos := 0, lim := x.cps.size } s) :
    wpAny (model prog w) A (Builtin.Re.reTarget "re.Pattern.fullmatch" "fullmatch" ⟨[.ref 43, .str x t], []⟩) Q E s := by
  unfold Builtin.Re.reTarget
  refine wpAny_bind (wpAny_of_eq (named_fm _) ?_)
  refine wpAny_bind (wpAny_pure ?_)
  refine wpAny_bind (wpAny_pure ?_)
  refine wpAny_bind (wpAny_fieldsOf hp rfl ?_)
  refine wpAny_bind (wpAny_of_eq (a := (x.cps, 0)) rfl ?_)
  dsimp only
  rw [if_neg (by decide), if_neg (by decide)]
  refine wpAny_bind (wpAny_of_eq (a := ()) rfl ?_)
  refine wpAny_bind ?_
  unfold Builtin.Re.reRawItems
  refine wpAny_bind (wpAny_seqItems (a := 42) hc rfl (wpAny_pure (wpAny_pure ?_)))
  have e1 : min (2 ^ 63 - 1 : Int).toNat x.cps.size = x.cps.size := by
    have : x.cps.size ≤ 1000 := hx
    have e : (2 ^ 63 - 1 : Int).toNat = 9223372036854775807 := by decide
    rw [e]; omega
  have e0 : min (0 : Int).toNat x.cps.size = 0 := Nat.zero_min _
  have ec : ((codeV.map Builtin.Re.reRawOf).map fun x => x.toNat) = codeN := by decide +kernel
  show Q { pattern := .ref 43, string := .str x t, code := (codeV.map Builtin.Re.reRawOf).map (fun x => x.toNat), text := x.cps, kind := 0, groups := 0, pos := min (0 : Int).toNat x.cps.size, lim := min (2 ^ 63 - 1 : Int).toNat x.cps.size } s
  rw [e1, e0, ec]
  exact h
theorem fullmatch_body {x : PySem.Str} {t : Tok} {n : Nat} {b : Bool} {Q : Value → Shared → Prop} (F : Fr h₀ L s.heap m) (N : News h₀ L s.heap news) (hp : s.heap.get? 43 = some ⟨.type "re.Pattern", none, .fields patV, #[]⟩) (hc : s.heap.get? 42 = some ⟨.type "tuple", none, .seq codeV n, #[]⟩)
    (hx : x.length ≤ 1000) (he : ended x b = true) (h1 : b = true → ∀ D h', Fr h₀ L h' m → News h₀ L h' news → Q (.ref D) { s with heap := h' }) (h0 : b = false → Q .none s) :
    wpAny (model prog w) A (Builtin.«re.Pattern.fullmatch» ⟨[.ref 43, .str x t], []⟩) (fun fin s' => ∃ v, fin = .done (.ret v) ∧ Q v s') E s := by
  unfold Builtin.«re.Pattern.fullmatch»
  refine wpAny_bind (target_fm hp hc hx ?_)
  unfold Builtin.Re.reAnswer
  refine wpAny_bind (run_end he (fun hb m' => ?_) (fun hb => ?_))
  · refine wpAny_bind ?_
    unfold Builtin.Re.reNewMatch
    show wpAny _ _ (newTuple _ >>= fun v => newFields _ _) _ _ _
    refine wpAny_bind (wpAny_newTuple ?_ (by show 2 ≤ _; rw [PySem.sizeLine_eq]; decide))
    refine wpAny_newObj_type ?_ (by show 6 ≤ _; rw [PySem.sizeLine_eq]; decide)
    refine wpAny_pure ⟨_, rfl, ?_⟩
    have N1 := News.push F N { cls := .type "tuple", data := .seq (rawInt m'.start :: rawInt m'.handed :: []).toArray }
    have F1 := F.push { cls := .type "tuple", data := .seq (rawInt m'.start :: rawInt m'.handed :: []).toArray }
    exact h1 hb _ _ (F1.push _) (cb_drop (News.push F1 (cb_drop N1 fun p hp => .tail _ hp) _) fun p hp => .tail _ hp)
  · exact wpAny_pure ⟨_, rfl, h0 hb⟩
theorem fullmatch_call {x : PySem.Str} {t : Tok} {n : Nat} {b : Bool} {Q : Value → Shared → Prop} (F : Fr h₀ L s.heap m) (N : News h₀ L s.heap news) (hp : s.heap.get? 43 = some ⟨.type "re.Pattern", none, .fields patV, #[]⟩) (hc : s.heap.get? 42 = some ⟨.type "tuple", none, .seq codeV n, #[]⟩)
    (hx : x.length ≤ 1000) (he : ended x b = true) (h1 : b = true → ∀ D h', Fr h₀ L h' m → News h₀ L h' news → Q (.ref D) { s with heap := h' }) (h0 : b = false → Q .none s) :
    wpAny (model prog w) A (call (.builtin "re.Pattern.fullmatch") [.ref 43, .str x t]) Q E s :=
  wpAny_call_entry slot_fm ⟨_, hp, rfl⟩ entry_fm (fullmatch_body F N hp hc hx he h1 h0) (args_fm _ _)
theorem getMethod_fm {pl : Sem Bool} {Q : Value × List Value → Shared → Prop} (hp : s.heap.get? 43 = some ⟨.type "re.Pattern", none, .fields patV, #[]⟩) (h : Q (.builtin "re.Pattern.fullmatch", [.ref 43]) s) :
    wpAny (model prog w) A (getMethod (.ref 43) "fullmatch" pl) Q E s :=
  getMethod_builtin ⟨_, hp, rfl⟩ plainAttrs_pat slot_fm type_fm (fun a e => by cases e; exact ⟨_, hp, rfl⟩) h
end
end
section
/-- y is read by _plain_int as by _law_number -/
structure PL (y : PySem.Str) : Prop where
  e : ended (Txt.stripChars y (PySem.Str.ofString " \t")) (numF y).isSome = true
  i : ∀ n, numF y = some n → PySem.intText? (Txt.stripChars y (PySem.Str.ofString " \t")) = some n
/-- a text that falls into its unit, its places, its length -/
structure CB (x s un rest pl ld a b : PySem.Str) : Prop where
  hs : Txt.stripChars x (PySem.Str.ofString " \t") = s
  p1 : (Txt.partition s (PySem.Str.ofString " ")).1 = un
  p3 : (Txt.partition s (PySem.Str.ofString " ")).2.2 = rest
  sl : (Builtin.Str.occurrences rest (PySem.Str.ofString "/") 0 rest.length 1).isEmpty = false
  q1 : (Txt.partition rest (PySem.Str.ofString "/")).1 = pl
  q3 : (Txt.partition rest (PySem.Str.ofString "/")).2.2 = ld
  da : (Builtin.Str.occurrences pl (PySem.Str.ofString "-") 0 pl.length 1).isEmpty = false → (Txt.partition pl (PySem.Str.ofString "-")).1 = a ∧ (Txt.partition pl (PySem.Str.ofString "-")).2.2 = b
  ll : PL ld
  la : PL a
  lb : PL b
  xl : x.length ≤ 90
  sl' : s.length ≤ 90
  ul : un.length ≤ 90
  rl : rest.length ≤ 90
  pll : pl.length ≤ 90
  ldl : ld.length ≤ 90
  al : a.length ≤ 90
  bl : b.length ≤ 90
  ne : x.length ≠ 0
section
variable {prog : Program} {w : World} {A : Around} {E : Value → Shared → Prop} {s : Shared} {h₀ : Heap} {L : Addr} {m : PySem.Str → Option Value} {news : Led}
theorem strip_is {x y z : PySem.Str} {t u : Tok} {Q : Value → Shared → Prop} (e : Txt.stripChars x z = y) (hs : x.length ≤ 1000) (h : ∀ t' k, y.length ≤ x.length → Q (.str y t') { s with toks := k }) :
    wpAny (model prog w) A (call (.builtin "str.strip") [.str x t, .str z u]) Q E s :=
  SC.stripChars (fun t' k => by rw [e]; exact h t' k (e ▸ len_stripChars x z)) (Nat.le_trans hs (by rw [PySem.sizeLine_eq]; decide))
theorem fullmatch_pl {y : PySem.Str} {t : Tok} {n : Nat} {Q : Value → Shared → Prop} (P : PL y) (F : Fr h₀ L s.heap m) (N : News h₀ L s.heap news) (hp : s.heap.get? 43 = some ⟨.type "re.Pattern", none, .fields patV, #[]⟩) (hc : s.heap.get? 42 = some ⟨.type "tuple", none, .seq codeV n, #[]⟩)
    (hx : (Txt.stripChars y (PySem.Str.ofString " \t")).length ≤ 1000) (hy : y.length ≤ 100) (h1 : ∀ k, numF y = some k → Sm k → PySem.intText? (Txt.stripChars y (PySem.Str.ofString " \t")) = some k → ∀ D h', Fr h₀ L h' m → News h₀ L h' news → Q (.ref D) { s with heap := h' }) (h0 : numF y = none → Q .none s) :
    wpAny (model prog w) A (call (.builtin "re.Pattern.fullmatch") [.ref 43, .str (Txt.stripChars y (PySem.Str.ofString " \t")) t]) Q E s := by
  cases e : numF y with
  | none =>
    have he := P.e
    rw [e] at he
    exact fullmatch_call F N hp hc hx he (fun h => nomatch h) fun _ => h0 e
  | some k =>
    have he := P.e
    rw [e] at he
    exact fullmatch_call F N hp hc hx he (fun _ => h1 k e (num_sm hy e) (P.i k e)) fun h => nomatch h
theorem patAt {K : Frag} (F : Fr h₀ L s.heap m) (X : K.In h₀) (hl : K.lookup 43 = some ⟨.type "re.Pattern", none, .fields patV, #[]⟩) : s.heap.get? 43 = some ⟨.type "re.Pattern", none, .fields patV, #[]⟩ := F.keep _ _ (X _ _ hl)
theorem codeAt {K : Frag} (F : Fr h₀ L s.heap m) (X : K.In h₀) (hl : K.lookup 42 = some ⟨.type "tuple", none, .seq codeV 0, #[]⟩) : s.heap.get? 42 = some ⟨.type "tuple", none, .seq codeV 0, #[]⟩ := F.keep _ _ (X _ _ hl)
theorem partition_is {x y p r : PySem.Str} {t u : Tok} {Q : Value → Shared → Prop} (hF : Fr h₀ L s.heap m) (hN : News h₀ L s.heap news) (e : (Txt.partition x y).1 = p ∧ (Txt.partition x y).2.2 = r) (hy : (y.length == 0) = false) (hsz : x.length ≤ 1000)
    (h : ∀ D q ta tb tc h' k, Fr h₀ L h' m → News h₀ L h' ((D, { cls := .type "tuple", data := .seq [.str p ta, .str q tb, .str r tc].toArray }) :: news) → (∀ a ∈ news, a.1 < D) → Q (.ref D) { s with heap := h', toks := k }) :
    wpAny (model prog w) A (call (.builtin "str.partition") [.str x t, .str y u]) Q E s :=
  KXpa.partition hF hN hy e.1 rfl e.2 (Nat.le_trans hsz (by rw [PySem.sizeLine_eq]; decide)) fun D ta tb tc h' k => h D _ ta tb tc h' k
theorem sub_one {n : Int} {t u : Tok} {Q : Value → Shared → Prop} (h : ∀ t', Q (.int n t') { s with toks := s.toks + 1 }) : wpAny (model prog w) A (binaryOp .Sub (.int (n + 1) t) (.int 1 u)) Q E s :=
  sub_int (by rw [Int.add_sub_cancel]; exact h _)
theorem field_sm {n : Int} {t : Tok} {Q : Value → Shared → Prop} (hn : Sm n) (h : ∀ t' k, (PySem.Str.ofString (toString n)).length ≤ 110 → Q (.str (PySem.Str.ofString (toString n)) t') { s with toks := k }) :
    wpAny (model prog w) A (formatField (.int n t) PySem.Str.empty) Q E s := formatField_int_small hn.h (h _ _ hn.l)
theorem truthy_ne {x : PySem.Str} {t : Tok} {Q : Bool → Shared → Prop} (hne : x.length ≠ 0) (hl : x.length ≤ 1000) (h : ∀ k, Q true { s with toks := k }) : wpAny (model prog w) A (truthy (.str x t)) Q E s := by
  refine P.truthy_str (by omega) ?_
  have e : ((x.length : Int) != 0) = true := by rw [bne_iff_ne]; omega
  rw [e]
  exact h _
theorem self_VE : isSubtype (.type "ValueError") (.type "ValueError") = pure true := by rw [isSubtype_type]; kernel_rfl
end
end
section
def lenO (ld : PySem.Str) : Option (Option Int) := if (ld == PySem.Str.ofString "*") = true then some none else (numF ld).map some
def lenGt : Option Int → Int → Bool
  | none, _ => true
  | some n, f => decide (f < n)
def lenNn : Option Int → Bool
  | none => true
  | some n => decide (0 ≤ n)
def lenT : Option Int → PySem.Str
  | none => PySem.Str.ofString "*"
  | some n => PySem.Str.ofString (toString n)
def starT (un : PySem.Str) (len : Option Int) : PySem.Str := PySem.Str.empty ++ un ++ PySem.Str.ofString " */" ++ lenT len
def rangeT (un : PySem.Str) (f l : Int) (len : Option Int) : PySem.Str :=
  PySem.Str.empty ++ un ++ PySem.Str.ofString " " ++ PySem.Str.ofString (toString f) ++ PySem.Str.ofString "-" ++ PySem.Str.ofString (toString l) ++ PySem.Str.ofString "/" ++ lenT len
def noDash (pl : PySem.Str) : Bool := (Builtin.Str.occurrences pl (PySem.Str.ofString "-") 0 pl.length 1).isEmpty
def rngG (un : PySem.Str) (len : Option Int) : Option Int → Option Int → Option PySem.Str
  | some f, some l => if 0 ≤ f ∧ f < l + 1 ∧ lenGt len f = true then some (rangeT un f l len) else none
  | _, _ => none
def readL (un pl a b : PySem.Str) (len : Option Int) : Option PySem.Str :=
  if (pl == PySem.Str.ofString "*") = true then (if lenNn len = true then some (starT un len) else none)
  else if noDash pl = true then none else rngG un len (numF a) (numF b)
/-- what both roads read out of a text's parts -/
def readG (un pl ld a b : PySem.Str) : Option PySem.Str := (lenO ld).bind (readL un pl a b)
section
variable {un pl ld a b : PySem.Str} {n f l : Int} {len : Option Int}
theorem lenO_s (h : (ld == PySem.Str.ofString "*") = true) : lenO ld = some none := by unfold lenO; rw [if_pos h]
theorem lenO_n (h : (ld == PySem.Str.ofString "*") = false) (e : numF ld = some n) : lenO ld = some (some n) := by unfold lenO; rw [if_neg (by rw [h]; decide), e]; rfl
theorem lenO_x (h : (ld == PySem.Str.ofString "*") = false) (e : numF ld = none) : lenO ld = none := by unfold lenO; rw [if_neg (by rw [h]; decide), e]; rfl
theorem readG_of (h : lenO ld = some len) : readG un pl ld a b = readL un pl a b len := by unfold readG; rw [h]; rfl
theorem G_l (h : (ld == PySem.Str.ofString "*") = false) (e : numF ld = none) : readG un pl ld a b = none := by unfold readG; rw [lenO_x h e]; rfl
theorem none_of (h : ∀ len, readL un pl a b len = none) : readG un pl ld a b = none := by
  unfold readG
  cases lenO ld with
  | none => rfl
  | some len => exact h len
theorem G_s0 (h : (ld == PySem.Str.ofString "*") = true) (p : (pl == PySem.Str.ofString "*") = true) : readG un pl ld a b = some (starT un none) := by
  rw [readG_of (lenO_s h)]; unfold readL; rw [if_pos p]; rfl
theorem G_s1 (h : (ld == PySem.Str.ofString "*") = false) (e : numF ld = some n) (p : (pl == PySem.Str.ofString "*") = true) (q : 0 ≤ n) : readG un pl ld a b = some (starT un (some n)) := by
  rw [readG_of (lenO_n h e)]; unfold readL; rw [if_pos p, if_pos (show lenNn (some n) = true from decide_eq_true q)]
theorem G_s2 (h : (ld == PySem.Str.ofString "*") = false) (e : numF ld = some n) (p : (pl == PySem.Str.ofString "*") = true) (q : ¬ 0 ≤ n) : readG un pl ld a b = none := by
  rw [readG_of (lenO_n h e)]; unfold readL; rw [if_pos p, if_neg (by show ¬ decide (0 ≤ n) = true; simpa using q)]
theorem G_d (p : (pl == PySem.Str.ofString "*") = false) (d : (Builtin.Str.occurrences pl (PySem.Str.ofString "-") 0 pl.length 1).isEmpty = true) : readG un pl ld a b = none :=
  none_of fun len => by unfold readL; rw [if_neg (by rw [p]; decide), if_pos (show noDash pl = true from d)]
theorem L_r (p : (pl == PySem.Str.ofString "*") = false) (d : (Builtin.Str.occurrences pl (PySem.Str.ofString "-") 0 pl.length 1).isEmpty = false) : readL un pl a b len = rngG un len (numF a) (numF b) := by
  unfold readL; rw [if_neg (by rw [p]; decide), if_neg (by unfold noDash; rw [d]; decide)]
theorem G_a (p : (pl == PySem.Str.ofString "*") = false) (e : numF a = none) : readG un pl ld a b = none :=
  none_of fun len => by unfold readL; rw [if_neg (by rw [p]; decide), e]; split <;> rfl
theorem G_b (p : (pl == PySem.Str.ofString "*") = false) (e : numF b = none) : readG un pl ld a b = none :=
  none_of fun len => by
    unfold readL; rw [if_neg (by rw [p]; decide), e]
    split
    · rfl
    · cases numF a <;> rfl
theorem G_no (p : (pl == PySem.Str.ofString "*") = false) (ea : numF a = some f) (eb : numF b = some l) (q : ¬ (0 ≤ f ∧ f < l + 1)) : readG un pl ld a b = none :=
  none_of fun len => by
    unfold readL; rw [if_neg (by rw [p]; decide), ea, eb]
    split
    · rfl
    · unfold rngG; dsimp only; rw [if_neg fun h => q ⟨h.1, h.2.1⟩]
theorem G_n1 (p : (pl == PySem.Str.ofString "*") = false) (ea : numF a = some f) (eb : numF b = some l) (q : ¬ 0 ≤ f) : readG un pl ld a b = none := G_no p ea eb fun h => q h.1
theorem G_n2 (p : (pl == PySem.Str.ofString "*") = false) (ea : numF a = some f) (eb : numF b = some l) (q : ¬ f < l + 1) : readG un pl ld a b = none := G_no p ea eb fun h => q h.2
theorem G_n3 (p : (pl == PySem.Str.ofString "*") = false) (ea : numF a = some f) (eb : numF b = some l) (q : l + 1 ≤ f) : readG un pl ld a b = none := G_no p ea eb fun h => by omega
theorem G_n4 (h : (ld == PySem.Str.ofString "*") = false) (e : numF ld = some n) (p : (pl == PySem.Str.ofString "*") = false) (ea : numF a = some f) (eb : numF b = some l) (q : ¬ f < n) : readG un pl ld a b = none := by
  rw [readG_of (lenO_n h e)]; unfold readL; rw [if_neg (by rw [p]; decide), ea, eb]
  split
  · rfl
  · unfold rngG; dsimp only; rw [if_neg fun h => q (of_decide_eq_true h.2.2)]
theorem G_r0 (h : (ld == PySem.Str.ofString "*") = true) (p : (pl == PySem.Str.ofString "*") = false) (d : (Builtin.Str.occurrences pl (PySem.Str.ofString "-") 0 pl.length 1).isEmpty = false)
    (ea : numF a = some f) (eb : numF b = some l) (q : 0 ≤ f) (r : f < l + 1) : readG un pl ld a b = some (rangeT un f l none) := by
  rw [readG_of (lenO_s h), L_r p d, ea, eb]; unfold rngG; dsimp only; rw [if_pos ⟨q, r, rfl⟩]
theorem G_r1 (h : (ld == PySem.Str.ofString "*") = false) (e : numF ld = some n) (p : (pl == PySem.Str.ofString "*") = false) (d : (Builtin.Str.occurrences pl (PySem.Str.ofString "-") 0 pl.length 1).isEmpty = false)
    (ea : numF a = some f) (eb : numF b = some l) (q : 0 ≤ f) (r : ¬ l + 1 ≤ f) (t : f < n) : readG un pl ld a b = some (rangeT un f l (some n)) := by
  rw [readG_of (lenO_n h e), L_r p d, ea, eb]; unfold rngG; dsimp only; rw [if_pos ⟨q, by omega, decide_eq_true t⟩]
end
end
section
section
variable {prog : Program} {w : World} {A : Around} {E : Value → Shared → Prop} {s : Shared} {h₀ : Heap} {L : Addr} {m : PySem.Str → Option Value} {news : Led}
theorem fullmatch_ok {y : PySem.Str} {t : Tok} {n : Nat} {Q : Value → Shared → Prop} (he : ended y true = true) (F : Fr h₀ L s.heap m) (N : News h₀ L s.heap news) (hp : s.heap.get? 43 = some ⟨.type "re.Pattern", none, .fields patV, #[]⟩) (hc : s.heap.get? 42 = some ⟨.type "tuple", none, .seq codeV n, #[]⟩)
    (hx : y.length ≤ 1000) (h1 : ∀ D h', Fr h₀ L h' m → News h₀ L h' news → Q (.ref D) { s with heap := h' }) :
    wpAny (model prog w) A (call (.builtin "re.Pattern.fullmatch") [.ref 43, .str y t]) Q E s :=
  fullmatch_call F N hp hc hx he (fun _ => h1) fun h => nomatch h
theorem split_one {x y p : PySem.Str} {t u : Tok} {Q : Value → Shared → Prop} (hF : Fr h₀ L s.heap m) (hN : News h₀ L s.heap news) (e : Txt.split x y = [p]) (hy : (y.length == 0) = false) (hz : x.length ≤ 1000)
    (h : ∀ D t' h' k, Fr h₀ L h' m → News h₀ L h' ((D, listOf (List.toArray [Value.str p t']) 0) :: news) → (∀ a ∈ news, a.1 < D) → Q (.ref D) { s with heap := h', toks := k }) :
    wpAny (model prog w) A (call (.builtin "str.split") [.str x t, .str y u]) Q E s := by
  refine splitN1 hF hN hy (fun l h' k el F N => ?_) (by rw [PySem.sizeLine_eq]; omega)
  rw [e] at el
  match l, el with
  | [(q, t')], el =>
    have eq : q = p := by simpa using el
    subst eq
    exact h _ t' h' k F N fun p hp => Heap.lt_size (hN p hp).1
theorem lower_is {x y : PySem.Str} {t : Tok} {Q : Value → Shared → Prop} (e : Txt.lower x = y) (hz : x.length ≤ 1000) (h : ∀ t' k, Q (.str y t') { s with toks := k }) : wpAny (model prog w) A (call (.builtin "str.lower") [.str x t]) Q E s :=
  SCL.lower (by omega) fun _ => by rw [e]; exact h _ _
theorem starts_is {x y : PySem.Str} {t u : Tok} {b : Bool} {Q : Value → Shared → Prop} (e : Txt.startswith x y = b) (h : Q (.bool b) s) : wpAny (model prog w) A (call (.builtin "str.startswith") [.str x t, .str y u]) Q E s :=
  SC.startswith (by rw [e]; exact h)
end
theorem eq_no {prog : Program} {w : World} {A : Around} {E : Value → Shared → Prop} {s : Shared} {x y : PySem.Str} {t u : Tok} {Q : Value → Shared → Prop} (e : (x == y) = false) (h : Q (.bool false) s) : wpAny (model prog w) A (compareOp .Eq (.str x t) (.str y u)) Q E s :=
  P.eq_str (by rw [← StrLaws.beq_toList]; exact (show (x.cps == y.cps) = false from by
    cases q : (x.cps == y.cps) with
    | false => rfl
    | true => rw [PySem.Str.ext' (eq_of_beq q), beq_self_eq_true] at e; cases e) ▸ h)
theorem le_app {x y : PySem.Str} {a b : Nat} (hx : x.length ≤ a) (hy : y.length ≤ b) : (x ++ y).length ≤ a + b := by
  rw [PySem.Str.length_append]; omega
theorem len_ok {x : PySem.Str} {b : Nat} (h : x.length ≤ b) (d : b ≤ 2000) : x.length ≤ sizeLine := Nat.le_trans (Nat.le_trans h d) (by rw [PySem.sizeLine_eq]; decide)
end
section
def BvOut (P : Prop) (news nw : Led) (r : Value) : Prop := nw = news ∧ ((P ∧ r = .bool true) ∨ (¬ P ∧ r = .bool false))
theorem bv_t {P : Prop} {news : Led} (h : P) : BvOut P news news (.bool true) := ⟨rfl, .inl ⟨h, rfl⟩⟩
theorem bv_f {P : Prop} {news : Led} (h : ¬ P) : BvOut P news news (.bool false) := ⟨rfl, .inr ⟨h, rfl⟩⟩
theorem bv_d {P q : Prop} [Decidable q] {news : Led} (h : q ↔ P) : BvOut P news news (.bool (decide q)) := by
  by_cases hq : q
  · rw [decide_eq_true hq]; exact bv_t (h.mp hq)
  · rw [decide_eq_false hq]; exact bv_f fun p => hq (h.mpr p)
set_option maxHeartbeats 2000000 in
theorem bv_ii (w : World) (mean : ExcName → Option Value) (mg mb : PySem.Str → Option Value) (news : Led) (s e n : Int) (ts te tn : Tok) :
   Ctr 1 w mean mg mb 73 [.int s ts, .int e te, .int n tn] news (BvOut (s < e ∧ 0 ≤ s ∧ s < n) news) := by
  k_with_none
  w_top off
  k_with "execs nil" => (k_here; (with_reducible refine wpAny_execs_nil ?_))
  k_with "execs cons" => (k_here; (try dsimp only); (with_reducible refine wpAny_execs_cons ?_))
  k_with "exec If" => (k_here; refine wpAny_If ?_)
  unfold Ctr
  dsimp only [LO]
  k_fill
  intros
  rename_i hret
  refine wpAny_call ?_
  k_dflt cell_enter
  (repeat' (first | (k_unfold; (try dsimp only)) | walk1 | (dsimp only; walk1)))
  all_goals first
    | (with_reducible refine hret (Value.bool false) news _ _ (bv_f ?_) ?_ ?_) <;> first | k_asm | omega
    | (with_reducible refine hret (Value.bool true) news _ _ (bv_t ?_) ?_ ?_) <;> first | k_asm | trivial | omega
    | (with_reducible refine hret (Value.bool (decide _)) news _ _ (bv_d ?_) ?_ ?_) <;> first | k_asm | omega
set_option maxHeartbeats 2000000 in
theorem bv_in (w : World) (mean : ExcName → Option Value) (mg mb : PySem.Str → Option Value) (news : Led) (s e : Int) (ts te : Tok) :
   Ctr 1 w mean mg mb 73 [.int s ts, .int e te, .none] news (BvOut (0 ≤ s ∧ s < e) news) := by
  k_with_none
  w_top off
  k_with "execs nil" => (k_here; (with_reducible refine wpAny_execs_nil ?_))
  k_with "execs cons" => (k_here; (try dsimp only); (with_reducible refine wpAny_execs_cons ?_))
  k_with "exec If" => (k_here; refine wpAny_If ?_)
  unfold Ctr
  dsimp only [LO]
  k_fill
  intros
  rename_i hret
  refine wpAny_call ?_
  k_dflt cell_enter
  (repeat' (first | (k_unfold; (try dsimp only)) | walk1 | (dsimp only; walk1)))
  all_goals first
    | (with_reducible refine hret (Value.bool false) news _ _ (bv_f ?_) ?_ ?_) <;> first | k_asm | omega
    | (with_reducible refine hret (Value.bool true) news _ _ (bv_t ?_) ?_ ?_) <;> first | k_asm | trivial | omega
    | (with_reducible refine hret (Value.bool (decide _)) news _ _ (bv_d ?_) ?_ ?_) <;> first | k_asm | omega
set_option maxHeartbeats 2000000 in
theorem bv_ni (w : World) (mean : ExcName → Option Value) (mg mb : PySem.Str → Option Value) (news : Led) (n : Int) (tn : Tok) :
   Ctr 1 w mean mg mb 73 [.none, .none, .int n tn] news (BvOut (0 ≤ n) news) := by
  k_with_none
  w_top off
  k_with "execs nil" => (k_here; (with_reducible refine wpAny_execs_nil ?_))
  k_with "execs cons" => (k_here; (try dsimp only); (with_reducible refine wpAny_execs_cons ?_))
  k_with "exec If" => (k_here; refine wpAny_If ?_)
  unfold Ctr
  dsimp only [LO]
  k_fill
  intros
  rename_i hret
  refine wpAny_call ?_
  k_dflt cell_enter
  (repeat' (first | (k_unfold; (try dsimp only)) | walk1 | (dsimp only; walk1)))
  all_goals first
    | (with_reducible refine hret (Value.bool false) news _ _ (bv_f ?_) ?_ ?_) <;> first | k_asm | omega
    | (with_reducible refine hret (Value.bool true) news _ _ (bv_t ?_) ?_ ?_) <;> first | k_asm | trivial | omega
    | (with_reducible refine hret (Value.bool (decide _)) news _ _ (bv_d ?_) ?_ ?_) <;> first | k_asm | omega
set_option maxHeartbeats 2000000 in
theorem bv_nn (w : World) (mean : ExcName → Option Value) (mg mb : PySem.Str → Option Value) (news : Led) :
   Ctr 1 w mean mg mb 73 [.none, .none, .none] news (BvOut (True) news) := by
  k_with_none
  w_top off
  k_with "execs nil" => (k_here; (with_reducible refine wpAny_execs_nil ?_))
  k_with "execs cons" => (k_here; (try dsimp only); (with_reducible refine wpAny_execs_cons ?_))
  k_with "exec If" => (k_here; refine wpAny_If ?_)
  unfold Ctr
  dsimp only [LO]
  k_fill
  intros
  rename_i hret
  refine wpAny_call ?_
  k_dflt cell_enter
  (repeat' (first | (k_unfold; (try dsimp only)) | walk1 | (dsimp only; walk1)))
  all_goals first
    | (with_reducible refine hret (Value.bool false) news _ _ (bv_f ?_) ?_ ?_) <;> first | k_asm | omega
    | (with_reducible refine hret (Value.bool true) news _ _ (bv_t ?_) ?_ ?_) <;> first | k_asm | trivial | omega
    | (with_reducible refine hret (Value.bool (decide _)) news _ _ (bv_d ?_) ?_ ?_) <;> first | k_asm | omega
end
section
section
variable {un pl ld a b : PySem.Str} {n f l : Int}
theorem T_s0 (h : (ld == PySem.Str.ofString "*") = true) (p : (pl == PySem.Str.ofString "*") = true) : readG un pl ld a b = some (PySem.Str.empty ++ un ++ PySem.Str.ofString " */" ++ PySem.Str.ofString "*") := G_s0 h p
theorem T_s1 (h : (ld == PySem.Str.ofString "*") = false) (e : numF ld = some n) (p : (pl == PySem.Str.ofString "*") = true) (q : 0 ≤ n) : readG un pl ld a b = some (PySem.Str.empty ++ un ++ PySem.Str.ofString " */" ++ PySem.Str.ofString (toString n)) := G_s1 h e p q
theorem T_r0 (h : (ld == PySem.Str.ofString "*") = true) (p : (pl == PySem.Str.ofString "*") = false) (d : (Builtin.Str.occurrences pl (PySem.Str.ofString "-") 0 pl.length 1).isEmpty = false)
    (ea : numF a = some f) (eb : numF b = some l) (q : 0 ≤ f ∧ f < l + 1) : readG un pl ld a b = some (PySem.Str.empty ++ un ++ PySem.Str.ofString " " ++ PySem.Str.ofString (toString f) ++ PySem.Str.ofString "-" ++ PySem.Str.ofString (toString l) ++ PySem.Str.ofString "/" ++ PySem.Str.ofString "*") := G_r0 h p d ea eb q.1 q.2
theorem T_r1 (h : (ld == PySem.Str.ofString "*") = false) (e : numF ld = some n) (p : (pl == PySem.Str.ofString "*") = false) (d : (Builtin.Str.occurrences pl (PySem.Str.ofString "-") 0 pl.length 1).isEmpty = false)
    (ea : numF a = some f) (eb : numF b = some l) (q : f < l + 1 ∧ 0 ≤ f ∧ f < n) : readG un pl ld a b = some (PySem.Str.empty ++ un ++ PySem.Str.ofString " " ++ PySem.Str.ofString (toString f) ++ PySem.Str.ofString "-" ++ PySem.Str.ofString (toString l) ++ PySem.Str.ofString "/" ++ PySem.Str.ofString (toString n)) := G_r1 h e p d ea eb q.2.1 (by omega) q.2.2
theorem T_n0 (p : (pl == PySem.Str.ofString "*") = false) (ea : numF a = some f) (eb : numF b = some l) (q : ¬ (0 ≤ f ∧ f < l + 1)) : readG un pl ld a b = none := G_no p ea eb q
theorem T_n1 (h : (ld == PySem.Str.ofString "*") = false) (e : numF ld = some n) (p : (pl == PySem.Str.ofString "*") = false) (ea : numF a = some f) (eb : numF b = some l) (q : ¬ (f < l + 1 ∧ 0 ≤ f ∧ f < n)) : readG un pl ld a b = none := by
  by_cases h0 : 0 ≤ f ∧ f < l + 1
  · exact G_n4 h e p ea eb fun hn => q ⟨h0.2, h0.1, hn⟩
  · exact G_no p ea eb h0
end
local macro_rules | `(tactic| k_room) => `(tactic| ((try simp only [depth_mark, depth_under_make, depth_under_kw, depth_in1, depth_deeper]); (try dsimp only [ktrTop]); omega))
local macro_rules | `(tactic| k_units) => `(tactic| ((try simp only [units_under_make, units_in1, units_deeper, Around.mark_units]); (try dsimp only [ktrTop]); omega))
local macro_rules | `(tactic| units_room) => `(tactic| ((try simp only [units_under_make, units_in1, units_deeper, Around.mark_units]); (try dsimp only [ktrTop]); omega))
local macro_rules | `(tactic| k_room) => `(tactic| ((try simp only [depth_mark, depth_under_make, depth_under_kw, depth_in1, depth_deeper]); (try dsimp only [ktrTop]); (try simp only [Nat.add_assoc, Nat.reduceAdd]); refine Nat.lt_of_le_of_lt (Nat.add_le_add_left ?_ _) (by with_reducible assumption); decide))
set_option maxHeartbeats 8000000 in
theorem told_ctr (w : World) (mean : ExcName → Option Value) (mg mb : PySem.Str → Option Value) (news : Led) (x s un rest pl ld a b : PySem.Str) (C : CB x s un rest pl ld a b) (t : Tok) :
   CtrL 4 w mean mg mb 232 [.str x t] news (fun nw r => nw = news ∧ ∃ tx, r = optS (readG un pl ld a b) tx) := by
  k_with_none
  w_top off
  k_with "call builtin:str.strip" => (k_here; first | ((with_reducible refine strip_is (by with_reducible assumption) (by omega) ?_); intro t9 k9 hl9) | ((with_reducible refine strip_is rfl (by omega) ?_); intro t9 k9 hl9))
  k_with "call builtin:str.partition" => (k_here; (k_dflt (refine' partition_is ?z9F ?z9N ?z9e ?z9y ?z9z ?_; (case z9F => k_asm); (case z9N => k_asm); (case z9e => first | exact ⟨by with_reducible assumption, by with_reducible assumption⟩ | (rename (_ → _ ∧ _) => da9; exact da9 (by with_reducible assumption))); (case z9y => decide); (case z9z => omega))); intro D' q' _ _ _ _ _ F' N' l1; (try k_lt l1))
  k_with "getMethod ref" => (k_here; (with_reducible show wpAny _ _ (getMethod (Value.ref 43) (PySem.Str.ofString "fullmatch") _) _ _ _); k_dflt (refine' getMethod_fm (patAt ?z9F ?z9X ?z9l) ?_; (case z9F => k_asm); (case z9X => k_asm); (case z9l => k_is)))
  k_with "call builtin:re.Pattern.fullmatch" => (k_here; k_dflt (refine' fullmatch_pl ?z9P ?z9F ?z9N (patAt ?z9F2 ?z9X2 ?z9l2) (codeAt ?z9F3 ?z9X3 ?z9l3) ?z9x ?z9y ?_ ?_; (case z9P => assumption); (case z9F => k_asm); (case z9N => k_asm); (case z9F2 => k_asm); (case z9X2 => k_asm); (case z9l2 => k_is); (case z9F3 => k_asm); (case z9X3 => k_asm); (case z9l3 => k_is); (case z9x => omega); (case z9y => omega)); (all_goals intros))
  k_with "call type:int" => (k_here; (with_reducible refine KIN.call_text (by assumption) (by omega) ?_))
  k_with "execs nil" => (k_here; (with_reducible refine wpAny_execs_nil ?_))
  k_with "execs cons" => (k_here; (try dsimp only); (try k_gentoks); (with_reducible refine wpAny_execs_cons ?_))
  k_with "exec If" => (k_here; refine wpAny_If ?_)
  k_with "eval Call" => (k_here; k_dflt (refine Call_ ?_))
  k_with "eval Call Attribute" => (k_here; k_dflt (refine MethodCall_ ?_))
  k_with "call ref" => (k_here; (fail_if_success (with_reducible show wpAny _ _ (call (Value.ref 66) _) _ _ _)); (with_reducible rename Fr _ _ _ _ => kF9); (with_reducible rename Frag.In _ _ => kX9); k_dflt (first
  | (refine wpAny_call ?_; (refine' code_def ?z9k1 kF9 kX9 ?z9k4 ?z9k5 ?z9kA ?z9kF ?z9kK ?z9k6 ?z9k7 ?z9k8 ?z9k9 ?z9kB ?_ ?z9c2 ?z9c3 ?z9c4 ?z9c5; (case z9kA => exact rfl); (case z9kF => exact rfl); (case z9kK => exact rfl); (case z9k1 => with_reducible assumption); (case z9k4 => k_asm); (case z9k5 => with_reducible assumption); (case z9k6 => k_is); (case z9k7 => k_is); (case z9k8 => k_room); (case z9k9 => first | exact BindsTo.of_eq rfl | exact binds_K (Frag.In.keeps kX9 (Fr.keep kF9)) rfl (by k_is) rfl rfl rfl); (case z9c5 => decide); (case z9kB => exact locs rfl); (case z9c2 => exact rfl); (case z9c3 => exact rfl); (case z9c4 => exact rfl); k_whole; intro g' L' h' FG' F' N' B' X' T'; (try dsimp only); (try k_lift B'); (try k_fold)))
  | (refine' call_cls kF9 kX9 ?z9k3 ?z9k4 ?z9k5 ?z9k6 ?_; (case z9k3 => k_asm); (case z9k4 => k_is); (case z9k5 => k_is); (case z9k6 => k_is); k_whole; intro x' d' h' kF9 N' l1 l2; (try k_lt l1); (try k_lt2 l2); (try k_sweep); (refine' code_def ?z9k1 kF9 kX9 ?z9k4 ?z9k5 ?z9kA ?z9kF ?z9kK ?z9k6 ?z9k7 ?z9k8 ?z9k9 ?z9kB ?_ ?z9c2 ?z9c3 ?z9c4 ?z9c5; (case z9kA => exact rfl); (case z9kF => exact rfl); (case z9kK => exact rfl); (case z9k1 => with_reducible assumption); (case z9k4 => k_asm); (case z9k5 => with_reducible assumption); (case z9k6 => k_is); (case z9k7 => k_is); (case z9k8 => k_room); (case z9k9 => first | exact BindsTo.of_eq rfl | exact binds_K (Frag.In.keeps kX9 (Fr.keep kF9)) rfl (by k_is) rfl rfl rfl); (case z9c5 => decide); (case z9kB => exact locs rfl); (case z9c2 => exact rfl); (case z9c3 => exact rfl); (case z9c4 => exact rfl); k_whole; intro g' L' h' FG' F' N' B' X' T'; (try dsimp only); (try k_lift B'); (try k_fold)))))
  k_with "callWith ref" => (k_here; (with_reducible rename Fr _ _ _ _ => kF9); (with_reducible rename Frag.In _ _ => kX9); k_dflt (first
  | (refine' callWith_K kX9 ?z9k2 ?_; (case z9k2 => k_is); k_whole)
  | (refine' callWith_K0 (Frag.In.keeps kX9 (Fr.keep kF9)) ?z9k2 ?_; (case z9k2 => k_is); k_whole)
  | (refine' callWith_KW kX9 ?z9k2 ?z9k3 ?_; (case z9k2 => k_is); (case z9k3 => exact rfl); k_whole)))
  k_with "binaryOp Sub int int" => (k_here; (with_reducible refine sub_one ?_); intro t9)
  k_with "formatField int" => (k_here; (with_reducible refine field_sm (by with_reducible assumption) ?_); intro t9 k9 hl9)
  k_with "exec Raise some none" => (k_here; (with_reducible show wpAny _ _ (exec (Stmt.Raise (some (PySem.Expr.Name (PySem.Str.ofString "ValueError") _)) none _) _) _ _ _); (with_reducible rename Fr _ _ _ _ => kF); k_dflt (refine' Raise_classB ?z9hh excClass_ValueError self_VE ?z9hx ?_; (case z9hh => rfl); (case z9hx => (refine' name_B kF ?z9k1 ?z9k2 ?z9k3 ?z9k4 ?z9k5 ?_; (case z9k1 => k_asm); (case z9k2 => k_asm); (case z9k3 => k_is); (case z9k4 => boot_by_name); (case z9k5 => decide); exact ⟨rfl, rfl⟩))); intro h' e' x')
  k_with "call ref" => (k_here; (with_reducible show wpAny _ _ (call (Value.ref 73) _) _ _ _); k_dflt (first
  | (refine' ctr_use (bv_ii _ _ _ _ _ _ _ _ _ _ _) ?z9B ?z9F ?z9X ?z9N ?z9T ?z9hk ?z9hd ?z9hu ?_; (case z9B => k_asm); (case z9F => k_asm); (case z9X => k_asm); (case z9N => k_asm); (case z9T => k_asm); (case z9hk => exact rfl); (case z9hd => k_room); (case z9hu => k_units))
  | (refine' ctr_use (bv_in _ _ _ _ _ _ _ _ _) ?z9B ?z9F ?z9X ?z9N ?z9T ?z9hk ?z9hd ?z9hu ?_; (case z9B => k_asm); (case z9F => k_asm); (case z9X => k_asm); (case z9N => k_asm); (case z9T => k_asm); (case z9hk => exact rfl); (case z9hd => k_room); (case z9hu => k_units))
  | (refine' ctr_use (bv_ni _ _ _ _ _ _ _) ?z9B ?z9F ?z9X ?z9N ?z9T ?z9hk ?z9hd ?z9hu ?_; (case z9B => k_asm); (case z9F => k_asm); (case z9X => k_asm); (case z9N => k_asm); (case z9T => k_asm); (case z9hk => exact rfl); (case z9hd => k_room); (case z9hu => k_units))
  | (refine' ctr_use (bv_nn _ _ _ _ _) ?z9B ?z9F ?z9X ?z9N ?z9T ?z9hk ?z9hd ?z9hu ?_; (case z9B => k_asm); (case z9F => k_asm); (case z9X => k_asm); (case z9N => k_asm); (case z9T => k_asm); (case z9hk => exact rfl); (case z9hd => k_room); (case z9hu => k_units))); intro r9 nw9 h9 tk9 O9 F9 N9; unfold BvOut at O9; obtain ⟨e9, O9⟩ := O9; subst e9; (rcases O9 with ⟨p9, e9⟩ | ⟨p9, e9⟩ <;> subst e9 <;> first | (exfalso; omega) | (exact absurd trivial p9) | (exfalso; split at p9 <;> omega) | ((try dsimp only); (try k_fold))))
  k_with "truthy str" => (k_here; (with_reducible refine truthy_ne (by with_reducible assumption) (by omega) ?_); intro k9)
  obtain ⟨hs, p1, p3, sl, q1, q3, da, ll, la, lb, xl, sl', ul, rl, pll, ldl, al, bl, ne⟩ := C
  unfold CtrL
  dsimp only [LO]
  k_fill
  intros
  rename_i hret
  refine wpAny_call ?_
  k_dflt (refine' code_defS0 ?k1 ?k2 ?k3 ?k4 ?k5 ?kA ?k6 ?k7 ?k8 ?k9 ?kB ?_ ?cK ?c2 ?c3 ?c4 ?c5; (case kA => exact rfl); (case k2 => k_asm); (case k1 => k_asm); (case k3 => k_asm); (case k4 => k_asm); (case k5 => k_asm); (case k6 => k_is); (case k7 => k_is); (case k8 => (refine Nat.lt_of_le_of_lt (Nat.le_add_right _ _) (by assumption))); (case k9 => exact BindsTo.of_eq rfl); (case kB => exact locs rfl); (case cK => assumption); (case c2 => exact rfl); (case c3 => exact rfl); (case c4 => exact rfl); (case c5 => decide); k_whole; intro g' L' h' FG' F' N' B' X' T' D'; (try dsimp only); (try k_lift B'); (try k_fold))
  (repeat' (first | (k_unfold; (try dsimp only)) | walk1 | (dsimp only; walk1)))
  all_goals first
    | (refine' hret Value.none news _ _ ⟨rfl, 0, (congrArg (optS · 0) (show readG un pl ld a b = none from ?e)).symm⟩ ?f ?n
       case e => with_reducible first
         | exact G_l (by assumption) (by assumption)
         | exact G_d (by assumption) (by assumption)
         | exact G_a (by assumption) (by assumption)
         | exact G_b (by assumption) (by assumption)
         | exact G_s2 (by assumption) (by assumption) (by assumption) (by assumption)
         | exact T_n0 (by assumption) (by assumption) (by assumption) (by assumption)
         | exact T_n1 (by assumption) (by assumption) (by assumption) (by assumption) (by assumption) (by assumption)
       case f => k_asm
       case n => first | k_asm | exact cb_drop (by with_reducible assumption) (by intro p hp; repeat (first | exact hp | apply List.Mem.tail)))
    | (refine' hret (Value.str _ _) news _ _ ⟨rfl, _, (congrArg (optS · _) (show readG un pl ld a b = some _ from ?e)).symm⟩ ?f ?n
       case e => with_reducible first
         | exact T_s0 (by assumption) (by assumption)
         | exact T_s1 (by assumption) (by assumption) (by assumption) (by assumption)
         | exact T_r0 (by assumption) (by assumption) (by assumption) (by assumption) (by assumption) (by assumption)
         | exact T_r1 (by assumption) (by assumption) (by assumption) (by assumption) (by assumption) (by assumption) (by assumption)
       case f => k_asm
       case n => first | k_asm | exact cb_drop (by with_reducible assumption) (by intro p hp; repeat (first | exact hp | apply List.Mem.tail)))
end
section
/-- the same fall of a text, as _law_read makes it -/
structure RB (x s un rest pl ld a b : PySem.Str) : Prop where
  hs : Txt.stripChars x (PySem.Str.ofString " \t") = s
  sp : (Builtin.Str.occurrences s (PySem.Str.ofString " ") 0 s.length 1).isEmpty = false
  sf : (Builtin.Str.occurrences (Txt.slice s (some (Txt.find s (PySem.Str.ofString " "))) none) (PySem.Str.ofString "/") 0 (Txt.slice s (some (Txt.find s (PySem.Str.ofString " "))) none).length 1).isEmpty = false
  un_ : Txt.slice s none (some (Txt.find s (PySem.Str.ofString " "))) = un
  rest_ : Txt.slice s (some (Txt.find s (PySem.Str.ofString " ") + 1)) none = rest
  sl : (Builtin.Str.occurrences rest (PySem.Str.ofString "/") 0 rest.length 1).isEmpty = false
  pl_ : Txt.slice rest none (some (Txt.find rest (PySem.Str.ofString "/"))) = pl
  ld_ : Txt.slice rest (some (Txt.find rest (PySem.Str.ofString "/") + 1)) none = ld
  da : (Builtin.Str.occurrences pl (PySem.Str.ofString "-") 0 pl.length 1).isEmpty = false → Txt.slice pl none (some (Txt.find pl (PySem.Str.ofString "-"))) = a ∧ Txt.slice pl (some (Txt.find pl (PySem.Str.ofString "-") + 1)) none = b
  rep0 : ∀ len, Txt.replace (un ++ PySem.Str.ofString " " ++ PySem.Str.ofString "{}/" ++ lenT len) (PySem.Str.ofString "{}") (PySem.Str.ofString "*") = starT un len
  rep1 : ∀ f l len, Txt.replace (un ++ PySem.Str.ofString " " ++ PySem.Str.ofString "{}/" ++ lenT len) (PySem.Str.ofString "{}") (PySem.Str.ofString (toString f) ++ PySem.Str.ofString "-" ++ PySem.Str.ofString (toString l)) = rangeT un f l len
  xl : x.length ≤ 90
  sl' : s.length ≤ 90
  ul : un.length ≤ 90
  rl : rest.length ≤ 90
  pll : pl.length ≤ 90
  ldl : ld.length ≤ 90
  al : a.length ≤ 90
  bl : b.length ≤ 90
section
variable {prog : Program} {w : World} {A : Around} {E : Value → Shared → Prop} {s : Shared} {h₀ : Heap} {L : Addr} {m : PySem.Str → Option Value} {news : Led}
theorem slice_ns_is {value slice : PySem.Expr} {x y : PySem.Str} {t uj : Tok} {j : Int} {Q : Value → Shared → Prop} (e : Txt.slice x none (some j) = y) (hF : Fr h₀ L s.heap m) (hN : News h₀ L s.heap news) (hz : x.length ≤ 1000)
    (h : ∀ h' t' k, Fr h₀ L h' m → News h₀ L h' news → Q (.str y t') { s with heap := h', toks := k })
    (hs : subscripted slice false (.str x t) (.ref s.heap.objs.size) = operate [.ref s.heap.objs.size, .str x t] (getItem (.str x t) (.ref s.heap.objs.size)) := by with_unfolding_all rfl)
    (ht : ∀ r, letTemporaryGo value (.str x t) r = pure () := by intro _; with_unfolding_all rfl) :
    wpAny (model prog w) A (subscriptTail value slice (.str x t) (.ref s.heap.objs.size)) Q E { s with heap := s.heap.push { cls := .type "slice", data := .fields #[.none, .int j uj, .none] } } :=
  slice_strN_ns_len hF hN (fun h' t' k a b _ => by rw [e]; exact h h' t' k a b) hs ht (Nat.le_trans hz (by rw [PySem.sizeLine_eq]; decide))
theorem slice_sn_is {value slice : PySem.Expr} {x y : PySem.Str} {t ui : Tok} {i : Int} {Q : Value → Shared → Prop} (e : Txt.slice x (some i) none = y) (hF : Fr h₀ L s.heap m) (hN : News h₀ L s.heap news) (hz : x.length ≤ 1000)
    (h : ∀ h' t' k, Fr h₀ L h' m → News h₀ L h' news → y.length ≤ x.length → Q (.str y t') { s with heap := h', toks := k })
    (hs : subscripted slice false (.str x t) (.ref s.heap.objs.size) = operate [.ref s.heap.objs.size, .str x t] (getItem (.str x t) (.ref s.heap.objs.size)) := by with_unfolding_all rfl)
    (ht : ∀ r, letTemporaryGo value (.str x t) r = pure () := by intro _; with_unfolding_all rfl) :
    wpAny (model prog w) A (subscriptTail value slice (.str x t) (.ref s.heap.objs.size)) Q E { s with heap := s.heap.push { cls := .type "slice", data := .fields #[.int i ui, .none, .none] } } :=
  slice_strN_sn_len hF hN (fun h' t' k a b c => by rw [e] at c ⊢; exact h h' t' k a b c) hs ht (Nat.le_trans hz (by rw [PySem.sizeLine_eq]; decide))
theorem index_is {x y : PySem.Str} {t u : Tok} {Q : Value → Shared → Prop} (ho : (Builtin.Str.occurrences x y 0 x.length 1).isEmpty = false) (h : ∀ t' k, Q (.int (Txt.find x y) t') { s with toks := k }) :
    wpAny (model prog w) A (call (.builtin "str.index") [.str x t, .str y u]) Q E s := by
  cases e : Builtin.Str.occurrences x y 0 x.length 1 with
  | nil => rw [e] at ho; cases ho
  | cons i r =>
    have f : Txt.find x y = (i : Int) := by simp [Txt.find, e]
    refine SC.index e ?_
    rw [← f]
    exact h _ _
theorem replace_is {x y z v : PySem.Str} {t u w' : Tok} {Q : Value → Shared → Prop} (e : Txt.replace x y z = v) (hu : u ≠ 0) (hw : w' ≠ 0) (huw : u ≠ w') (hyz : (y == z) = false) (hx : x.length ≤ 400) (hz : z.length ≤ 400) (h : ∀ t' k, Q (.str v t') { s with toks := k }) :
    wpAny (model prog w) A (call (.builtin "str.replace") [.str x t, .str y u, .str z w']) Q E s := by
  refine SC.replace hu hw huw hyz ?_ fun t' k => by rw [e]; exact h t' k
  have h1 : (x.length + 1) * z.length ≤ 401 * 400 := Nat.mul_le_mul (by omega) hz
  omega
theorem add_tok {x y : PySem.Str} {t u : Tok} {Q : Value → Shared → Prop} (hx : (x.length == 0) = false) (hy : (y.length == 0) = false) (hz : x.length + y.length ≤ 1000)
    (h : (x ++ y).length = x.length + y.length → Q (.str (x ++ y) s.toks) { s with toks := s.toks + 1 }) : wpAny (model prog w) A (binaryOp .Add (.str x t) (.str y u)) Q E s := by
  refine binaryOp_concat (typeIs_str s x t) (typeIs_str s y u) PySem.noFill_str_add PySem.seq_str_add ?_
  refine call_gives F.slot_str_add (typeIs_str _ _ _) F.entry_str_add (F.args_str_add_2 _ _) (gives_str_add x y t u) ?_
  rw [hx, hy]
  refine ⟨?_, h (PySem.Str.length_append ..)⟩
  show (x ++ y).length ≤ sizeLine
  rw [PySem.Str.length_append, PySem.sizeLine_eq]
  omega
end
end
section
theorem ne_dash (x y : PySem.Str) : (PySem.Str.ofString "{}" == x ++ PySem.Str.ofString "-" ++ y) = false := by
  cases h : (PySem.Str.ofString "{}" == x ++ PySem.Str.ofString "-" ++ y) with
  | false => rfl
  | true =>
    have e := eq_of_beq h
    have m : 45 ∈ (x ++ PySem.Str.ofString "-" ++ y).cps.toList := by
      rw [PySem.Str.cps_append, PySem.Str.cps_append, Array.toList_append, Array.toList_append]
      exact List.mem_append.mpr (.inl (List.mem_append.mpr (.inr (by decide +kernel))))
    rw [← e] at m
    exact absurd m (by decide +kernel)
theorem str_sm2 {prog : Program} {w : World} {A : Around} {E : Value → Shared → Prop} {s : Shared} {n : Int} {t : Tok} {Q : Value → Shared → Prop} (hn : Sm n) (h0 : 0 ≤ n) (h : (PySem.Str.ofString (toString n)).length ≤ 110 → 1 ≤ (PySem.Str.ofString (toString n)).length → Q (.str (PySem.Str.ofString (toString n)) s.toks) { s with toks := s.toks + 1 }) :
    wpAny (model prog w) A (call (.type "str") [.int n t]) Q E s := str_sm hn fun h1 => h h1 (PySem.W.KLn.one_le h0)
theorem bne_f {x y : PySem.Str} (h : (x != y) = false) (h' : (x == y) = false) : False := by
  unfold bne at h; rw [h'] at h; cases h
theorem bne_t {x y : PySem.Str} (h : (x != y) = true) (h' : (x == y) = true) : False := by
  unfold bne at h; rw [h'] at h; cases h
section
variable {un pl ld a b : PySem.Str} {n f l : Int} {len : Option Int}
theorem R_n2 (p : (pl == PySem.Str.ofString "*") = false) (ea : numF a = some f) (eb : numF b = some l) (q : ¬ f ≤ l) : readG un pl ld a b = none := G_no p ea eb fun h => by omega
theorem R_n4 (h : (ld == PySem.Str.ofString "*") = false) (e : numF ld = some n) (p : (pl == PySem.Str.ofString "*") = false) (ea : numF a = some f) (eb : numF b = some l) (q : n ≤ f) : readG un pl ld a b = none := G_n4 h e p ea eb (by omega)
theorem R_r0 (h : (ld == PySem.Str.ofString "*") = true) (p : (pl == PySem.Str.ofString "*") = false) (d : (Builtin.Str.occurrences pl (PySem.Str.ofString "-") 0 pl.length 1).isEmpty = false)
    (ea : numF a = some f) (eb : numF b = some l) (q : 0 ≤ f) (r : f ≤ l) : readG un pl ld a b = some (rangeT un f l none) := G_r0 h p d ea eb q (by omega)
theorem R_r1 (h : (ld == PySem.Str.ofString "*") = false) (e : numF ld = some n) (p : (pl == PySem.Str.ofString "*") = false) (d : (Builtin.Str.occurrences pl (PySem.Str.ofString "-") 0 pl.length 1).isEmpty = false)
    (ea : numF a = some f) (eb : numF b = some l) (q : 0 ≤ f) (r : f ≤ l) (t : ¬ n ≤ f) : readG un pl ld a b = some (rangeT un f l (some n)) := G_r1 h e p d ea eb q (by omega) (by omega)
end
local macro_rules | `(tactic| k_room) => `(tactic| ((try simp only [depth_mark, depth_under_make, depth_under_kw, depth_in1, depth_deeper]); (try dsimp only [ktrTop]); (try simp only [Nat.add_assoc, Nat.reduceAdd]); refine Nat.lt_of_le_of_lt (Nat.add_le_add_left ?_ _) (by with_reducible assumption); decide))
set_option maxHeartbeats 8000000 in
theorem read_ctr (w : World) (mean : ExcName → Option Value) (mg mb : PySem.Str → Option Value) (news : Led) (x s un rest pl ld a b : PySem.Str) (C : RB x s un rest pl ld a b) (t : Tok) :
   Ctr 2 w mean mg mb 225 [.str x t] news (fun nw r => nw = news ∧ ∃ tx, r = optS (readG un pl ld a b) tx) := by
  k_with_none
  w_top off
  k_with "execs cons" => (k_here; first | ((with_reducible rename (_ != _) = false => hb9); exact (bne_f hb9 (by with_reducible assumption)).elim) | ((with_reducible rename (_ != _) = true => hb9); exact (bne_t hb9 (by with_reducible assumption)).elim) | ((try dsimp only); (with_reducible refine wpAny_execs_cons ?_); (with_reducible refine wpAny_with_toks (n := 1) (by (try dsimp only); omega) ?_)))
  k_with "execs nil" => (k_here; (with_reducible refine wpAny_execs_nil ?_))
  k_with "exec If" => (k_here; refine wpAny_If ?_)
  k_with "eval Call" => (k_here; k_dflt (refine Call_ ?_))
  k_with "eval Call Attribute" => (k_here; k_dflt (refine MethodCall_ ?_))
  k_with "callWith ref" => (k_here; (with_reducible rename Fr _ _ _ _ => kF9); (with_reducible rename Frag.In _ _ => kX9); k_dflt (refine' callWith_K kX9 ?z9k2 ?_; (case z9k2 => k_is); k_whole))
  k_with "call ref" => (k_here; (k_dflt (refine' ctr_use (num_ctr _ _ _ _ _ _ ?z9k1 _) ?z9B ?z9F ?z9X ?z9N ?z9T ?z9hk ?z9hd ?z9hu ?_; (case z9B => k_asm); (case z9F => k_asm); (case z9X => k_asm); (case z9N => k_asm); (case z9T => k_asm); (case z9hk => exact rfl); (case z9k1 => omega); (case z9hd => ktr_room); (case z9hu => ktr_units))); intro r9 nw9 h9 tk9 O9 F9 N9; obtain ⟨e9, tx9, e9'⟩ := O9; subst e9; subst e9'; (generalize hq9 : numF _ = o9); (rcases o9 with _ | n9 <;> ((try (have sm9 := num_sm (by omega) hq9)); (try dsimp only [optI]); (try k_fold))))
  k_with "call type:str" => (k_here; first | ((with_reducible refine str_sm2 (by with_reducible assumption) (by omega) ?_); intro hl9 ho9) | ((with_reducible refine str_sm (by with_reducible assumption) ?_); intro hl9))
  k_with "call builtin:str.strip" => (k_here; (with_reducible refine wpAny_with_toks (n := 1) (by (try dsimp only); omega) ?_); (with_reducible refine strip_is (by with_reducible assumption) (by omega) ?_); intro t9 k9 hl9 ht9; (try dsimp only at ht9); (try (k_unfold; (try dsimp only))); (with_reducible refine wpAny_with_toks (n := 1) (by (try dsimp only); omega) ?_))
  k_with "call builtin:str.replace" => (k_here; first
  | ((with_reducible refine' replace_is (by with_reducible assumption) ?z9a ?z9b ?z9c ?z9d ?z9e ?z9f ?_); (case z9a => ((try dsimp only); (show @Ne Nat _ _); omega)); (case z9b => ((try dsimp only); (show @Ne Nat _ _); omega)); (case z9c => ((try dsimp only); (show @Ne Nat _ _); omega)); (case z9d => first | decide +kernel | exact ne_dash _ _); (case z9e => ((try simp only [PySem.Str.length_append]); (try kopn_lits); omega)); (case z9f => ((try simp only [PySem.Str.length_append]); (try kopn_lits); omega)); intro t9 k9)
  | ((rename (∀ n : Int, Txt.replace (_ ++ PySem.Str.ofString (toString n)) _ (PySem.Str.ofString "*") = _) => r0); (with_reducible refine' replace_is (r0 _) ?z9a ?z9b ?z9c ?z9d ?z9e ?z9f ?_); (case z9a => ((try dsimp only); (show @Ne Nat _ _); omega)); (case z9b => ((try dsimp only); (show @Ne Nat _ _); omega)); (case z9c => ((try dsimp only); (show @Ne Nat _ _); omega)); (case z9d => first | decide +kernel | exact ne_dash _ _); (case z9e => ((try simp only [PySem.Str.length_append]); (try kopn_lits); omega)); (case z9f => ((try simp only [PySem.Str.length_append]); (try kopn_lits); omega)); intro t9 k9)
  | ((rename (∀ f l : Int, Txt.replace (_ ++ PySem.Str.ofString "*") _ _ = _) => r0); (with_reducible refine' replace_is (r0 _ _) ?z9a ?z9b ?z9c ?z9d ?z9e ?z9f ?_); (case z9a => ((try dsimp only); (show @Ne Nat _ _); omega)); (case z9b => ((try dsimp only); (show @Ne Nat _ _); omega)); (case z9c => ((try dsimp only); (show @Ne Nat _ _); omega)); (case z9d => first | decide +kernel | exact ne_dash _ _); (case z9e => ((try simp only [PySem.Str.length_append]); (try kopn_lits); omega)); (case z9f => ((try simp only [PySem.Str.length_append]); (try kopn_lits); omega)); intro t9 k9)
  | ((rename (∀ f l n : Int, Txt.replace _ _ _ = _) => r0); (with_reducible refine' replace_is (r0 _ _ _) ?z9a ?z9b ?z9c ?z9d ?z9e ?z9f ?_); (case z9a => ((try dsimp only); (show @Ne Nat _ _); omega)); (case z9b => ((try dsimp only); (show @Ne Nat _ _); omega)); (case z9c => ((try dsimp only); (show @Ne Nat _ _); omega)); (case z9d => first | decide +kernel | exact ne_dash _ _); (case z9e => ((try simp only [PySem.Str.length_append]); (try kopn_lits); omega)); (case z9f => ((try simp only [PySem.Str.length_append]); (try kopn_lits); omega)); intro t9 k9))
  k_with "call builtin:str.index" => (k_here; (with_reducible refine index_is (by with_reducible assumption) ?_); intro t9 k9)
  k_with "binaryOp Add str str" => (k_here; (with_reducible refine add_tok ?z9y ?z9z ?z9w ?_; (case z9y => first | decide +kernel | (simp only [beq_eq_false_iff_ne, ne_eq]; omega)); (case z9z => first | decide +kernel | (simp only [beq_eq_false_iff_ne, ne_eq]; omega)); (case z9w => ((try simp only [PySem.Str.length_append]); (try kopn_lits); omega))); intro hl9)
  k_with "subscriptTail Name Slice str ref" => ((with_reducible show wpAny _ _ (subscriptTail _ (PySem.Expr.Slice none (some _) none _) _ _) _ _ _); (with_reducible rename Fr _ _ _ _ => F'); (with_reducible rename News _ _ _ _ => N'); first | (refine slice_ns_is (s := ⟨_, _, _, _, _⟩) (by with_reducible assumption) F' N' (by omega) ?_; intro _ _ _ _ _) | (refine slice_ns_is (s := ⟨_, _, _, _, _⟩) (by (rename (_ → _ ∧ _) => da9); exact (da9 (by with_reducible assumption)).1) F' N' (by omega) ?_; intro _ _ _ _ _))
  k_with "subscriptTail Name Slice str ref" => ((with_reducible show wpAny _ _ (subscriptTail _ (PySem.Expr.Slice (some _) none none _) _ _) _ _ _); (with_reducible rename Fr _ _ _ _ => F'); (with_reducible rename News _ _ _ _ => N'); first | (refine slice_sn_is (s := ⟨_, _, _, _, _⟩) (by with_reducible assumption) F' N' (by omega) ?_; intro _ _ _ _ _ _) | (refine slice_sn_is (s := ⟨_, _, _, _, _⟩) (by (rename (_ → _ ∧ _) => da9); exact (da9 (by with_reducible assumption)).2) F' N' (by omega) ?_; intro _ _ _ _ _ _) | (refine slice_sn_is (s := ⟨_, _, _, _, _⟩) rfl F' N' (by omega) ?_; intro _ _ _ _ _ _))
  obtain ⟨hs, sp, sf, un_, rest_, sl, pl_, ld_, da, rep0, rep1, xl, sl', ul, rl, pll, ldl, al, bl⟩ := C
  have r00 := rep0 none
  have r0s := fun n : Int => rep0 (some n)
  have r10 := fun f l : Int => rep1 f l none
  have r1s := fun f l n : Int => rep1 f l (some n)
  clear rep0 rep1
  dsimp only [lenT] at r00 r0s r10 r1s
  unfold Ctr
  dsimp only [LO]
  k_fill
  intros
  rename_i hret
  refine wpAny_call ?_
  k_dflt cell_enter
  (repeat' (first | (k_unfold; (try dsimp only)) | ((with_reducible show (1 ≤ _ → _)); intro ht9; (try dsimp only at ht9)) | walk1 | (dsimp only; walk1)))
  all_goals first
    | exact (bne_f (by with_reducible assumption) (by with_reducible assumption)).elim
    | exact (bne_t (by with_reducible assumption) (by with_reducible assumption)).elim
    | (refine' hret Value.none news _ _ ⟨rfl, 0, (congrArg (optS · 0) (show readG un pl ld a b = none from ?e)).symm⟩ ?f ?n
       case e => with_reducible first
         | exact G_l (by assumption) (by assumption)
         | exact G_d (by assumption) (by assumption)
         | exact G_a (by assumption) (by assumption)
         | exact G_b (by assumption) (by assumption)
         | exact G_s2 (by assumption) (by assumption) (by assumption) (by assumption)
         | exact G_n1 (by assumption) (by assumption) (by assumption) (by assumption)
         | exact R_n2 (by assumption) (by assumption) (by assumption) (by assumption)
         | exact R_n4 (by assumption) (by assumption) (by assumption) (by assumption) (by assumption) (by assumption)
       case f => k_asm
       case n => first | k_asm | exact cb_drop (by with_reducible assumption) (by intro p hp; repeat (first | exact hp | apply List.Mem.tail)))
    | (refine' hret (Value.str _ _) news _ _ ⟨rfl, _, (congrArg (optS · _) (show readG un pl ld a b = some _ from ?e)).symm⟩ ?f ?n
       case e => with_reducible first
         | exact G_s0 (by assumption) (by assumption)
         | exact G_s1 (by assumption) (by assumption) (by assumption) (by assumption)
         | exact R_r0 (by assumption) (by assumption) (by assumption) (by assumption) (by assumption) (by assumption) (by assumption)
         | exact R_r1 (by assumption) (by assumption) (by assumption) (by assumption) (by assumption) (by assumption) (by assumption) (by assumption) (by assumption)
       case f => k_asm
       case n => first | k_asm | exact cb_drop (by with_reducible assumption) (by intro p hp; repeat (first | exact hp | apply List.Mem.tail)))
end
section
local macro_rules | `(tactic| k_room) => `(tactic| ((try simp only [depth_mark, depth_under_make, depth_under_kw, depth_in1, depth_deeper]); (try dsimp only [ktrTop]); (try simp only [Nat.add_assoc, Nat.reduceAdd]); refine Nat.lt_of_le_of_lt (Nat.add_le_add_left ?_ _) (by with_reducible assumption); decide))
set_option maxHeartbeats 2000000 in
theorem read_a1 (w : World) (mean : ExcName → Option Value) (mg mb : PySem.Str → Option Value) (news : Led) (x s : PySem.Str) (hs : Txt.stripChars x (PySem.Str.ofString " \t") = s)
   (sp : (Builtin.Str.occurrences s (PySem.Str.ofString " ") 0 s.length 1).isEmpty = true) (xl : x.length ≤ 90) (sl' : s.length ≤ 90) (t : Tok) :
   Ctr 2 w mean mg mb 225 [.str x t] news (fun nw r => nw = news ∧ ∃ tx, r = optS none tx) := by
  k_with_none
  w_top off
  k_with "execs cons" => (k_here; first | ((with_reducible rename (_ != _) = false => hb9); exact (bne_f hb9 (by with_reducible assumption)).elim) | ((with_reducible rename (_ != _) = true => hb9); exact (bne_t hb9 (by with_reducible assumption)).elim) | ((try dsimp only); (with_reducible refine wpAny_execs_cons ?_); (with_reducible refine wpAny_with_toks (n := 1) (by (try dsimp only); omega) ?_)))
  k_with "execs nil" => (k_here; (with_reducible refine wpAny_execs_nil ?_))
  k_with "exec If" => (k_here; refine wpAny_If ?_)
  k_with "eval Call" => (k_here; k_dflt (refine Call_ ?_))
  k_with "eval Call Attribute" => (k_here; k_dflt (refine MethodCall_ ?_))
  k_with "callWith ref" => (k_here; (with_reducible rename Fr _ _ _ _ => kF9); (with_reducible rename Frag.In _ _ => kX9); k_dflt (refine' callWith_K kX9 ?z9k2 ?_; (case z9k2 => k_is); k_whole))
  k_with "call ref" => (k_here; (k_dflt (refine' ctr_use (num_ctr _ _ _ _ _ _ ?z9k1 _) ?z9B ?z9F ?z9X ?z9N ?z9T ?z9hk ?z9hd ?z9hu ?_; (case z9B => k_asm); (case z9F => k_asm); (case z9X => k_asm); (case z9N => k_asm); (case z9T => k_asm); (case z9hk => exact rfl); (case z9k1 => omega); (case z9hd => ktr_room); (case z9hu => ktr_units))); intro r9 nw9 h9 tk9 O9 F9 N9; obtain ⟨e9, tx9, e9'⟩ := O9; subst e9; subst e9'; (generalize hq9 : numF _ = o9); (rcases o9 with _ | n9 <;> ((try (have sm9 := num_sm (by omega) hq9)); (try dsimp only [optI]); (try k_fold))))
  k_with "call type:str" => (k_here; first | ((with_reducible refine str_sm2 (by with_reducible assumption) (by omega) ?_); intro hl9 ho9) | ((with_reducible refine str_sm (by with_reducible assumption) ?_); intro hl9))
  k_with "call builtin:str.strip" => (k_here; (with_reducible refine wpAny_with_toks (n := 1) (by (try dsimp only); omega) ?_); (with_reducible refine strip_is (by with_reducible assumption) (by omega) ?_); intro t9 k9 hl9 ht9; (try dsimp only at ht9); (try (k_unfold; (try dsimp only))); (with_reducible refine wpAny_with_toks (n := 1) (by (try dsimp only); omega) ?_))
  k_with "call builtin:str.replace" => (k_here; first
  | ((with_reducible refine' replace_is (by with_reducible assumption) ?z9a ?z9b ?z9c ?z9d ?z9e ?z9f ?_); (case z9a => ((try dsimp only); (show @Ne Nat _ _); omega)); (case z9b => ((try dsimp only); (show @Ne Nat _ _); omega)); (case z9c => ((try dsimp only); (show @Ne Nat _ _); omega)); (case z9d => first | decide +kernel | exact ne_dash _ _); (case z9e => ((try simp only [PySem.Str.length_append]); (try kopn_lits); omega)); (case z9f => ((try simp only [PySem.Str.length_append]); (try kopn_lits); omega)); intro t9 k9)
  | ((rename (∀ n : Int, Txt.replace (_ ++ PySem.Str.ofString (toString n)) _ (PySem.Str.ofString "*") = _) => r0); (with_reducible refine' replace_is (r0 _) ?z9a ?z9b ?z9c ?z9d ?z9e ?z9f ?_); (case z9a => ((try dsimp only); (show @Ne Nat _ _); omega)); (case z9b => ((try dsimp only); (show @Ne Nat _ _); omega)); (case z9c => ((try dsimp only); (show @Ne Nat _ _); omega)); (case z9d => first | decide +kernel | exact ne_dash _ _); (case z9e => ((try simp only [PySem.Str.length_append]); (try kopn_lits); omega)); (case z9f => ((try simp only [PySem.Str.length_append]); (try kopn_lits); omega)); intro t9 k9)
  | ((rename (∀ f l : Int, Txt.replace (_ ++ PySem.Str.ofString "*") _ _ = _) => r0); (with_reducible refine' replace_is (r0 _ _) ?z9a ?z9b ?z9c ?z9d ?z9e ?z9f ?_); (case z9a => ((try dsimp only); (show @Ne Nat _ _); omega)); (case z9b => ((try dsimp only); (show @Ne Nat _ _); omega)); (case z9c => ((try dsimp only); (show @Ne Nat _ _); omega)); (case z9d => first | decide +kernel | exact ne_dash _ _); (case z9e => ((try simp only [PySem.Str.length_append]); (try kopn_lits); omega)); (case z9f => ((try simp only [PySem.Str.length_append]); (try kopn_lits); omega)); intro t9 k9)
  | ((rename (∀ f l n : Int, Txt.replace _ _ _ = _) => r0); (with_reducible refine' replace_is (r0 _ _ _) ?z9a ?z9b ?z9c ?z9d ?z9e ?z9f ?_); (case z9a => ((try dsimp only); (show @Ne Nat _ _); omega)); (case z9b => ((try dsimp only); (show @Ne Nat _ _); omega)); (case z9c => ((try dsimp only); (show @Ne Nat _ _); omega)); (case z9d => first | decide +kernel | exact ne_dash _ _); (case z9e => ((try simp only [PySem.Str.length_append]); (try kopn_lits); omega)); (case z9f => ((try simp only [PySem.Str.length_append]); (try kopn_lits); omega)); intro t9 k9))
  k_with "call builtin:str.index" => (k_here; (with_reducible refine index_is (by with_reducible assumption) ?_); intro t9 k9)
  k_with "binaryOp Add str str" => (k_here; (with_reducible refine add_tok ?z9y ?z9z ?z9w ?_; (case z9y => first | decide +kernel | (simp only [beq_eq_false_iff_ne, ne_eq]; omega)); (case z9z => first | decide +kernel | (simp only [beq_eq_false_iff_ne, ne_eq]; omega)); (case z9w => ((try simp only [PySem.Str.length_append]); (try kopn_lits); omega))); intro hl9)
  k_with "subscriptTail Name Slice str ref" => ((with_reducible show wpAny _ _ (subscriptTail _ (PySem.Expr.Slice none (some _) none _) _ _) _ _ _); (with_reducible rename Fr _ _ _ _ => F'); (with_reducible rename News _ _ _ _ => N'); first | (refine slice_ns_is (s := ⟨_, _, _, _, _⟩) (by with_reducible assumption) F' N' (by omega) ?_; intro _ _ _ _ _) | (refine slice_ns_is (s := ⟨_, _, _, _, _⟩) (by (rename (_ → _ ∧ _) => da9); exact (da9 (by with_reducible assumption)).1) F' N' (by omega) ?_; intro _ _ _ _ _))
  k_with "subscriptTail Name Slice str ref" => ((with_reducible show wpAny _ _ (subscriptTail _ (PySem.Expr.Slice (some _) none none _) _ _) _ _ _); (with_reducible rename Fr _ _ _ _ => F'); (with_reducible rename News _ _ _ _ => N'); first | (refine slice_sn_is (s := ⟨_, _, _, _, _⟩) (by with_reducible assumption) F' N' (by omega) ?_; intro _ _ _ _ _ _) | (refine slice_sn_is (s := ⟨_, _, _, _, _⟩) (by (rename (_ → _ ∧ _) => da9); exact (da9 (by with_reducible assumption)).2) F' N' (by omega) ?_; intro _ _ _ _ _ _) | (refine slice_sn_is (s := ⟨_, _, _, _, _⟩) rfl F' N' (by omega) ?_; intro _ _ _ _ _ _))
  unfold Ctr
  dsimp only [LO]
  k_fill
  intros
  rename_i hret
  refine wpAny_call ?_
  k_dflt cell_enter
  (repeat' (first | (k_unfold; (try dsimp only)) | ((with_reducible show (1 ≤ _ → _)); intro ht9; (try dsimp only at ht9)) | walk1 | (dsimp only; walk1)))
  all_goals exact hret Value.none news _ _ ⟨rfl, 0, rfl⟩ (by k_asm) (by first | k_asm | exact cb_drop (by with_reducible assumption) (by intro p hp; repeat (first | exact hp | apply List.Mem.tail)))
set_option maxHeartbeats 2000000 in
theorem read_a2 (w : World) (mean : ExcName → Option Value) (mg mb : PySem.Str → Option Value) (news : Led) (x s : PySem.Str) (hs : Txt.stripChars x (PySem.Str.ofString " \t") = s)
   (sp : (Builtin.Str.occurrences s (PySem.Str.ofString " ") 0 s.length 1).isEmpty = false) (r : PySem.Str) (hr : Txt.slice s (some (Txt.find s (PySem.Str.ofString " "))) none = r)
   (sf : (Builtin.Str.occurrences r (PySem.Str.ofString "/") 0 r.length 1).isEmpty = true) (xl : x.length ≤ 90) (sl' : s.length ≤ 90) (t : Tok) :
   Ctr 2 w mean mg mb 225 [.str x t] news (fun nw r => nw = news ∧ ∃ tx, r = optS none tx) := by
  k_with_none
  w_top off
  k_with "execs cons" => (k_here; first | ((with_reducible rename (_ != _) = false => hb9); exact (bne_f hb9 (by with_reducible assumption)).elim) | ((with_reducible rename (_ != _) = true => hb9); exact (bne_t hb9 (by with_reducible assumption)).elim) | ((try dsimp only); (with_reducible refine wpAny_execs_cons ?_); (with_reducible refine wpAny_with_toks (n := 1) (by (try dsimp only); omega) ?_)))
  k_with "execs nil" => (k_here; (with_reducible refine wpAny_execs_nil ?_))
  k_with "exec If" => (k_here; refine wpAny_If ?_)
  k_with "eval Call" => (k_here; k_dflt (refine Call_ ?_))
  k_with "eval Call Attribute" => (k_here; k_dflt (refine MethodCall_ ?_))
  k_with "callWith ref" => (k_here; (with_reducible rename Fr _ _ _ _ => kF9); (with_reducible rename Frag.In _ _ => kX9); k_dflt (refine' callWith_K kX9 ?z9k2 ?_; (case z9k2 => k_is); k_whole))
  k_with "call ref" => (k_here; (k_dflt (refine' ctr_use (num_ctr _ _ _ _ _ _ ?z9k1 _) ?z9B ?z9F ?z9X ?z9N ?z9T ?z9hk ?z9hd ?z9hu ?_; (case z9B => k_asm); (case z9F => k_asm); (case z9X => k_asm); (case z9N => k_asm); (case z9T => k_asm); (case z9hk => exact rfl); (case z9k1 => omega); (case z9hd => ktr_room); (case z9hu => ktr_units))); intro r9 nw9 h9 tk9 O9 F9 N9; obtain ⟨e9, tx9, e9'⟩ := O9; subst e9; subst e9'; (generalize hq9 : numF _ = o9); (rcases o9 with _ | n9 <;> ((try (have sm9 := num_sm (by omega) hq9)); (try dsimp only [optI]); (try k_fold))))
  k_with "call type:str" => (k_here; first | ((with_reducible refine str_sm2 (by with_reducible assumption) (by omega) ?_); intro hl9 ho9) | ((with_reducible refine str_sm (by with_reducible assumption) ?_); intro hl9))
  k_with "call builtin:str.strip" => (k_here; (with_reducible refine wpAny_with_toks (n := 1) (by (try dsimp only); omega) ?_); (with_reducible refine strip_is (by with_reducible assumption) (by omega) ?_); intro t9 k9 hl9 ht9; (try dsimp only at ht9); (try (k_unfold; (try dsimp only))); (with_reducible refine wpAny_with_toks (n := 1) (by (try dsimp only); omega) ?_))
  k_with "call builtin:str.replace" => (k_here; first
  | ((with_reducible refine' replace_is (by with_reducible assumption) ?z9a ?z9b ?z9c ?z9d ?z9e ?z9f ?_); (case z9a => ((try dsimp only); (show @Ne Nat _ _); omega)); (case z9b => ((try dsimp only); (show @Ne Nat _ _); omega)); (case z9c => ((try dsimp only); (show @Ne Nat _ _); omega)); (case z9d => first | decide +kernel | exact ne_dash _ _); (case z9e => ((try simp only [PySem.Str.length_append]); (try kopn_lits); omega)); (case z9f => ((try simp only [PySem.Str.length_append]); (try kopn_lits); omega)); intro t9 k9)
  | ((rename (∀ n : Int, Txt.replace (_ ++ PySem.Str.ofString (toString n)) _ (PySem.Str.ofString "*") = _) => r0); (with_reducible refine' replace_is (r0 _) ?z9a ?z9b ?z9c ?z9d ?z9e ?z9f ?_); (case z9a => ((try dsimp only); (show @Ne Nat _ _); omega)); (case z9b => ((try dsimp only); (show @Ne Nat _ _); omega)); (case z9c => ((try dsimp only); (show @Ne Nat _ _); omega)); (case z9d => first | decide +kernel | exact ne_dash _ _); (case z9e => ((try simp only [PySem.Str.length_append]); (try kopn_lits); omega)); (case z9f => ((try simp only [PySem.Str.length_append]); (try kopn_lits); omega)); intro t9 k9)
  | ((rename (∀ f l : Int, Txt.replace (_ ++ PySem.Str.ofString "*") _ _ = _) => r0); (with_reducible refine' replace_is (r0 _ _) ?z9a ?z9b ?z9c ?z9d ?z9e ?z9f ?_); (case z9a => ((try dsimp only); (show @Ne Nat _ _); omega)); (case z9b => ((try dsimp only); (show @Ne Nat _ _); omega)); (case z9c => ((try dsimp only); (show @Ne Nat _ _); omega)); (case z9d => first | decide +kernel | exact ne_dash _ _); (case z9e => ((try simp only [PySem.Str.length_append]); (try kopn_lits); omega)); (case z9f => ((try simp only [PySem.Str.length_append]); (try kopn_lits); omega)); intro t9 k9)
  | ((rename (∀ f l n : Int, Txt.replace _ _ _ = _) => r0); (with_reducible refine' replace_is (r0 _ _ _) ?z9a ?z9b ?z9c ?z9d ?z9e ?z9f ?_); (case z9a => ((try dsimp only); (show @Ne Nat _ _); omega)); (case z9b => ((try dsimp only); (show @Ne Nat _ _); omega)); (case z9c => ((try dsimp only); (show @Ne Nat _ _); omega)); (case z9d => first | decide +kernel | exact ne_dash _ _); (case z9e => ((try simp only [PySem.Str.length_append]); (try kopn_lits); omega)); (case z9f => ((try simp only [PySem.Str.length_append]); (try kopn_lits); omega)); intro t9 k9))
  k_with "call builtin:str.index" => (k_here; (with_reducible refine index_is (by with_reducible assumption) ?_); intro t9 k9)
  k_with "binaryOp Add str str" => (k_here; (with_reducible refine add_tok ?z9y ?z9z ?z9w ?_; (case z9y => first | decide +kernel | (simp only [beq_eq_false_iff_ne, ne_eq]; omega)); (case z9z => first | decide +kernel | (simp only [beq_eq_false_iff_ne, ne_eq]; omega)); (case z9w => ((try simp only [PySem.Str.length_append]); (try kopn_lits); omega))); intro hl9)
  k_with "subscriptTail Name Slice str ref" => ((with_reducible show wpAny _ _ (subscriptTail _ (PySem.Expr.Slice none (some _) none _) _ _) _ _ _); (with_reducible rename Fr _ _ _ _ => F'); (with_reducible rename News _ _ _ _ => N'); first | (refine slice_ns_is (s := ⟨_, _, _, _, _⟩) (by with_reducible assumption) F' N' (by omega) ?_; intro _ _ _ _ _) | (refine slice_ns_is (s := ⟨_, _, _, _, _⟩) (by (rename (_ → _ ∧ _) => da9); exact (da9 (by with_reducible assumption)).1) F' N' (by omega) ?_; intro _ _ _ _ _))
  k_with "subscriptTail Name Slice str ref" => ((with_reducible show wpAny _ _ (subscriptTail _ (PySem.Expr.Slice (some _) none none _) _ _) _ _ _); (with_reducible rename Fr _ _ _ _ => F'); (with_reducible rename News _ _ _ _ => N'); first | (refine slice_sn_is (s := ⟨_, _, _, _, _⟩) (by with_reducible assumption) F' N' (by omega) ?_; intro _ _ _ _ _ _) | (refine slice_sn_is (s := ⟨_, _, _, _, _⟩) (by (rename (_ → _ ∧ _) => da9); exact (da9 (by with_reducible assumption)).2) F' N' (by omega) ?_; intro _ _ _ _ _ _) | (refine slice_sn_is (s := ⟨_, _, _, _, _⟩) rfl F' N' (by omega) ?_; intro _ _ _ _ _ _))
  unfold Ctr
  dsimp only [LO]
  k_fill
  intros
  rename_i hret
  refine wpAny_call ?_
  k_dflt cell_enter
  (repeat' (first | (k_unfold; (try dsimp only)) | ((with_reducible show (1 ≤ _ → _)); intro ht9; (try dsimp only at ht9)) | walk1 | (dsimp only; walk1)))
  all_goals exact hret Value.none news _ _ ⟨rfl, 0, rfl⟩ (by k_asm) (by first | k_asm | exact cb_drop (by with_reducible assumption) (by intro p hp; repeat (first | exact hp | apply List.Mem.tail)))
end
section
local macro_rules | `(tactic| k_room) => `(tactic| ((try simp only [depth_mark, depth_under_make, depth_under_kw, depth_in1, depth_deeper]); (try dsimp only [ktrTop]); omega))
local macro_rules | `(tactic| k_units) => `(tactic| ((try simp only [units_under_make, units_in1, units_deeper, Around.mark_units]); (try dsimp only [ktrTop]); omega))
local macro_rules | `(tactic| units_room) => `(tactic| ((try simp only [units_under_make, units_in1, units_deeper, Around.mark_units]); (try dsimp only [ktrTop]); omega))
local macro_rules | `(tactic| k_room) => `(tactic| ((try simp only [depth_mark, depth_under_make, depth_under_kw, depth_in1, depth_deeper]); (try dsimp only [ktrTop]); (try simp only [Nat.add_assoc, Nat.reduceAdd]); refine Nat.lt_of_le_of_lt (Nat.add_le_add_left ?_ _) (by with_reducible assumption); decide))
set_option maxHeartbeats 4000000 in
theorem told_a (w : World) (mean : ExcName → Option Value) (mg mb : PySem.Str → Option Value) (news : Led) (x s un rest : PySem.Str) (hs : Txt.stripChars x (PySem.Str.ofString " \t") = s)
   (p1 : (Txt.partition s (PySem.Str.ofString " ")).1 = un) (p3 : (Txt.partition s (PySem.Str.ofString " ")).2.2 = rest)
   (sl : (Builtin.Str.occurrences rest (PySem.Str.ofString "/") 0 rest.length 1).isEmpty = true) (xl : x.length ≤ 90) (sl' : s.length ≤ 90) (ne : x.length ≠ 0) (t : Tok) :
   CtrL 4 w mean mg mb 232 [.str x t] news (fun nw r => nw = news ∧ ∃ tx, r = optS none tx) := by
  k_with_none
  w_top off
  k_with "call builtin:str.strip" => (k_here; first | ((with_reducible refine strip_is (by with_reducible assumption) (by omega) ?_); intro t9 k9 hl9) | ((with_reducible refine strip_is rfl (by omega) ?_); intro t9 k9 hl9))
  k_with "call builtin:str.partition" => (k_here; (k_dflt (refine' partition_is ?z9F ?z9N ?z9e ?z9y ?z9z ?_; (case z9F => k_asm); (case z9N => k_asm); (case z9e => first | exact ⟨by with_reducible assumption, by with_reducible assumption⟩ | (rename (_ → _ ∧ _) => da9; exact da9 (by with_reducible assumption))); (case z9y => decide); (case z9z => omega))); intro D' q' _ _ _ _ _ F' N' l1; (try k_lt l1))
  k_with "getMethod ref" => (k_here; (with_reducible show wpAny _ _ (getMethod (Value.ref 43) (PySem.Str.ofString "fullmatch") _) _ _ _); k_dflt (refine' getMethod_fm (patAt ?z9F ?z9X ?z9l) ?_; (case z9F => k_asm); (case z9X => k_asm); (case z9l => k_is)))
  k_with "call builtin:re.Pattern.fullmatch" => (k_here; k_dflt (refine' fullmatch_pl ?z9P ?z9F ?z9N (patAt ?z9F2 ?z9X2 ?z9l2) (codeAt ?z9F3 ?z9X3 ?z9l3) ?z9x ?z9y ?_ ?_; (case z9P => assumption); (case z9F => k_asm); (case z9N => k_asm); (case z9F2 => k_asm); (case z9X2 => k_asm); (case z9l2 => k_is); (case z9F3 => k_asm); (case z9X3 => k_asm); (case z9l3 => k_is); (case z9x => omega); (case z9y => omega)); (all_goals intros))
  k_with "call type:int" => (k_here; (with_reducible refine KIN.call_text (by assumption) (by omega) ?_))
  k_with "execs nil" => (k_here; (with_reducible refine wpAny_execs_nil ?_))
  k_with "execs cons" => (k_here; (try dsimp only); (with_reducible refine wpAny_execs_cons ?_))
  k_with "exec If" => (k_here; refine wpAny_If ?_)
  k_with "eval Call" => (k_here; k_dflt (refine Call_ ?_))
  k_with "eval Call Attribute" => (k_here; k_dflt (refine MethodCall_ ?_))
  k_with "call ref" => (k_here; (fail_if_success (with_reducible show wpAny _ _ (call (Value.ref 66) _) _ _ _)); (with_reducible rename Fr _ _ _ _ => kF9); (with_reducible rename Frag.In _ _ => kX9); k_dflt (first
  | (refine wpAny_call ?_; (refine' code_def ?z9k1 kF9 kX9 ?z9k4 ?z9k5 ?z9kA ?z9kF ?z9kK ?z9k6 ?z9k7 ?z9k8 ?z9k9 ?z9kB ?_ ?z9c2 ?z9c3 ?z9c4 ?z9c5; (case z9kA => exact rfl); (case z9kF => exact rfl); (case z9kK => exact rfl); (case z9k1 => with_reducible assumption); (case z9k4 => k_asm); (case z9k5 => with_reducible assumption); (case z9k6 => k_is); (case z9k7 => k_is); (case z9k8 => k_room); (case z9k9 => first | exact BindsTo.of_eq rfl | exact binds_K (Frag.In.keeps kX9 (Fr.keep kF9)) rfl (by k_is) rfl rfl rfl); (case z9c5 => decide); (case z9kB => exact locs rfl); (case z9c2 => exact rfl); (case z9c3 => exact rfl); (case z9c4 => exact rfl); k_whole; intro g' L' h' FG' F' N' B' X' T'; (try dsimp only); (try k_lift B'); (try k_fold)))
  | (refine' call_cls kF9 kX9 ?z9k3 ?z9k4 ?z9k5 ?z9k6 ?_; (case z9k3 => k_asm); (case z9k4 => k_is); (case z9k5 => k_is); (case z9k6 => k_is); k_whole; intro x' d' h' kF9 N' l1 l2; (try k_lt l1); (try k_lt2 l2); (try k_sweep); (refine' code_def ?z9k1 kF9 kX9 ?z9k4 ?z9k5 ?z9kA ?z9kF ?z9kK ?z9k6 ?z9k7 ?z9k8 ?z9k9 ?z9kB ?_ ?z9c2 ?z9c3 ?z9c4 ?z9c5; (case z9kA => exact rfl); (case z9kF => exact rfl); (case z9kK => exact rfl); (case z9k1 => with_reducible assumption); (case z9k4 => k_asm); (case z9k5 => with_reducible assumption); (case z9k6 => k_is); (case z9k7 => k_is); (case z9k8 => k_room); (case z9k9 => first | exact BindsTo.of_eq rfl | exact binds_K (Frag.In.keeps kX9 (Fr.keep kF9)) rfl (by k_is) rfl rfl rfl); (case z9c5 => decide); (case z9kB => exact locs rfl); (case z9c2 => exact rfl); (case z9c3 => exact rfl); (case z9c4 => exact rfl); k_whole; intro g' L' h' FG' F' N' B' X' T'; (try dsimp only); (try k_lift B'); (try k_fold)))))
  k_with "callWith ref" => (k_here; (with_reducible rename Fr _ _ _ _ => kF9); (with_reducible rename Frag.In _ _ => kX9); k_dflt (first
  | (refine' callWith_K kX9 ?z9k2 ?_; (case z9k2 => k_is); k_whole)
  | (refine' callWith_K0 (Frag.In.keeps kX9 (Fr.keep kF9)) ?z9k2 ?_; (case z9k2 => k_is); k_whole)
  | (refine' callWith_KW kX9 ?z9k2 ?z9k3 ?_; (case z9k2 => k_is); (case z9k3 => exact rfl); k_whole)))
  k_with "binaryOp Sub int int" => (k_here; (with_reducible refine sub_one ?_); intro t9)
  k_with "formatField int" => (k_here; (with_reducible refine field_sm (by with_reducible assumption) ?_); intro t9 k9 hl9)
  k_with "exec Raise some none" => (k_here; (with_reducible show wpAny _ _ (exec (Stmt.Raise (some (PySem.Expr.Name (PySem.Str.ofString "ValueError") _)) none _) _) _ _ _); (with_reducible rename Fr _ _ _ _ => kF); k_dflt (refine' Raise_classB ?z9hh excClass_ValueError self_VE ?z9hx ?_; (case z9hh => rfl); (case z9hx => (refine' name_B kF ?z9k1 ?z9k2 ?z9k3 ?z9k4 ?z9k5 ?_; (case z9k1 => k_asm); (case z9k2 => k_asm); (case z9k3 => k_is); (case z9k4 => boot_by_name); (case z9k5 => decide); exact ⟨rfl, rfl⟩))); intro h' e' x')
  k_with "truthy str" => (k_here; (with_reducible refine truthy_ne (by with_reducible assumption) (by omega) ?_); intro k9)
  unfold CtrL
  dsimp only [LO]
  k_fill
  intros
  rename_i hret
  refine wpAny_call ?_
  k_dflt (refine' code_defS0 ?k1 ?k2 ?k3 ?k4 ?k5 ?kA ?k6 ?k7 ?k8 ?k9 ?kB ?_ ?cK ?c2 ?c3 ?c4 ?c5; (case kA => exact rfl); (case k2 => k_asm); (case k1 => k_asm); (case k3 => k_asm); (case k4 => k_asm); (case k5 => k_asm); (case k6 => k_is); (case k7 => k_is); (case k8 => (refine Nat.lt_of_le_of_lt (Nat.le_add_right _ _) (by assumption))); (case k9 => exact BindsTo.of_eq rfl); (case kB => exact locs rfl); (case cK => assumption); (case c2 => exact rfl); (case c3 => exact rfl); (case c4 => exact rfl); (case c5 => decide); k_whole; intro g' L' h' FG' F' N' B' X' T' D'; (try dsimp only); (try k_lift B'); (try k_fold))
  (repeat' (first | (k_unfold; (try dsimp only)) | walk1 | (dsimp only; walk1)))
  all_goals exact hret Value.none news _ _ ⟨rfl, 0, rfl⟩ (by k_asm) (by first | k_asm | exact cb_drop (by with_reducible assumption) (by intro p hp; repeat (first | exact hp | apply List.Mem.tail)))
end
section
def sT (x : PySem.Str) : PySem.Str := Txt.stripChars x (PySem.Str.ofString " \t")
def unT (x : PySem.Str) : PySem.Str := (Txt.partition (sT x) (PySem.Str.ofString " ")).1
def restT (x : PySem.Str) : PySem.Str := (Txt.partition (sT x) (PySem.Str.ofString " ")).2.2
def plT (x : PySem.Str) : PySem.Str := (Txt.partition (restT x) (PySem.Str.ofString "/")).1
def ldT (x : PySem.Str) : PySem.Str := (Txt.partition (restT x) (PySem.Str.ofString "/")).2.2
def aT (x : PySem.Str) : PySem.Str := (Txt.partition (plT x) (PySem.Str.ofString "-")).1
def bT (x : PySem.Str) : PySem.Str := (Txt.partition (plT x) (PySem.Str.ofString "-")).2.2
end
section
open PySem.StrLaws
abbrev M (l : List Nat) : PySem.Str := ⟨l.toArray⟩
theorem M_list (l : List Nat) : (M l).cps.toList = l := rfl
theorem M_len (l : List Nat) : (M l).length = l.length := by simp [M, PySem.Str.length]
theorem M_app (a b : List Nat) : M (a ++ b) = M a ++ M b := PySem.Str.ext' (by rw [PySem.Str.cps_append]; simp [M])
theorem M_of (x : PySem.Str) : M x.cps.toList = x := PySem.Str.ext' (by simp [M])
theorem M_inj {a b : List Nat} (h : M a = M b) : a = b := by
  have := congrArg (fun s : PySem.Str => s.cps.toList) h
  exact this
section
variable {a b : List Nat} {c : Nat}
theorem occ_cut (ha : c ∉ a) (limit : Nat) (hl : 1 ≤ limit) : ∃ r, Builtin.Str.occurrences (M (a ++ c :: b)) ⟨#[c]⟩ 0 (M (a ++ c :: b)).length limit = a.length :: r := by
  have hat : (M (a ++ c :: b)).cps.toList[a.length]? = some c := by rw [M_list]; simp
  rcases occ_head (M (a ++ c :: b)) ⟨#[c]⟩ limit hl with ⟨_, hn⟩ | ⟨i, r, e, hi, hm⟩
  · exact absurd ((subAt_one _ c a.length).mpr hat) (hn a.length)
  · refine ⟨r, ?_⟩
    rw [e]
    have h1 := (subAt_one _ c i).mp hi
    rw [M_list] at h1
    have : i = a.length := by
      rcases Nat.lt_trichotomy i a.length with h | h | h
      · rw [List.getElem?_append_left h] at h1
        exact absurd (List.mem_of_getElem? h1) ha
      · exact h
      · exact absurd ((subAt_one _ c a.length).mpr hat) (hm a.length h)
    rw [this]
theorem find_cut (ha : c ∉ a) : Txt.find (M (a ++ c :: b)) ⟨#[c]⟩ = (a.length : Int) := by
  obtain ⟨r, e⟩ := occ_cut (b := b) ha 1 (Nat.le_refl 1)
  unfold Txt.find
  rw [e]
theorem isE_one (x : PySem.Str) (c : Nat) : (Builtin.Str.occurrences x ⟨#[c]⟩ 0 x.length 1).isEmpty = !decide (c ∈ x.cps.toList) := by
  rw [← found_one x c, Bool.not_not]
theorem isE_in (l : List Nat) (h : c ∈ l) : (Builtin.Str.occurrences (M l) ⟨#[c]⟩ 0 (M l).length 1).isEmpty = false := by
  rw [isE_one, M_list, decide_eq_true h]; rfl
theorem isE_no (l : List Nat) (h : c ∉ l) : (Builtin.Str.occurrences (M l) ⟨#[c]⟩ 0 (M l).length 1).isEmpty = true := by
  rw [isE_one, M_list, decide_eq_false h]; rfl
theorem sub_lr (x : PySem.Str) (i j : Nat) (l : List Nat) (h : (x.cps.toList.drop i).take (j - i) = l) : Builtin.Str.strSub x i j = M l :=
  PySem.Str.ext' (Array.toList_inj.mp (by rw [strSub_toList, h]))
theorem part_cut (ha : c ∉ a) : (Txt.partition (M (a ++ c :: b)) ⟨#[c]⟩).1 = M a ∧ (Txt.partition (M (a ++ c :: b)) ⟨#[c]⟩).2.2 = M b := by
  obtain ⟨r, e⟩ := occ_cut (b := b) ha 1 (Nat.le_refl 1)
  unfold Txt.partition
  rw [e]
  refine ⟨sub_lr _ _ _ _ ?_, sub_lr _ _ _ _ ?_⟩
  · rw [M_list]; simp
  · rw [M_list, M_len]
    have h1 : a.length + (⟨#[c]⟩ : PySem.Str).length = (a ++ [c]).length := by simp [PySem.Str.length]
    rw [h1, show a ++ c :: b = (a ++ [c]) ++ b by simp, List.drop_left, List.length_append, Nat.add_sub_cancel_left, List.take_length]
theorem part_no (l : List Nat) (h : c ∉ l) : (Txt.partition (M l) ⟨#[c]⟩).1 = M l ∧ (Txt.partition (M l) ⟨#[c]⟩).2.2 = M [] := by
  have e := isE_no l h
  rw [List.isEmpty_iff] at e
  unfold Txt.partition
  rw [e]
  exact ⟨rfl, rfl⟩
theorem sl_to : Txt.slice (M (a ++ c :: b)) none (some (a.length : Int)) = M a := by
  have := sliceText_to (x := M (a ++ c :: b)) (j := (a.length : Int)) ⟨by omega, by rw [M_list, List.length_append]; omega⟩
  refine Eq.trans (show _ = sliceText _ _ _ from rfl) (this.trans ?_)
  rw [M_list]; simp [M]
theorem sl_at : Txt.slice (M (a ++ c :: b)) (some (a.length : Int)) none = M (c :: b) := by
  have := sliceText_from (x := M (a ++ c :: b)) (i := (a.length : Int)) ⟨by omega, by rw [M_list, List.length_append]; omega⟩
  refine Eq.trans (show _ = sliceText _ _ _ from rfl) (this.trans ?_)
  rw [M_list]
  have e : (((a ++ c :: b).length : Int) - (a.length : Int)).toNat = (c :: b).length := by rw [List.length_append]; omega
  rw [e, Int.toNat_natCast, List.drop_left, List.take_length]
theorem sl_from : Txt.slice (M (a ++ c :: b)) (some ((a.length : Int) + 1)) none = M b := by
  have := sliceText_from (x := M (a ++ c :: b)) (i := (a.length : Int) + 1) ⟨by omega, by rw [M_list, List.length_append, List.length_cons]; omega⟩
  refine Eq.trans (show _ = sliceText _ _ _ from rfl) (this.trans ?_)
  rw [M_list]
  have e : (((a ++ c :: b).length : Int) - ((a.length : Int) + 1)).toNat = b.length := by rw [List.length_append, List.length_cons]; omega
  have e2 : ((a.length : Int) + 1).toNat = (a ++ [c]).length := by rw [List.length_append, List.length_singleton]; omega
  rw [e, e2, show a ++ c :: b = (a ++ [c]) ++ b by simp, List.drop_left, List.take_length]
end
/-- the blanks that are stripped -/
def bl (c : Nat) : Bool := (PySem.Str.ofString " \t").cps.contains c
theorem bl_eq (c : Nat) : bl c = (c == 32 || c == 9) := by
  have e : (PySem.Str.ofString " \t").cps = #[32, 9] := by decide +kernel
  unfold bl
  rw [e]
  simp [Array.contains, Bool.or_comm, eq_comm]
theorem strip_core (pre core : List Nat) (hp : ∀ c ∈ pre, bl c = true) (h0 : ∀ c r, core = c :: r → bl c = false) (h1 : ∀ c r, core.reverse = c :: r → bl c = false) : Txt.stripChars (M (pre ++ core)) (PySem.Str.ofString " \t") = M core := by
  unfold Txt.stripChars
  rw [PyProof.Rows.stripBy_eq]
  have e0 : stripLo (PySem.Str.ofString " \t").cps.contains true (M (pre ++ core)) = pre.length := by
    unfold stripLo
    rw [if_pos rfl, M_list]
    have : List.takeWhile bl (pre ++ core) = pre := by
      rw [List.takeWhile_append_of_pos hp]
      cases core with
      | nil => simp
      | cons c r => rw [List.takeWhile_cons_of_neg (by rw [h0 c r rfl]; decide)]; simp
    exact congrArg List.length this
  have e1 : stripHi (PySem.Str.ofString " \t").cps.contains true (M (pre ++ core)) pre.length = (M (pre ++ core)).length := by
    unfold stripHi
    rw [if_pos rfl, M_list, List.drop_left]
    have : List.takeWhile bl core.reverse = [] := by
      cases hc : core.reverse with
      | nil => rfl
      | cons c r => rw [List.takeWhile_cons_of_neg (by rw [h1 c r hc]; decide)]
    show (M (pre ++ core)).length - (List.takeWhile bl core.reverse).length = _
    rw [this]; rfl
  rw [e0, e1]
  refine sub_lr _ _ _ _ ?_
  rw [M_list, M_len, List.drop_left, List.length_append, Nat.add_sub_cancel_left, List.take_length]

section
variable {un L : List Nat}
theorem at_br (h1 : 123 ∉ un) (h2 : 123 ∉ L) (i : Nat) : At (M (un ++ 32 :: 123 :: 125 :: L)) (M [123, 125]) (M (un ++ 32 :: 123 :: 125 :: L)).length i ↔ i = un.length + 1 := by
  have hl : (M [123, 125]).length = 2 := rfl
  have e0 : un ++ 32 :: 123 :: 125 :: L = (un ++ [32]) ++ 123 :: (125 :: L) := by simp
  constructor
  · rintro ⟨hb, ha⟩
    rw [subAt_eq, hl, M_list, beq_iff_eq, M_list] at ha
    have hi : (un ++ 32 :: 123 :: 125 :: L)[i]? = some 123 := by
      have := congrArg (fun l : List Nat => l[0]?) ha
      simpa [List.getElem?_drop] using this
    rw [e0] at hi
    rcases Nat.lt_trichotomy i (un ++ [32]).length with h | h | h
    · rw [List.getElem?_append_left h] at hi
      have := List.mem_of_getElem? hi
      simp [h1] at this
    · simpa using h
    · rw [List.getElem?_append_right (Nat.le_of_lt h)] at hi
      obtain ⟨j, hj⟩ : ∃ j, i - (un ++ [32]).length = j + 1 := ⟨i - (un ++ [32]).length - 1, by omega⟩
      rw [hj, List.getElem?_cons_succ] at hi
      have := List.mem_of_getElem? hi
      simp [h2] at this
  · rintro rfl
    refine ⟨?_, ?_⟩
    · rw [hl, M_len]; simp only [List.length_append, List.length_cons]; omega
    · rw [subAt_eq, hl, M_list, beq_iff_eq, M_list, e0]
      have : un.length + 1 = (un ++ [32]).length := by simp
      rw [this, List.drop_left]; rfl
theorem cuts_br (h1 : 123 ∉ un) (h2 : 123 ∉ L) : Builtin.Str.occurrences (M (un ++ 32 :: 123 :: 125 :: L)) (M [123, 125]) 0 (M (un ++ 32 :: 123 :: 125 :: L)).length ((M (un ++ 32 :: 123 :: 125 :: L)).length + 1) = [un.length + 1] := by
  obtain ⟨f, hc, hf⟩ := occ_tight (M (un ++ 32 :: 123 :: 125 :: L)) (M [123, 125]) (by decide)
  generalize Builtin.Str.occurrences (M (un ++ 32 :: 123 :: 125 :: L)) (M [123, 125]) 0 (M (un ++ 32 :: 123 :: 125 :: L)).length ((M (un ++ 32 :: 123 :: 125 :: L)).length + 1) = cuts at hc
  match cuts, hc with
  | [], hc =>
    have e : f = 0 := hc
    exact absurd ((at_br h1 h2 _).mpr rfl) (hf _ (by omega))
  | [c], hc => rw [(at_br h1 h2 c).mp hc.2.1]
  | c :: d :: r, hc =>
    have e1 := (at_br h1 h2 c).mp hc.2.1
    have e2 := (at_br h1 h2 d).mp hc.2.2.2.2.1
    have e3 : c + (M [123, 125]).length ≤ d := hc.2.2.2.1
    have e4 : (M [123, 125]).length = 2 := rfl
    omega
theorem repl_br (h1 : 123 ∉ un) (h2 : 123 ∉ L) (z : List Nat) : Txt.replace (M (un ++ 32 :: 123 :: 125 :: L)) (M [123, 125]) (M z) = M (un ++ 32 :: (z ++ L)) := by
  unfold Txt.replace
  rw [cuts_br h1 h2]
  have e4 : (M [123, 125]).length = 2 := rfl
  rw [if_neg (by rw [e4]; simp), glued_eq_join, partsBetween_eq]
  show PySem.Str.join (M z) [Builtin.Str.strSub _ 0 (un.length + 1), Builtin.Str.strSub _ (un.length + 1 + (M [123, 125]).length) _] = _
  rw [sub_lr (M (un ++ 32 :: 123 :: 125 :: L)) 0 (un.length + 1) (un ++ [32]), sub_lr (M (un ++ 32 :: 123 :: 125 :: L)) (un.length + 1 + (M [123, 125]).length) (M (un ++ 32 :: 123 :: 125 :: L)).length L]
  · show M (un ++ [32]) ++ M z ++ M L = _
    rw [← M_app, ← M_app]; simp
  · rw [M_list, M_len, e4]
    have e5 : un ++ 32 :: 123 :: 125 :: L = (un ++ [32, 123, 125]) ++ L := by simp
    have e6 : un.length + 1 + 2 = (un ++ [32, 123, 125]).length := by simp
    rw [e5, e6, List.drop_left, List.length_append, Nat.add_sub_cancel_left, List.take_length]
  · rw [M_list]
    have e5 : un ++ 32 :: 123 :: 125 :: L = (un ++ [32]) ++ 123 :: 125 :: L := by simp
    have e6 : un.length + 1 = (un ++ [32]).length := by simp
    rw [e5, e6, List.drop_zero, Nat.sub_zero, List.take_left]
end
end
section
open PySem.StrLaws
def dg (k : Int) : List Nat := (PySem.Str.ofString (toString k)).cps.toList
theorem M_dg (k : Int) : M (dg k) = PySem.Str.ofString (toString k) := M_of _
def chkPL (y : PySem.Str) : Bool :=
  match numF y with
  | none => ended (Txt.stripChars y (PySem.Str.ofString " \t")) false
  | some n => ended (Txt.stripChars y (PySem.Str.ofString " \t")) true && PySem.intText? (Txt.stripChars y (PySem.Str.ofString " \t")) == some n && decide (-3 ≤ n) && decide (n ≤ 13)
structure PLs (y : PySem.Str) : Prop where
  p : PL y
  b : ∀ n, numF y = some n → -3 ≤ n ∧ n ≤ 13
theorem pls_of {y : PySem.Str} (h : chkPL y = true) : PLs y := by
  unfold chkPL at h
  cases e : numF y with
  | none =>
    rw [e] at h
    exact ⟨⟨by rw [e]; exact h, fun n hn => by rw [e] at hn; cases hn⟩, fun n hn => by rw [e] at hn; cases hn⟩
  | some m =>
    rw [e] at h
    simp only [Bool.and_eq_true, beq_iff_eq, decide_eq_true_eq] at h
    obtain ⟨⟨⟨h1, h2⟩, h3⟩, h4⟩ := h
    refine ⟨⟨by rw [e]; exact h1, fun n hn => ?_⟩, fun n hn => ?_⟩
    · rw [e] at hn; cases hn; exact h2
    · rw [e] at hn; cases hn; exact ⟨h3, h4⟩
def headOk (P : List Nat) : Bool := match P with | c :: _ => !bl c | [] => false
def lastOk (L : List Nat) : Bool := match L.reverse with | c :: _ => !bl c | [] => false
def chkK (k : Int) : Bool :=
  chkPL (M (dg k)) && chkPL (M (32 :: dg k)) && numF (M (dg k)) == some k && headOk (dg k) && lastOk (dg k) && !(dg k).contains 32 && !(dg k).contains 47 && !(dg k).contains 123 && !(dg k).contains 42 && (decide (k < 0) || !(dg k).contains 45) && decide ((dg k).length ≤ 4)
theorem chkK_all : ∀ j : Fin 17, chkK ((j : Nat) - 3 : Int) = true := by decide +kernel
structure Nk (k : Int) : Prop where
  pl : PLs (M (dg k))
  pl32 : PLs (M (32 :: dg k))
  nf : numF (M (dg k)) = some k
  h : headOk (dg k) = true
  l : lastOk (dg k) = true
  n32 : 32 ∉ dg k
  n47 : 47 ∉ dg k
  n123 : 123 ∉ dg k
  n42 : 42 ∉ dg k
  d : 0 ≤ k → 45 ∉ dg k
  ln : (dg k).length ≤ 4
theorem nk {k : Int} (h0 : -3 ≤ k) (h1 : k ≤ 13) : Nk k := by
  have h := chkK_all ⟨(k + 3).toNat, by omega⟩
  have e : (((k + 3).toNat : Nat) : Int) - 3 = k := by omega
  dsimp only at h
  rw [e] at h
  unfold chkK at h
  simp only [Bool.and_eq_true, beq_iff_eq, Bool.not_eq_true', Bool.or_eq_true, decide_eq_true_eq] at h
  obtain ⟨⟨⟨⟨⟨⟨⟨⟨⟨⟨a1, a2⟩, a3⟩, a4⟩, a5⟩, a6⟩, a7⟩, a8⟩, a9⟩, a10⟩, a11⟩ := h
  have no : ∀ {c : Nat}, (dg k).contains c = false → c ∉ dg k := fun h hm => by rw [List.contains_iff_mem.mpr hm] at h; cases h
  exact ⟨pls_of a1, pls_of a2, a3, a4, a5, no a6, no a7, no a8, no a9, fun h => a10.elim (fun q => absurd q (by omega)) no, a11⟩
theorem pls_nil : PLs (M []) := pls_of (by decide +kernel)
theorem pls_1 : PLs (M [43, 49]) := pls_of (by decide +kernel)
theorem pls_2 : PLs (M [50]) := pls_of (by decide +kernel)
theorem pls_one : PLs (M [49]) := pls_of (by decide +kernel)
theorem pls_star : PLs (M [42]) := pls_of (by decide +kernel)
theorem pls_x : PLs (M [120]) := pls_of (by decide +kernel)
theorem pls_9 : PLs (M [32, 57]) := pls_of (by decide +kernel)
theorem dg_m1 : dg (-1) = [45, 49] := by decide +kernel
theorem dg_m3 : dg (-3) = [45, 51] := by decide +kernel
end
section
open PySem.StrLaws
/-- where a piece falls at its first dash -/
def Dp (P : List Nat) : Prop := 45 ∉ P ∨ ∃ a b, P = a ++ 45 :: b ∧ 45 ∉ a ∧ PLs (M a) ∧ PLs (M b)
structure Lp (L : List Nat) : Prop where
  pl : PLs (M L)
  n47 : 47 ∉ L
  l : lastOk L = true
  s : 32 ∉ L ∨ L = [32, 57]
  ln : L.length ≤ 4
structure Pp (P : List Nat) : Prop where
  n47 : 47 ∉ P
  n123 : 123 ∉ P
  h : headOk P = true
  d : Dp P
  s : 32 ∉ P ∨ ∃ a b, P = a ++ 32 :: b ∧ 32 ∉ a ∧ a ≠ [] ∧ 32 ∉ b ∧ Dp b
  ln : P.length ≤ 10
theorem lp_of {n f la : Int} (n0 : 0 ≤ n) (n1 : n < 14) (f0 : 0 ≤ f) (f1 : f < 9) (l0 : -1 ≤ la) (l1 : la < 13) {l : PySem.Str} (h : l ∈ lens n f la) : ∃ L, l = M L ∧ Lp L := by
  have K : ∀ k : Int, -3 ≤ k → k ≤ 13 → ∃ L, PySem.Str.ofString (toString k) = M L ∧ Lp L := fun k a b =>
    ⟨dg k, (M_dg k).symm, ⟨(nk a b).pl, (nk a b).n47, (nk a b).l, .inl (nk a b).n32, (nk a b).ln⟩⟩
  unfold lens at h
  simp only [List.mem_cons, List.not_mem_nil, or_false] at h
  rcases h with rfl | rfl | rfl | rfl | rfl | rfl | rfl
  · exact K n (by omega) (by omega)
  · exact ⟨[42], by decide +kernel, ⟨pls_star, by decide, by decide +kernel, .inl (by decide), by decide⟩⟩
  · exact K (la + 1) (by omega) (by omega)
  · exact K f (by omega) (by omega)
  · exact ⟨[45, 51], by decide +kernel, ⟨dg_m3 ▸ (nk (k := -3) (by decide) (by decide)).pl, by decide, by decide +kernel, .inl (by decide), by decide⟩⟩
  · exact ⟨[120], by decide +kernel, ⟨pls_x, by decide, by decide +kernel, .inl (by decide), by decide⟩⟩
  · exact ⟨[32, 57], by decide +kernel, ⟨pls_9, by decide, by decide +kernel, .inr rfl, by decide⟩⟩
theorem dp_dg {k : Int} (h0 : -1 ≤ k) (h1 : k ≤ 13) : Dp (dg k) := by
  by_cases h : 0 ≤ k
  · exact .inl ((nk (by omega) h1).d h)
  · have e : k = -1 := by omega
    subst e
    rw [dg_m1]
    exact .inr ⟨[], [49], rfl, by decide, pls_nil, pls_one⟩
theorem head_app {a b : List Nat} (h : headOk a = true) : headOk (a ++ b) = true := by
  cases a with
  | nil => cases h
  | cons c r => exact h
theorem head_ne {a : List Nat} (h : headOk a = true) : a ≠ [] := by
  rintro rfl; cases h
theorem pp_of {f la : Int} (f0 : 0 ≤ f) (f1 : f < 9) (l0 : -1 ≤ la) (l1 : la < 13) {p : PySem.Str} (h : p ∈ places f la) : ∃ P, p = M P ∧ Pp P := by
  have F := nk (k := f) (by omega) (by omega)
  have L := nk (k := la) (by omega) (by omega)
  have e45 : PySem.Str.ofString "-" = M [45] := by decide +kernel
  have e452 : PySem.Str.ofString "- " = M [45, 32] := by decide +kernel
  unfold places at h
  simp only [List.mem_cons, List.not_mem_nil, or_false] at h
  rcases h with rfl | rfl | rfl | rfl | rfl | rfl
  · refine ⟨dg f ++ 45 :: dg la, by rw [e45, ← M_dg, ← M_dg, ← M_app, ← M_app]; simp, ⟨?_, ?_, head_app F.h, .inr ⟨_, _, rfl, F.d f0, F.pl, L.pl⟩, .inl ?_, ?_⟩⟩
    · simp [F.n47, L.n47]
    · simp [F.n123, L.n123]
    · simp [F.n32, L.n32]
    · have := F.ln; have := L.ln; simp only [List.length_append, List.length_cons]; omega
  · exact ⟨[42], by decide +kernel, ⟨by decide, by decide, by decide +kernel, .inl (by decide), .inl (by decide), by decide⟩⟩
  · exact ⟨dg f, (M_dg f).symm, ⟨F.n47, F.n123, F.h, .inl (F.d f0), .inl F.n32, by have := F.ln; omega⟩⟩
  · refine ⟨45 :: dg la, by rw [e45, ← M_dg, ← M_app]; rfl, ⟨?_, ?_, (by show (!bl 45) = true; decide +kernel), .inr ⟨[], _, rfl, by decide, pls_nil, L.pl⟩, .inl ?_, ?_⟩⟩
    · simp [L.n47]
    · simp [L.n123]
    · simp [L.n32]
    · have := L.ln; simp only [List.length_cons]; omega
  · refine ⟨dg f ++ 45 :: 32 :: dg la, by rw [e452, ← M_dg, ← M_dg, ← M_app, ← M_app]; simp, ⟨?_, ?_, head_app F.h, .inr ⟨_, _, rfl, F.d f0, F.pl, L.pl32⟩, .inr ⟨dg f ++ [45], dg la, by simp, ?_, by simp, L.n32, dp_dg l0 (by omega)⟩, ?_⟩⟩
    · simp [F.n47, L.n47]
    · simp [F.n123, L.n123]
    · simp [F.n32]
    · have := F.ln; have := L.ln; simp only [List.length_append, List.length_cons]; omega
  · exact ⟨[43, 49, 45, 50], by decide +kernel, ⟨by decide, by decide, by decide +kernel, .inr ⟨[43, 49], [50], rfl, by decide, pls_1, pls_2⟩, .inl (by decide), by decide⟩⟩
/-- the three makes of a text -/
inductive Cl (x : PySem.Str) : Prop
  | a1 (s : List Nat) (hs : Txt.stripChars x (PySem.Str.ofString " \t") = M s) (h : 32 ∉ s)
  | a2 (un r : List Nat) (hs : Txt.stripChars x (PySem.Str.ofString " \t") = M (un ++ 32 :: r)) (h : 32 ∉ un) (h' : 47 ∉ r)
  | b (un p l : List Nat) (hs : Txt.stripChars x (PySem.Str.ofString " \t") = M (un ++ 32 :: (p ++ 47 :: l))) (h : 32 ∉ un) (h' : 47 ∉ p) (h3 : 123 ∉ un) (hu : headOk un = true) (hl : PLs (M l)) (hd : Dp p)
theorem last_ok {a L : List Nat} (h : lastOk L = true) : ∀ c r, (a ++ L).reverse = c :: r → bl c = false := by
  intro c r e
  rw [List.reverse_append] at e
  unfold lastOk at h
  cases hL : L.reverse with
  | nil => rw [hL] at h; cases h
  | cons c' r' =>
    rw [hL] at h e
    simp only [List.cons_append, List.cons.injEq] at e
    rw [← e.1]
    simpa using h
theorem head_ok {P : List Nat} (h : headOk P = true) : ∀ c r, P = c :: r → bl c = false := by
  rintro c r rfl
  simpa [headOk] using h
/-- a unit with its blank ahead of the rest -/
theorem cl_s {pre U P S L : List Nat} (hp : ∀ c ∈ pre, bl c = true) (hU : headOk U = true) (u32 : 32 ∉ U) (u123 : 123 ∉ U) (p : Pp P) (l : Lp L) (hS : S = [47] ∨ S = []) : Cl (M (pre ++ (U ++ 32 :: (P ++ S ++ L)))) := by
  have hs : Txt.stripChars (M (pre ++ (U ++ 32 :: (P ++ S ++ L)))) (PySem.Str.ofString " \t") = M (U ++ 32 :: (P ++ S ++ L)) := by
    refine strip_core _ _ hp (head_ok (head_app hU)) ?_
    rw [show U ++ 32 :: (P ++ S ++ L) = (U ++ 32 :: (P ++ S)) ++ L by simp]
    exact last_ok l.l
  rcases hS with rfl | rfl
  · refine .b U P L ?_ u32 p.n47 u123 hU l.pl p.d
    rw [hs]; simp
  · refine .a2 U (P ++ L) ?_ u32 ?_
    · rw [hs]; simp
    · simp [p.n47, l.n47]
/-- a unit without a blank -/
theorem cl_n {U P S L : List Nat} (hU : U = [] ∨ headOk U = true) (u32 : 32 ∉ U) (u123 : 123 ∉ U) (p : Pp P) (l : Lp L) (hS : S = [47] ∨ S = []) : Cl (M (U ++ P ++ S ++ L)) := by
  have hh : ∀ z, headOk (U ++ P ++ z) = true := by
    intro z
    rcases hU with rfl | h
    · exact head_app p.h
    · rw [List.append_assoc]; exact head_app h
  have hs : Txt.stripChars (M (U ++ P ++ S ++ L)) (PySem.Str.ofString " \t") = M (U ++ P ++ S ++ L) := by
    refine strip_core [] _ (by simp) (head_ok (by have q := hh (S ++ L); rwa [← List.append_assoc] at q)) (last_ok l.l)
  have s32 : 32 ∉ S := by rcases hS with rfl | rfl <;> decide
  rcases p.s with q | ⟨a, b, e, a32, ane, b32, db⟩
  · rcases l.s with r | r
    · exact .a1 _ hs (by simp [u32, q, r, s32])
    · subst r
      refine .a2 (U ++ P ++ S) [57] hs (by simp [u32, q, s32]) (by decide)
  · subst e
    have b47 : 47 ∉ b := fun h => p.n47 (by simp [h])
    have a123 : 123 ∉ a := fun h => p.n123 (by simp [h])
    have hua : headOk (U ++ a) = true := by
      rcases hU with rfl | h
      · have := p.h
        cases a with
        | nil => exact absurd rfl ane
        | cons c r => exact this
      · exact head_app h
    rcases hS with rfl | rfl
    · refine .b (U ++ a) b L ?_ (by simp [u32, a32]) b47 (by simp [u123, a123]) hua l.pl db
      rw [hs]; simp
    · refine .a2 (U ++ a) (b ++ L) ?_ (by simp [u32, a32]) (by simp [b47, l.n47])
      rw [hs]; simp
theorem cl_of {x : PySem.Str} (h : IsText x) : Cl x ∧ x.length ≤ 40 ∧ x.length ≠ 0 := by
  obtain ⟨f, d, n, u, p, sl, l, hx, hl, hp, hu, hs, f0, f1, d0, d1, n0, n1⟩ := h
  obtain ⟨P, rfl, pp⟩ := pp_of f0 f1 (by omega) (by omega) hp
  obtain ⟨L, rfl, lp⟩ := lp_of n0 n1 f0 f1 (by omega) (by omega) hl
  have hS : ∃ S, sl = M S ∧ (S = [47] ∨ S = []) := by
    unfold slashes at hs
    simp only [List.mem_cons, List.not_mem_nil, or_false] at hs
    rcases hs with rfl | rfl | rfl | rfl
    · exact ⟨[47], by decide +kernel, .inl rfl⟩
    · exact ⟨[47], by decide +kernel, .inl rfl⟩
    · exact ⟨[47], by decide +kernel, .inl rfl⟩
    · exact ⟨[], by decide +kernel, .inr rfl⟩
  obtain ⟨S, rfl, hS⟩ := hS
  have hSl : S.length ≤ 1 := by rcases hS with rfl | rfl <;> decide
  have hPl := List.length_pos_iff.mpr (head_ne pp.h)
  have hPl2 := pp.ln
  have hLl := lp.ln
  unfold units at hu
  simp only [List.mem_cons, List.not_mem_nil, or_false] at hu
  rcases hu with rfl | rfl | rfl | rfl | rfl
  · have e : x = M ([] ++ ([98, 121, 116, 101, 115] ++ 32 :: (P ++ S ++ L))) := by
      rw [hx, show PySem.Str.ofString "bytes " = M [98, 121, 116, 101, 115, 32] by decide +kernel, ← M_app, ← M_app, ← M_app]; simp
    subst e
    refine ⟨cl_s (by simp) (by decide +kernel) (by decide) (by decide) pp lp hS, ?_, ?_⟩ <;> (rw [M_len]; simp only [List.length_append, List.length_cons, List.length_nil]; omega)
  · have e : x = M ([] ++ ([114, 111, 119, 115] ++ 32 :: (P ++ S ++ L))) := by
      rw [hx, show PySem.Str.ofString "rows " = M [114, 111, 119, 115, 32] by decide +kernel, ← M_app, ← M_app, ← M_app]; simp
    subst e
    refine ⟨cl_s (by simp) (by decide +kernel) (by decide) (by decide) pp lp hS, ?_, ?_⟩ <;> (rw [M_len]; simp only [List.length_append, List.length_cons, List.length_nil]; omega)
  · have e : x = M ([32] ++ ([98, 121, 116, 101, 115] ++ 32 :: (P ++ S ++ L))) := by
      rw [hx, show PySem.Str.ofString " bytes " = M [32, 98, 121, 116, 101, 115, 32] by decide +kernel, ← M_app, ← M_app, ← M_app]; simp
    subst e
    refine ⟨cl_s (by intro c hc; rw [List.mem_singleton.mp hc]; decide +kernel) (by decide +kernel) (by decide) (by decide) pp lp hS, ?_, ?_⟩ <;> (rw [M_len]; simp only [List.length_append, List.length_cons, List.length_nil]; omega)
  · have e : x = M ([98, 121, 116, 101, 115] ++ P ++ S ++ L) := by
      rw [hx, show PySem.Str.ofString "bytes" = M [98, 121, 116, 101, 115] by decide +kernel, ← M_app, ← M_app, ← M_app]
    subst e
    refine ⟨cl_n (.inr (by decide +kernel)) (by decide) (by decide) pp lp hS, ?_, ?_⟩ <;> (rw [M_len]; simp only [List.length_append, List.length_cons, List.length_nil]; omega)
  · have e : x = M ([] ++ P ++ S ++ L) := by
      rw [hx, show PySem.Str.ofString "" = M [] by decide +kernel, ← M_app, ← M_app, ← M_app]
    subst e
    refine ⟨cl_n (.inl rfl) (by decide) (by decide) pp lp hS, ?_, ?_⟩ <;> (rw [M_len]; simp only [List.length_append, List.length_nil]; omega)
end
section
open PySem.StrLaws
theorem e32 : PySem.Str.ofString " " = ⟨#[32]⟩ := by decide +kernel
theorem e47 : PySem.Str.ofString "/" = ⟨#[47]⟩ := by decide +kernel
theorem e45 : PySem.Str.ofString "-" = ⟨#[45]⟩ := by decide +kernel
theorem e42 : PySem.Str.ofString "*" = M [42] := by decide +kernel
theorem ebr : PySem.Str.ofString "{}" = M [123, 125] := by decide +kernel
theorem ebr2 : PySem.Str.ofString "{}/" = M [123, 125, 47] := by decide +kernel
theorem estar : PySem.Str.ofString " */" = M [32, 42, 47] := by decide +kernel
theorem dg_123 (k : Int) : 123 ∉ dg k := by
  intro h
  unfold dg at h
  rw [PySem.Str.ofString_eq_byList] at h
  unfold PySem.Str.ofStringByList at h
  simp only [List.mem_map] at h
  obtain ⟨c, hc, e⟩ := h
  rcases int_sign k c hc with q | q
  · have := (digit_range q).2
    omega
  · subst q
    exact absurd e (by decide)
def lenL : Option Int → List Nat
  | none => [42]
  | some n => dg n
theorem lenT_M : ∀ len, lenT len = M (lenL len)
  | none => e42
  | some n => (M_dg n).symm
theorem lenL_123 : ∀ len, 123 ∉ lenL len
  | none => by show 123 ∉ [42]; decide
  | some n => dg_123 n
theorem starT_M (un : List Nat) (len : Option Int) : starT (M un) len = M (un ++ 32 :: ([42] ++ 47 :: lenL len)) := by
  unfold starT
  rw [estar, lenT_M, PySem.Str.empty_append, ← M_app, ← M_app]; simp
theorem rangeT_M (un : List Nat) (f l : Int) (len : Option Int) : rangeT (M un) f l len = M (un ++ 32 :: ((dg f ++ 45 :: dg l) ++ 47 :: lenL len)) := by
  unfold rangeT
  rw [e32, e47, e45, lenT_M, PySem.Str.empty_append, ← M_dg, ← M_dg]
  show M un ++ M [32] ++ M (dg f) ++ M [45] ++ M (dg l) ++ M [47] ++ M (lenL len) = _
  rw [← M_app, ← M_app, ← M_app, ← M_app, ← M_app, ← M_app]; simp
theorem rep0_M {un : List Nat} (h : 123 ∉ un) (len : Option Int) : Txt.replace (M un ++ PySem.Str.ofString " " ++ PySem.Str.ofString "{}/" ++ lenT len) (PySem.Str.ofString "{}") (PySem.Str.ofString "*") = starT (M un) len := by
  rw [starT_M, e32, ebr, ebr2, e42, lenT_M]
  have := repl_br (un := un) (L := 47 :: lenL len) h (by simp [lenL_123]) [42]
  rw [← this]
  congr 1
  show M un ++ M [32] ++ M [123, 125, 47] ++ M (lenL len) = _
  rw [← M_app, ← M_app, ← M_app]; simp
theorem rep1_M {un : List Nat} (h : 123 ∉ un) (f l : Int) (len : Option Int) : Txt.replace (M un ++ PySem.Str.ofString " " ++ PySem.Str.ofString "{}/" ++ lenT len) (PySem.Str.ofString "{}") (PySem.Str.ofString (toString f) ++ PySem.Str.ofString "-" ++ PySem.Str.ofString (toString l)) = rangeT (M un) f l len := by
  rw [rangeT_M, e32, ebr, ebr2, e45, lenT_M, ← M_dg, ← M_dg]
  have := repl_br (un := un) (L := 47 :: lenL len) h (by simp [lenL_123]) (dg f ++ 45 :: dg l)
  rw [← this]
  show Txt.replace (M un ++ M [32] ++ M [123, 125, 47] ++ M (lenL len)) (M [123, 125]) (M (dg f) ++ M [45] ++ M (dg l)) = _
  rw [← M_app, ← M_app, ← M_app, ← M_app, ← M_app]
  congr 2 <;> simp
section
variable {x : PySem.Str} {un p l a b : List Nat}
theorem cb_of (hs : Txt.stripChars x (PySem.Str.ofString " \t") = M (un ++ 32 :: (p ++ 47 :: l))) (h : 32 ∉ un) (h' : 47 ∉ p) (pl : PL (M l)) (pa : PL (M a)) (pb : PL (M b)) (hd : 45 ∈ p → p = a ++ 45 :: b ∧ 45 ∉ a)
    (xl : x.length ≤ 90) (ne : x.length ≠ 0) (al : a.length ≤ 90) (bl : b.length ≤ 90) : CB x (M (un ++ 32 :: (p ++ 47 :: l))) (M un) (M (p ++ 47 :: l)) (M p) (M l) (M a) (M b) := by
  have sl : (M (un ++ 32 :: (p ++ 47 :: l))).length ≤ 90 := hs ▸ Nat.le_trans (len_stripChars x _) xl
  have sl2 := sl
  rw [M_len] at sl2
  simp only [List.length_append, List.length_cons] at sl2
  refine ⟨hs, ?_, ?_, ?_, ?_, ?_, ?_, pl, pa, pb, xl, sl, ?_, ?_, ?_, ?_, ?_, ?_, ne⟩
  · rw [e32]; exact (part_cut h).1
  · rw [e32]; exact (part_cut h).2
  · rw [e47]; exact isE_in _ (by simp)
  · rw [e47]; exact (part_cut h').1
  · rw [e47]; exact (part_cut h').2
  · rw [e45]
    intro hE
    have hm : 45 ∈ p := by
      rcases Classical.em (45 ∈ p) with q | q
      · exact q
      · rw [isE_no p q] at hE; cases hE
    obtain ⟨rfl, ha⟩ := hd hm
    exact part_cut ha
  all_goals (rw [M_len]; (try simp only [List.length_append, List.length_cons]); omega)
theorem rb_of (hs : Txt.stripChars x (PySem.Str.ofString " \t") = M (un ++ 32 :: (p ++ 47 :: l))) (h : 32 ∉ un) (h' : 47 ∉ p) (h3 : 123 ∉ un) (hd : 45 ∈ p → p = a ++ 45 :: b ∧ 45 ∉ a)
    (xl : x.length ≤ 90) (al : a.length ≤ 90) (bl : b.length ≤ 90) : RB x (M (un ++ 32 :: (p ++ 47 :: l))) (M un) (M (p ++ 47 :: l)) (M p) (M l) (M a) (M b) := by
  have sl : (M (un ++ 32 :: (p ++ 47 :: l))).length ≤ 90 := hs ▸ Nat.le_trans (len_stripChars x _) xl
  have sl2 := sl
  rw [M_len] at sl2
  simp only [List.length_append, List.length_cons] at sl2
  refine ⟨hs, ?_, ?_, ?_, ?_, ?_, ?_, ?_, ?_, rep0_M h3, rep1_M h3, xl, sl, ?_, ?_, ?_, ?_, ?_, ?_⟩
  · rw [e32]; exact isE_in _ (by simp)
  · rw [e32, e47, find_cut h, sl_at]; exact isE_in _ (by simp)
  · rw [e32, find_cut h]; exact sl_to
  · rw [e32, find_cut h]; exact sl_from
  · rw [e47]; exact isE_in _ (by simp)
  · rw [e47, find_cut h']; exact sl_to
  · rw [e47, find_cut h']; exact sl_from
  · rw [e45]
    intro hE
    have hm : 45 ∈ p := by
      rcases Classical.em (45 ∈ p) with q | q
      · exact q
      · rw [isE_no p q] at hE; cases hE
    obtain ⟨rfl, ha⟩ := hd hm
    rw [find_cut ha]
    exact ⟨sl_to, sl_from⟩
  all_goals (rw [M_len]; (try simp only [List.length_append, List.length_cons]); omega)
end
end
section
open PySem.StrLaws
section
variable {un pl ld a b d : PySem.Str}
theorem read_inv (h : readG un pl ld a b = some d) : ∃ len, (len = none ∨ ∃ n, len = some n ∧ numF ld = some n) ∧
    ((lenNn len = true ∧ d = starT un len) ∨ ∃ f l, numF a = some f ∧ numF b = some l ∧ 0 ≤ f ∧ f < l + 1 ∧ lenGt len f = true ∧ d = rangeT un f l len) := by
  unfold readG at h
  cases hl : lenO ld with
  | none => rw [hl] at h; cases h
  | some len =>
    rw [hl] at h
    refine ⟨len, ?_, ?_⟩
    · unfold lenO at hl
      split at hl
      · left; cases hl; rfl
      · right
        cases hn : numF ld with
        | none => rw [hn] at hl; cases hl
        | some n => rw [hn] at hl; cases hl; exact ⟨n, rfl, rfl⟩
    · replace h : readL un pl a b len = some d := h
      unfold readL at h
      split at h
      · split at h
        · rename_i q; left; exact ⟨q, (Option.some.inj h).symm⟩
        · cases h
      · split at h
        · cases h
        · right
          cases ha : numF a with
          | none => rw [ha] at h; cases h
          | some f =>
            cases hb : numF b with
            | none => rw [ha, hb] at h; cases h
            | some l =>
              rw [ha, hb] at h
              unfold rngG at h
              dsimp only at h
              split at h
              · rename_i q
                exact ⟨f, l, rfl, rfl, q.1, q.2.1, q.2.2, (Option.some.inj h).symm⟩
              · cases h
end
theorem beq_no {a b : List Nat} (h : a ≠ b) : (M a == M b) = false := by
  cases e : (M a == M b) with
  | false => rfl
  | true => exact absurd (M_inj (eq_of_beq e)) h
theorem lenL_ok {len : Option Int} (h : ∀ n, len = some n → -3 ≤ n ∧ n ≤ 13) : PL (M (lenL len)) ∧ lastOk (lenL len) = true ∧ (lenL len).length ≤ 4 ∧ lenO (M (lenL len)) = some len := by
  cases len with
  | none => exact ⟨pls_star.p, by show lastOk [42] = true; decide +kernel, by show [42].length ≤ 4; decide, lenO_s (by rw [e42]; exact beq_self_eq_true _)⟩
  | some n =>
    have K := nk (h n rfl).1 (h n rfl).2
    refine ⟨K.pl.p, K.l, K.ln, lenO_n ?_ K.nf⟩
    rw [e42]
    exact beq_no fun e => K.n42 (by rw [show dg n = [42] from e]; decide)
theorem strip_self {un L z : List Nat} (hu : headOk un = true) (hL : lastOk L = true) : Txt.stripChars (M (un ++ 32 :: (z ++ 47 :: L))) (PySem.Str.ofString " \t") = M (un ++ 32 :: (z ++ 47 :: L)) := by
  refine strip_core [] _ (by simp) (head_ok (head_app hu)) ?_
  have q := last_ok (a := un ++ 32 :: (z ++ [47])) hL
  rw [show (un ++ 32 :: (z ++ [47])) ++ L = un ++ 32 :: (z ++ 47 :: L) by simp] at q
  exact q
structure OK (x : PySem.Str) (o : Option PySem.Str) : Prop where
  read : ∀ (w : World) (mean : ExcName → Option Value) (mg mb : PySem.Str → Option Value) (news : Led) (t : Tok), Ctr 2 w mean mg mb 225 [.str x t] news (fun nw r => nw = news ∧ ∃ tx, r = optS o tx)
  told : ∀ (w : World) (mean : ExcName → Option Value) (mg mb : PySem.Str → Option Value) (news : Led) (t : Tok), CtrL 4 w mean mg mb 232 [.str x t] news (fun nw r => nw = news ∧ ∃ tx, r = optS o tx)
  back : ∀ d, o = some d → ∀ (w : World) (mean : ExcName → Option Value) (mg mb : PySem.Str → Option Value) (news : Led) (t : Tok), CtrL 4 w mean mg mb 232 [.str d t] news (fun nw r => nw = news ∧ ∃ tx, r = optS (some d) tx)
theorem back_of {un : List Nat} {d pl ld a b : PySem.Str} (h32 : 32 ∉ un) (hu : headOk un = true) (hl : PLs ld) (ha : PLs a) (hb : PLs b) (ul : un.length ≤ 40) (e : readG (M un) pl ld a b = some d) :
    ∀ (w : World) (mean : ExcName → Option Value) (mg mb : PySem.Str → Option Value) (news : Led) (t : Tok), CtrL 4 w mean mg mb 232 [.str d t] news (fun nw r => nw = news ∧ ∃ tx, r = optS (some d) tx) := by
  intro w mean mg mb news t
  obtain ⟨len, hlen, hd⟩ := read_inv e
  have hb3 : ∀ n, len = some n → -3 ≤ n ∧ n ≤ 13 := by
    intro n hn
    rcases hlen with q | ⟨m, q, q'⟩
    · rw [q] at hn; cases hn
    · rw [q] at hn; cases hn; exact hl.b _ q'
  obtain ⟨P, lo, ll, lO⟩ := lenL_ok hb3
  rcases hd with ⟨nn, rfl⟩ | ⟨f, l, ea, eb, f0, f1, gt, rfl⟩
  · rw [starT_M]
    have CC := cb_of (x := M (un ++ 32 :: ([42] ++ 47 :: lenL len))) (un := un) (p := [42]) (l := lenL len) (a := []) (b := []) (strip_self hu lo) h32 (by decide) P pls_nil.p pls_nil.p (fun h => absurd h (by decide))
      (by rw [M_len]; simp only [List.length_append, List.length_cons, List.length_nil]; omega) (by rw [M_len]; simp only [List.length_append, List.length_cons, List.length_nil]; omega) (by decide) (by decide)
    have R : readG (M un) (M [42]) (M (lenL len)) (M []) (M []) = some (M (un ++ 32 :: ([42] ++ 47 :: lenL len))) := by
      rw [readG_of lO, ← starT_M]
      unfold readL
      rw [if_pos (by rw [e42]; exact beq_self_eq_true _), if_pos nn]
    have T := told_ctr w mean mg mb news _ _ _ _ _ _ _ _ CC t
    rw [R] at T
    exact T
  · have Kf := nk (ha.b f ea).1 (ha.b f ea).2
    have Kl := nk (hb.b l eb).1 (hb.b l eb).2
    have := Kf.ln
    have := Kl.ln
    rw [rangeT_M]
    have CC := cb_of (x := M (un ++ 32 :: ((dg f ++ 45 :: dg l) ++ 47 :: lenL len))) (un := un) (p := dg f ++ 45 :: dg l) (l := lenL len) (a := dg f) (b := dg l) (strip_self hu lo) h32 (by simp [Kf.n47, Kl.n47]) P Kf.pl.p Kl.pl.p (fun _ => ⟨rfl, Kf.d f0⟩)
      (by rw [M_len]; simp only [List.length_append, List.length_cons]; omega) (by rw [M_len]; simp only [List.length_append, List.length_cons]; omega) (by omega) (by omega)
    have R : readG (M un) (M (dg f ++ 45 :: dg l)) (M (lenL len)) (M (dg f)) (M (dg l)) = some (M (un ++ 32 :: ((dg f ++ 45 :: dg l) ++ 47 :: lenL len))) := by
      rw [readG_of lO, ← rangeT_M]
      unfold readL noDash rngG
      rw [if_neg (by rw [e42, beq_no fun e => by have := congrArg (45 ∈ ·) e; simp at this]; decide), if_neg (by rw [e45, isE_in _ (by simp)]; decide), Kf.nf, Kl.nf]
      dsimp only
      rw [if_pos ⟨f0, f1, gt⟩]
    have T := told_ctr w mean mg mb news _ _ _ _ _ _ _ _ CC t
    rw [R] at T
    exact T
theorem ok_of {x : PySem.Str} (h : IsText x) : ∃ o, OK x o := by
  obtain ⟨c, xl, ne⟩ := cl_of h
  have xl9 : x.length ≤ 90 := Nat.le_trans xl (by decide)
  have sl := len_stripChars x (PySem.Str.ofString " \t")
  rcases c with ⟨s, hs, h32⟩ | ⟨un, r, hs, h32, h47⟩ | ⟨un, p, l, hs, h32, h47, h3, hu, hl, hd⟩
  · rw [hs] at sl
    refine ⟨none, ?_, ?_, fun d e => nomatch e⟩
    · intro w mean mg mb news t
      exact read_a1 w mean mg mb news x _ hs (by rw [e32]; exact isE_no _ h32) xl9 (by omega) t
    · intro w mean mg mb news t
      exact told_a w mean mg mb news x _ _ (M []) hs rfl (by rw [e32]; exact (part_no _ h32).2) (by rw [e47]; exact isE_no _ (by simp)) xl9 (by omega) ne t
  · rw [hs] at sl
    refine ⟨none, ?_, ?_, fun d e => nomatch e⟩
    · intro w mean mg mb news t
      exact read_a2 w mean mg mb news x _ hs (by rw [e32]; exact isE_in _ (by simp)) (M (32 :: r)) (by rw [e32, find_cut h32]; exact sl_at) (by rw [e47]; exact isE_no _ (by simp [h47])) xl9 (by omega) t
    · intro w mean mg mb news t
      exact told_a w mean mg mb news x _ _ (M r) hs rfl (by rw [e32]; exact (part_cut h32).2) (by rw [e47]; exact isE_no _ h47) xl9 (by omega) ne t
  · rw [hs, M_len] at sl
    simp only [List.length_append, List.length_cons] at sl
    obtain ⟨a, b, ha, hb, hab, al, bl⟩ : ∃ a b, PLs (M a) ∧ PLs (M b) ∧ (45 ∈ p → p = a ++ 45 :: b ∧ 45 ∉ a) ∧ a.length ≤ 90 ∧ b.length ≤ 90 := by
      rcases hd with q | ⟨a, b, e, q, pa, pb⟩
      · exact ⟨[], [], pls_nil, pls_nil, fun h => absurd h q, by decide, by decide⟩
      · have : p.length = a.length + (b.length + 1) := by rw [e, List.length_append, List.length_cons]
        exact ⟨a, b, pa, pb, fun _ => ⟨e, q⟩, by omega, by omega⟩
    refine ⟨readG (M un) (M p) (M l) (M a) (M b), ?_, ?_, ?_⟩
    · intro w mean mg mb news t
      exact read_ctr w mean mg mb news _ _ _ _ _ _ _ _ (rb_of hs h32 h47 h3 hab xl9 al bl) t
    · intro w mean mg mb news t
      exact told_ctr w mean mg mb news _ _ _ _ _ _ _ _ (cb_of hs h32 h47 hl.p ha.p hb.p hab xl9 ne al bl) t
    · intro d e
      exact back_of h32 hu hl ha hb (by omega) e
end
section
open PySem.StrLaws
abbrev rX (f l : Int) : PySem.Str := PySem.Str.ofString "bytes=" ++ PySem.Str.ofString (toString f) ++ PySem.Str.ofString "-" ++ PySem.Str.ofString (toString l)
abbrev rR (f l : Int) : PySem.Str := PySem.Str.ofString (toString f) ++ PySem.Str.ofString "-" ++ PySem.Str.ofString (toString l)
/-- a plain number's text -/
structure PN (y : PySem.Str) (k : Int) : Prop where
  s : Txt.stripChars y (PySem.Str.ofString " \t") = y
  e : ended y true = true
  i : PySem.intText? y = some k
  l : y.length ≤ 4
  n : y.length ≠ 0
theorem pn_of {k : Int} (h0 : -3 ≤ k) (h1 : k ≤ 13) : PN (PySem.Str.ofString (toString k)) k := by
  rw [← M_dg]
  have K := nk h0 h1
  have hs : Txt.stripChars (M (dg k)) (PySem.Str.ofString " \t") = M (dg k) := by
    have q := last_ok (a := []) K.l
    exact strip_core [] (dg k) (by simp) (head_ok K.h) q
  have e := K.pl.p.e
  have i := K.pl.p.i k K.nf
  rw [hs, K.nf] at e
  rw [hs] at i
  refine ⟨hs, e, i, by rw [M_len]; exact K.ln, ?_⟩
  rw [M_len]
  have := List.length_pos_iff.mpr (head_ne K.h)
  omega
structure RT (X R A B : PySem.Str) (f l : Int) : Prop where
  x1 : (Builtin.Str.occurrences X (PySem.Str.ofString "=") 0 X.length 1).isEmpty = false
  x2 : (Txt.partition X (PySem.Str.ofString "=")).1 = PySem.Str.ofString "bytes"
  x3 : (Txt.partition X (PySem.Str.ofString "=")).2.2 = R
  u1 : Txt.stripChars (PySem.Str.ofString "bytes") (PySem.Str.ofString " \t") = PySem.Str.ofString "bytes"
  u2 : Txt.lower (PySem.Str.ofString "bytes") = PySem.Str.ofString "bytes"
  r1 : Txt.split R (PySem.Str.ofString ",") = [R]
  r2 : Txt.stripChars R (PySem.Str.ofString " \t") = R
  r3 : (Builtin.Str.occurrences R (PySem.Str.ofString "-") 0 R.length 1).isEmpty = false
  r4 : Txt.startswith R (PySem.Str.ofString "-") = false
  r5 : (Txt.partition R (PySem.Str.ofString "-")).1 = A
  r6 : (Txt.partition R (PySem.Str.ofString "-")).2.2 = B
  xl : X.length ≤ 20
  xn : X.length ≠ 0
  rl : R.length ≤ 10
  ul : (PySem.Str.ofString "bytes").length ≤ 10
  a1 : Txt.stripChars A (PySem.Str.ofString " \t") = A
  a2 : ended A true = true
  a3 : PySem.intText? A = some f
  a4 : A.length ≤ 4
  b1 : Txt.stripChars B (PySem.Str.ofString " \t") = B
  b2 : ended B true = true
  b3 : PySem.intText? B = some l
  b4 : B.length ≤ 4
  b5 : B.length ≠ 0
theorem split_no {l : List Nat} {c : Nat} (h : c ∉ l) : Txt.split (M l) ⟨#[c]⟩ = [M l] := by
  unfold Txt.split
  split
  · rfl
  · have : (Builtin.Str.occurrences (M l) ⟨#[c]⟩ 0 (M l).length ((M l).length + 1)).isEmpty = true := by
      rcases occ_head (M l) ⟨#[c]⟩ ((M l).length + 1) (by omega) with ⟨e, _⟩ | ⟨i, r, e, hi, _⟩
      · rw [e]; rfl
      · have := (subAt_one _ c i).mp hi
        exact absurd (List.mem_of_getElem? this) h
    rw [if_pos this]
theorem rt_of {f l : Int} (f0 : 0 ≤ f) (f1 : f < 9) (l0 : f ≤ l) (l1 : l < 13) : RT (rX f l) (rR f l) (PySem.Str.ofString (toString f)) (PySem.Str.ofString (toString l)) f l := by
  have Pf := pn_of (k := f) (by omega) (by omega)
  have Pl := pn_of (k := l) (by omega) (by omega)
  have F := nk (k := f) (by omega) (by omega)
  have L := nk (k := l) (by omega) (by omega)
  have f45 := F.d f0
  have eb : PySem.Str.ofString "bytes=" = M [98, 121, 116, 101, 115, 61] := by decide +kernel
  have eR : rR f l = M (dg f ++ 45 :: dg l) := by
    unfold rR
    rw [e45, ← M_dg, ← M_dg]
    show M (dg f) ++ M [45] ++ M (dg l) = _
    rw [← M_app, ← M_app]; simp
  have eX : rX f l = M ([98, 121, 116, 101, 115] ++ 61 :: (dg f ++ 45 :: dg l)) := by
    unfold rX
    rw [eb, e45, ← M_dg, ← M_dg]
    show M [98, 121, 116, 101, 115, 61] ++ M (dg f) ++ M [45] ++ M (dg l) = _
    rw [← M_app, ← M_app, ← M_app]; simp
  have ee : PySem.Str.ofString "=" = ⟨#[61]⟩ := by decide +kernel
  have ec : PySem.Str.ofString "," = ⟨#[44]⟩ := by decide +kernel
  have no44 : ∀ k : Int, 44 ∉ dg k := by
    intro k h
    unfold dg at h
    rw [PySem.Str.ofString_eq_byList] at h
    unfold PySem.Str.ofStringByList at h
    simp only [List.mem_map] at h
    obtain ⟨c, hc, e⟩ := h
    rcases int_sign k c hc with q | q
    · have := (digit_range q).1
      omega
    · subst q
      exact absurd e (by decide)
  have hb : M [98, 121, 116, 101, 115] = PySem.Str.ofString "bytes" := by decide +kernel
  have Fl := F.ln
  have Ll := L.ln
  have hlen : (dg f ++ 45 :: dg l).length ≤ 9 := by simp only [List.length_append, List.length_cons]; omega
  refine ⟨?_, ?_, ?_, by decide +kernel, by decide +kernel, ?_, ?_, ?_, ?_, ?_, ?_, ?_, ?_, ?_, by decide +kernel, Pf.s, Pf.e, Pf.i, Pf.l, Pl.s, Pl.e, Pl.i, Pl.l, Pl.n⟩
  · rw [eX, ee]; exact isE_in _ (by simp)
  · rw [eX, ee, ← hb]; exact (part_cut (by decide)).1
  · rw [eX, ee, eR]; exact (part_cut (by decide)).2
  · rw [eR, ec]; exact split_no (by simp [no44])
  · rw [eR]
    have q := last_ok (a := dg f ++ [45]) L.l
    rw [show (dg f ++ [45]) ++ dg l = dg f ++ 45 :: dg l by simp] at q
    exact strip_core [] _ (by simp) (head_ok (head_app F.h)) q
  · rw [eR, e45]; exact isE_in _ (by simp)
  · rw [eR, e45]
    unfold Txt.startswith
    have : Builtin.Str.subAt (M (dg f ++ 45 :: dg l)) ⟨#[45]⟩ 0 = false := by
      cases e : Builtin.Str.subAt (M (dg f ++ 45 :: dg l)) ⟨#[45]⟩ 0 with
      | false => rfl
      | true =>
        have q := (subAt_one (M (dg f ++ 45 :: dg l)) 45 0).mp ⟨by (show 0 + 1 ≤ _); rw [M_len, List.length_append, List.length_cons]; omega, e⟩
        rw [M_list] at q
        have hp := List.length_pos_iff.mpr (head_ne F.h)
        rw [List.getElem?_append_left hp] at q
        exact absurd (List.mem_of_getElem? q) f45
    rw [this, Bool.and_false]
  · rw [eR, e45, ← M_dg]; exact (part_cut f45).1
  · rw [eR, e45, ← M_dg]; exact (part_cut f45).2
  · rw [eX, M_len]; simp only [List.length_append, List.length_cons, List.length_nil] at hlen ⊢; omega
  · rw [eX, M_len]; simp only [List.length_append, List.length_cons, List.length_nil]; omega
  · rw [eR, M_len]; omega
theorem rt_enter {M' : Model} {A : Around} {E : Value → Shared → Prop} {s : Shared} {Q : Value → Shared → Prop} {f l : Int} {t : Tok} (h : ∀ X R C D : PySem.Str, RT X R C D f l → wpAny M' A (call (.ref 58) [.str X t]) Q E s)
    (f0 : 0 ≤ f) (f1 : f < 9) (l0 : f ≤ l) (l1 : l < 13) : wpAny M' A (call (.ref 58) [.str (PySem.Str.ofString "bytes=" ++ PySem.Str.ofString (toString f) ++ PySem.Str.ofString "-" ++ PySem.Str.ofString (toString l)) t]) Q E s := h _ _ _ _ (rt_of f0 f1 l0 l1)
end
section
theorem ctr_out {n : Nat} {w : World} {mean : ExcName → Option Value} {mg mb : PySem.Str → Option Value} {f : Addr} {vs : List Value} {news : Led} {O O' : Led → Value → Prop} (C : Ctr n w mean mg mb f vs news O) (h : ∀ nw r, O nw r → O' nw r) : Ctr n w mean mg mb f vs news O' :=
  fun dp un gd cn cs a ccd cl outer A₀ base h₀ L m s Q E B F X N T hk hd hu ret => C dp un gd cn cs a ccd cl outer A₀ base h₀ L m s Q E B F X N T hk hd hu fun r nw h' tk' o => ret r nw h' tk' (h _ _ o)
open Classical in
/-- what a text of the law's is read as -/
noncomputable def RD (x : PySem.Str) : Option PySem.Str := if h : ∃ o, OK x o then h.choose else none
theorem rd_ok {x : PySem.Str} (h : IsText x) : OK x (RD x) := by
  have e := ok_of h
  unfold RD
  rw [dif_pos e]
  exact e.choose_spec
theorem rd_c (w : World) (mean : ExcName → Option Value) (mg mb : PySem.Str → Option Value) (news : Led) (x : PySem.Str) (h : IsText x) (t : Tok) :
   Ctr 2 w mean mg mb 225 [.str x t] news (fun nw r => nw = news ∧ ∃ o tx, RD x = o ∧ r = optS o tx) :=
  ctr_out ((rd_ok h).read w mean mg mb news t) fun _ _ ⟨e, tx, q⟩ => ⟨e, _, tx, rfl, q⟩
theorem td_c (w : World) (mean : ExcName → Option Value) (mg mb : PySem.Str → Option Value) (news : Led) (x : PySem.Str) (h : IsText x) (o : Option PySem.Str) (e : RD x = o) (t : Tok) :
   CtrL 4 w mean mg mb 232 [.str x t] news (fun nw r => nw = news ∧ ∃ tx, r = optS o tx) := e ▸ (rd_ok h).told w mean mg mb news t
theorem td2_c (w : World) (mean : ExcName → Option Value) (mg mb : PySem.Str → Option Value) (news : Led) (x d : PySem.Str) (h : IsText x) (e : RD x = some d) (t : Tok) :
   CtrL 4 w mean mg mb 232 [.str d t] news (fun nw r => nw = news ∧ ∃ tx, r = optS (some d) tx) := (rd_ok h).back d e w mean mg mb news t
end
section
theorem ns_len {vs : List Value} {l : List Int} {f : Int → Int} (_h : IntsAre vs (List.map f (List.take 24 l) ++ [5, 0, 11])) : 3 ≤ (List.map f (List.take 24 l) ++ [5, 0, 11]).length ∧ (List.map f (List.take 24 l) ++ [5, 0, 11]).length ≤ 30 := by
  simp only [List.length_append, List.length_map, List.length_take, List.length_cons, List.length_nil]
  omega
theorem post_mono {h₀ : Heap} {L : Addr} {s₁ : Shared} {I : Addr} {it : Obj} {r r' : (PySem.Str → Option Value) → Led → Prop} {Q : Flow → Shared → Prop} (h : ∀ m n, r m n → r' m n) :
    ∀ (f : Flow) (s₂ : Shared), UnrPost h₀ L s₁ I it r Q f s₂ → UnrPost h₀ L s₁ I it r' Q f s₂
  | .ret _, _, p => p
  | .brk, _, p => p
  | .next, _, ⟨h', tk, m', news', e, F, N, o, q⟩ => ⟨h', tk, m', news', e, F, N, o, h _ _ q⟩
  | .cont, _, ⟨h', tk, m', news', e, F, N, o, q⟩ => ⟨h', tk, m', news', e, F, N, o, h _ _ q⟩
section
variable {prog : Program} {w : World} {A : Around} {E : Value → Shared → Prop} {s : Shared} {env : Env} {h₀ : Heap} {x : PySem.Str} {body : List Stmt} {Q : Flow → Shared → Prop} {I : Addr} {n : Nat}
theorem rr_ind (a : Int) (J : Nat → (PySem.Str → Option Value) → Led → Prop)
    (turn : ∀ i m news t h tk, i < n → J i m news → Fr h₀ env.locals h (fun y => if y = x then some (.int (a + (i : Int)) t) else m y) → News h₀ env.locals h ((I, itR (a + ((i + 1 : Nat) : Int)) ((n : Int) - ((i + 1 : Nat) : Int))) :: news) →
      wpAny (model prog w) A (execs body env) (UnrPost h₀ env.locals { s with heap := h, toks := tk } I (itR (a + ((i + 1 : Nat) : Int)) ((n : Int) - ((i + 1 : Nat) : Int))) (J (i + 1)) Q) E { s with heap := h, toks := tk })
    (done : ∀ m news h tk, J n m news → Fr h₀ env.locals h m → News h₀ env.locals h news → Q .next { s with heap := h, toks := tk }) :
    ∀ k i m news, i + k = n → J i m news → RangeRest prog w A E h₀ env x body Q s I a n k i m news
  | 0, i, m, news, e, j => RangeRest.zero fun h tk F N => done m news h tk (by have e' : i = n := e; rw [← e']; exact j) F N
  | k + 1, i, m, news, e, j => RangeRest.succ fun t h tk F N => wpAny_mono (turn i m news t h tk (by omega) j F N) (post_mono fun m' news' jj => rr_ind a J turn done k (i + 1) m' news' (by omega) jj) fun _ _ e => e
/-- what stands between the turns -/
def JJ (S : Addr) (NF : Int → Tok → Led) (i : Nat) (m : PySem.Str → Option Value) (news : Led) : Prop := m (PySem.Str.ofString "state") = some (.ref S) ∧ ∃ t, news = NF (7 * (i : Int)) t
theorem rr_law {S : Addr} {NF : Int → Tok → Led} {m₀ : PySem.Str → Option Value} {t₀ : Tok} (hm : m₀ (PySem.Str.ofString "state") = some (.ref S))
    (turn : ∀ (i : Nat) (m : PySem.Str → Option Value) (t t' : Tok) (h : Heap) (tk : Tok), i < 5 → Fr h₀ env.locals h (fun y => if y = x then some (.int (0 + (i : Int)) t) else if y = PySem.Str.ofString "state" then some (.ref S) else m y) → News h₀ env.locals h ((I, itR (0 + ((i + 1 : Nat) : Int)) (((5 : Nat) : Int) - ((i + 1 : Nat) : Int))) :: NF (7 * (i : Int)) t') →
      wpAny (model prog w) A (execs body env) (UnrPost h₀ env.locals { s with heap := h, toks := tk } I (itR (0 + ((i + 1 : Nat) : Int)) (((5 : Nat) : Int) - ((i + 1 : Nat) : Int))) (JJ S NF (i + 1)) Q) E { s with heap := h, toks := tk })
    (done : ∀ (m : PySem.Str → Option Value) (t : Tok) (h : Heap) (tk : Tok), Fr h₀ env.locals h (fun y => if y = PySem.Str.ofString "state" then some (.ref S) else m y) → News h₀ env.locals h (NF 35 t) → Q .next { s with heap := h, toks := tk }) :
    RangeRest prog w A E h₀ env x body Q s I 0 5 5 0 m₀ (NF 0 t₀) := by
  refine rr_ind 0 (JJ S NF) ?_ ?_ 5 0 m₀ (NF 0 t₀) rfl ⟨hm, t₀, rfl⟩
  · rintro i m news t h tk hi ⟨hm, t', rfl⟩ F N
    have e : m = fun y => if y = PySem.Str.ofString "state" then some (.ref S) else m y := by
      funext y
      by_cases h : y = PySem.Str.ofString "state"
      · rw [if_pos h, h, hm]
      · rw [if_neg h]
    rw [e] at F
    exact turn i m t t' h tk hi F N
  · rintro m news h tk ⟨hm, t', rfl⟩ F N
    have e : m = fun y => if y = PySem.Str.ofString "state" then some (.ref S) else m y := by
      funext y
      by_cases h : y = PySem.Str.ofString "state"
      · rw [if_pos h, h, hm]
      · rw [if_neg h]
    rw [e] at F
    exact done m t' h tk F N
theorem rr_go {S Nm : Addr} {vs : List Value} {rest : Led} {m₀ : PySem.Str → Option Value} {t₀ : Tok} (hm : m₀ (PySem.Str.ofString "state") = some (.ref S))
    (h1 : ∀ p ∈ (Nm, listOf vs.toArray 0) :: rest, p.1 < S) (h2 : ∀ p ∈ (S, listOf (List.toArray [Value.ref Nm, Value.int 0 t₀]) 0) :: (Nm, listOf vs.toArray 0) :: rest, p.1 < I)
    (go : ∀ NF : Int → Tok → Led, St S Nm vs 0 0 NF → (∀ k t, ∀ p ∈ NF k t, p.1 < I) →
      (∀ (i : Nat) (m : PySem.Str → Option Value) (t t' : Tok) (h : Heap) (tk : Tok), i < 5 → Fr h₀ env.locals h (fun y => if y = x then some (.int (0 + (i : Int)) t) else if y = PySem.Str.ofString "state" then some (.ref S) else m y) → News h₀ env.locals h ((I, itR (0 + ((i + 1 : Nat) : Int)) (((5 : Nat) : Int) - ((i + 1 : Nat) : Int))) :: NF (7 * (i : Int)) t') →
        wpAny (model prog w) A (execs body env) (UnrPost h₀ env.locals { s with heap := h, toks := tk } I (itR (0 + ((i + 1 : Nat) : Int)) (((5 : Nat) : Int) - ((i + 1 : Nat) : Int))) (JJ S NF (i + 1)) Q) E { s with heap := h, toks := tk }) ∧
      (∀ (m : PySem.Str → Option Value) (t : Tok) (h : Heap) (tk : Tok), Fr h₀ env.locals h (fun y => if y = PySem.Str.ofString "state" then some (.ref S) else m y) → News h₀ env.locals h (NF 35 t) → Q .next { s with heap := h, toks := tk })) :
    RangeRest prog w A E h₀ env x body Q s I 0 5 5 0 m₀ ((S, listOf (List.toArray [Value.ref Nm, Value.int 0 t₀]) 0) :: (Nm, listOf vs.toArray 0) :: rest) := by
  have H : St S Nm vs 0 0 (fun k t => (S, listOf (List.toArray [Value.ref Nm, Value.int k t]) 0) :: (Nm, listOf vs.toArray 0) :: rest) :=
    ⟨fun _ _ => .head _, fun _ _ => .tail _ (.head _), fun _ _ _ _ => .head fun p hp => Nat.ne_of_lt (h1 p hp)⟩
  have O : ∀ (k : Int) (t : Tok), ∀ p ∈ (S, listOf (List.toArray [Value.ref Nm, Value.int k t]) 0) :: (Nm, listOf vs.toArray 0) :: rest, p.1 < I := by
    intro k t p hp
    rcases List.mem_cons.mp hp with rfl | hp
    · exact h2 (S, listOf (List.toArray [Value.ref Nm, Value.int 0 t₀]) 0) (.head _)
    · exact h2 p (.tail _ hp)
  obtain ⟨a, b⟩ := go _ H O
  exact rr_law (NF := fun k t => (S, listOf (List.toArray [Value.ref Nm, Value.int k t]) 0) :: (Nm, listOf vs.toArray 0) :: rest) (t₀ := t₀) hm a b
theorem rr_end {S : Addr} {NF : Int → Tok → Led} {i : Nat} {m' : PySem.Str → Option Value} {t : Tok} {h' : Heap} {tk : Tok} {it : Obj} {k : Int} (F : Fr h₀ env.locals h' m') (N : News h₀ env.locals h' ((I, it) :: NF k t)) (O : ∀ k t, ∀ p ∈ NF k t, p.1 < I)
    (hk : k = 7 * ((i + 1 : Nat) : Int)) (hm : m' (PySem.Str.ofString "state") = some (.ref S)) : UnrPost h₀ env.locals s I it (JJ S NF (i + 1)) Q .next { s with heap := h', toks := tk } :=
  UnrEnd.intro F N (NF k t) (fun _ hp => hp) (fun p hp => Nat.ne_of_lt (O _ _ p hp)) ⟨hm, t, by rw [hk]⟩
end
end
section
open PySem.StrLaws
section
local macro_rules | `(tactic| k_room) => `(tactic| ((try simp only [depth_mark, depth_under_make, depth_under_kw, depth_in1, depth_deeper]); (try dsimp only [ktrTop]); omega))
local macro_rules | `(tactic| k_units) => `(tactic| ((try simp only [units_under_make, units_in1, units_deeper, Around.mark_units]); (try dsimp only [ktrTop]); omega))
local macro_rules | `(tactic| units_room) => `(tactic| ((try simp only [units_under_make, units_in1, units_deeper, Around.mark_units]); (try dsimp only [ktrTop]); omega))
local macro_rules | `(tactic| k_room) => `(tactic| ((try simp only [depth_mark, depth_under_make, depth_under_kw, depth_in1, depth_deeper]); (try dsimp only [ktrTop]); (try simp only [Nat.add_assoc, Nat.reduceAdd]); refine Nat.lt_of_le_of_lt (Nat.add_le_add_left ?_ _) (by with_reducible assumption); decide))
set_option maxHeartbeats 8000000 in
theorem parse_no (w : World) (mean : ExcName → Option Value) (mg mb : PySem.Str → Option Value) (news : Led) (x s un rest pl ld a b : PySem.Str) (n f l : Int)
   (hs : Txt.stripChars x (PySem.Str.ofString " \t") = s) (p1 : (Txt.partition s (PySem.Str.ofString " ")).1 = un) (p3 : (Txt.partition s (PySem.Str.ofString " ")).2.2 = rest)
   (sl : (Builtin.Str.occurrences rest (PySem.Str.ofString "/") 0 rest.length 1).isEmpty = false) (q1 : (Txt.partition rest (PySem.Str.ofString "/")).1 = pl) (q3 : (Txt.partition rest (PySem.Str.ofString "/")).2.2 = ld)
   (lds : (ld == PySem.Str.ofString "*") = false) (pls : (pl == PySem.Str.ofString "*") = false) (dd : (Builtin.Str.occurrences pl (PySem.Str.ofString "-") 0 pl.length 1).isEmpty = false)
   (d1 : (Txt.partition pl (PySem.Str.ofString "-")).1 = a) (d3 : (Txt.partition pl (PySem.Str.ofString "-")).2.2 = b)
   (l1 : Txt.stripChars ld (PySem.Str.ofString " \t") = ld) (l2 : ended ld true = true) (l3 : PySem.intText? ld = some n) (a1 : Txt.stripChars a (PySem.Str.ofString " \t") = a) (a2 : ended a true = true) (a3 : PySem.intText? a = some f)
   (b1 : Txt.stripChars b (PySem.Str.ofString " \t") = b) (b2 : ended b true = true) (b3 : PySem.intText? b = some l) (f0 : 0 ≤ f) (f1 : f < l + 1) (f2 : n ≤ f)
   (xl : x.length ≤ 90) (sl' : s.length ≤ 90) (ul : un.length ≤ 90) (rl : rest.length ≤ 90) (pll : pl.length ≤ 90) (ldl : ld.length ≤ 90) (al : a.length ≤ 90) (bl : b.length ≤ 90) (ne : x.length ≠ 0) (t : Tok) :
   CtrL 4 w mean mg mb 66 [.str x t] news (fun nw r => nw = news ∧ r = .none) := by
  k_with_none
  w_top off
  k_with "call builtin:str.strip" => (k_here; first | ((with_reducible refine strip_is (by with_reducible assumption) (by omega) ?_); intro t9 k9 hl9) | ((with_reducible refine strip_is rfl (by omega) ?_); intro t9 k9 hl9))
  k_with "call builtin:str.partition" => (k_here; (k_dflt (refine' partition_is ?z9F ?z9N ?z9e ?z9y ?z9z ?_; (case z9F => k_asm); (case z9N => k_asm); (case z9e => exact ⟨by with_reducible assumption, by with_reducible assumption⟩); (case z9y => decide); (case z9z => omega))); intro D' q' _ _ _ _ _ F' N' l1; (try k_lt l1))
  k_with "compareOp Eq str str" => (k_here; (with_reducible refine eq_no (by with_reducible assumption) ?_))
  k_with "getMethod ref" => (k_here; (with_reducible show wpAny _ _ (getMethod (Value.ref 43) (PySem.Str.ofString "fullmatch") _) _ _ _); k_dflt (refine' getMethod_fm (patAt ?z9F ?z9X ?z9l) ?_; (case z9F => k_asm); (case z9X => k_asm); (case z9l => k_is)))
  k_with "call builtin:re.Pattern.fullmatch" => (k_here; k_dflt (refine' fullmatch_ok ?z9P ?z9F ?z9N (patAt ?z9F2 ?z9X2 ?z9l2) (codeAt ?z9F3 ?z9X3 ?z9l3) ?z9x ?_; (case z9P => with_reducible assumption); (case z9F => k_asm); (case z9N => k_asm); (case z9F2 => k_asm); (case z9X2 => k_asm); (case z9l2 => k_is); (case z9F3 => k_asm); (case z9X3 => k_asm); (case z9l3 => k_is); (case z9x => omega)); intro D9 h9 F9 N9)
  k_with "call type:int" => (k_here; (with_reducible refine KIN.call_text (by with_reducible assumption) (by omega) ?_))
  k_with "execs nil" => (k_here; (with_reducible refine wpAny_execs_nil ?_))
  k_with "execs cons" => (k_here; (try dsimp only); (with_reducible refine wpAny_execs_cons ?_))
  k_with "exec If" => (k_here; refine wpAny_If ?_)
  k_with "eval Call" => (k_here; k_dflt (refine Call_ ?_))
  k_with "eval Call Attribute" => (k_here; k_dflt (refine MethodCall_ ?_))
  k_with "call ref" => (k_here; (fail_if_success (with_reducible show wpAny _ _ (call (Value.ref 66) _) _ _ _)); (with_reducible rename Fr _ _ _ _ => kF9); (with_reducible rename Frag.In _ _ => kX9); k_dflt (first
  | (refine wpAny_call ?_; (refine' code_def ?z9k1 kF9 kX9 ?z9k4 ?z9k5 ?z9kA ?z9kF ?z9kK ?z9k6 ?z9k7 ?z9k8 ?z9k9 ?z9kB ?_ ?z9c2 ?z9c3 ?z9c4 ?z9c5; (case z9kA => exact rfl); (case z9kF => exact rfl); (case z9kK => exact rfl); (case z9k1 => with_reducible assumption); (case z9k4 => k_asm); (case z9k5 => with_reducible assumption); (case z9k6 => k_is); (case z9k7 => k_is); (case z9k8 => k_room); (case z9k9 => first | exact BindsTo.of_eq rfl | exact binds_K (Frag.In.keeps kX9 (Fr.keep kF9)) rfl (by k_is) rfl rfl rfl); (case z9c5 => decide); (case z9kB => exact locs rfl); (case z9c2 => exact rfl); (case z9c3 => exact rfl); (case z9c4 => exact rfl); k_whole; intro g' L' h' FG' F' N' B' X' T'; (try dsimp only); (try k_lift B'); (try k_fold)))
  | (refine' call_cls kF9 kX9 ?z9k3 ?z9k4 ?z9k5 ?z9k6 ?_; (case z9k3 => k_asm); (case z9k4 => k_is); (case z9k5 => k_is); (case z9k6 => k_is); k_whole; intro x' d' h' kF9 N' l1 l2; (try k_lt l1); (try k_lt2 l2); (try k_sweep); (refine' code_def ?z9k1 kF9 kX9 ?z9k4 ?z9k5 ?z9kA ?z9kF ?z9kK ?z9k6 ?z9k7 ?z9k8 ?z9k9 ?z9kB ?_ ?z9c2 ?z9c3 ?z9c4 ?z9c5; (case z9kA => exact rfl); (case z9kF => exact rfl); (case z9kK => exact rfl); (case z9k1 => with_reducible assumption); (case z9k4 => k_asm); (case z9k5 => with_reducible assumption); (case z9k6 => k_is); (case z9k7 => k_is); (case z9k8 => k_room); (case z9k9 => first | exact BindsTo.of_eq rfl | exact binds_K (Frag.In.keeps kX9 (Fr.keep kF9)) rfl (by k_is) rfl rfl rfl); (case z9c5 => decide); (case z9kB => exact locs rfl); (case z9c2 => exact rfl); (case z9c3 => exact rfl); (case z9c4 => exact rfl); k_whole; intro g' L' h' FG' F' N' B' X' T'; (try dsimp only); (try k_lift B'); (try k_fold)))))
  k_with "callWith ref" => (k_here; (with_reducible rename Fr _ _ _ _ => kF9); (with_reducible rename Frag.In _ _ => kX9); k_dflt (first
  | (refine' callWith_K kX9 ?z9k2 ?_; (case z9k2 => k_is); k_whole)
  | (refine' callWith_K0 (Frag.In.keeps kX9 (Fr.keep kF9)) ?z9k2 ?_; (case z9k2 => k_is); k_whole)
  | (refine' callWith_KW kX9 ?z9k2 ?z9k3 ?_; (case z9k2 => k_is); (case z9k3 => exact rfl); k_whole)))
  k_with "binaryOp Sub int int" => (k_here; (with_reducible refine sub_one ?_); intro t9)
  k_with "formatField int" => (k_here; (with_reducible refine field_sm (by with_reducible assumption) ?_); intro t9 k9 hl9)
  k_with "exec Raise some none" => (k_here; (with_reducible show wpAny _ _ (exec (Stmt.Raise (some (PySem.Expr.Name (PySem.Str.ofString "ValueError") _)) none _) _) _ _ _); (with_reducible rename Fr _ _ _ _ => kF); k_dflt (refine' Raise_classB ?z9hh excClass_ValueError self_VE ?z9hx ?_; (case z9hh => rfl); (case z9hx => (refine' name_B kF ?z9k1 ?z9k2 ?z9k3 ?z9k4 ?z9k5 ?_; (case z9k1 => k_asm); (case z9k2 => k_asm); (case z9k3 => k_is); (case z9k4 => boot_by_name); (case z9k5 => decide); exact ⟨rfl, rfl⟩))); intro h' e' x')
  k_with "call ref" => (k_here; (with_reducible show wpAny _ _ (call (Value.ref 73) _) _ _ _); k_dflt (first
  | (refine' ctr_use (bv_ii _ _ _ _ _ _ _ _ _ _ _) ?z9B ?z9F ?z9X ?z9N ?z9T ?z9hk ?z9hd ?z9hu ?_; (case z9B => k_asm); (case z9F => k_asm); (case z9X => k_asm); (case z9N => k_asm); (case z9T => k_asm); (case z9hk => exact rfl); (case z9hd => k_room); (case z9hu => k_units))
  | (refine' ctr_use (bv_in _ _ _ _ _ _ _ _ _) ?z9B ?z9F ?z9X ?z9N ?z9T ?z9hk ?z9hd ?z9hu ?_; (case z9B => k_asm); (case z9F => k_asm); (case z9X => k_asm); (case z9N => k_asm); (case z9T => k_asm); (case z9hk => exact rfl); (case z9hd => k_room); (case z9hu => k_units))
  | (refine' ctr_use (bv_ni _ _ _ _ _ _ _) ?z9B ?z9F ?z9X ?z9N ?z9T ?z9hk ?z9hd ?z9hu ?_; (case z9B => k_asm); (case z9F => k_asm); (case z9X => k_asm); (case z9N => k_asm); (case z9T => k_asm); (case z9hk => exact rfl); (case z9hd => k_room); (case z9hu => k_units))
  | (refine' ctr_use (bv_nn _ _ _ _ _) ?z9B ?z9F ?z9X ?z9N ?z9T ?z9hk ?z9hd ?z9hu ?_; (case z9B => k_asm); (case z9F => k_asm); (case z9X => k_asm); (case z9N => k_asm); (case z9T => k_asm); (case z9hk => exact rfl); (case z9hd => k_room); (case z9hu => k_units))); intro r9 nw9 h9 tk9 O9 F9 N9; unfold BvOut at O9; obtain ⟨e9, O9⟩ := O9; subst e9; (rcases O9 with ⟨p9, e9⟩ | ⟨p9, e9⟩ <;> subst e9 <;> first | (exfalso; omega) | (exact absurd trivial p9) | (exfalso; split at p9 <;> omega) | ((try dsimp only); (try k_fold))))
  k_with "truthy str" => (k_here; (with_reducible refine truthy_ne (by with_reducible assumption) (by omega) ?_); intro k9)
  unfold CtrL
  dsimp only [LO]
  k_fill
  intros
  rename_i hret
  refine wpAny_call ?_
  k_dflt (refine' code_defS0 ?k1 ?k2 ?k3 ?k4 ?k5 ?kA ?k6 ?k7 ?k8 ?k9 ?kB ?_ ?cK ?c2 ?c3 ?c4 ?c5; (case kA => exact rfl); (case k2 => k_asm); (case k1 => k_asm); (case k3 => k_asm); (case k4 => k_asm); (case k5 => k_asm); (case k6 => k_is); (case k7 => k_is); (case k8 => (refine Nat.lt_of_le_of_lt (Nat.le_add_right _ _) (by assumption))); (case k9 => exact binds_K (by k_in) rfl (by k_is) rfl rfl rfl); (case kB => exact locs rfl); (case cK => assumption); (case c2 => exact rfl); (case c3 => exact rfl); (case c4 => exact rfl); (case c5 => decide); k_whole; intro g' L' h' FG' F' N' B' X' T' D'; (try dsimp only); (try k_lift B'); (try k_fold))
  (repeat' (first | (k_unfold; (try dsimp only)) | walk1 | (dsimp only; walk1)))
  all_goals exact hret Value.none news _ _ ⟨rfl, rfl⟩ (by k_asm) (by first | k_asm | exact cb_drop (by with_reducible assumption) (by intro p hp; repeat (first | exact hp | apply List.Mem.tail)))
end
end
section
open PySem.StrLaws
theorem p56 (w : World) (mean : ExcName → Option Value) (mg mb : PySem.Str → Option Value) (news : Led) (t : Tok) : CtrL 4 w mean mg mb 66 [.str (PySem.Str.ofString "bytes 5-6/5") t] news (fun nw r => nw = news ∧ r = .none) :=
  parse_no w mean mg mb news (PySem.Str.ofString "bytes 5-6/5") (PySem.Str.ofString "bytes 5-6/5") (PySem.Str.ofString "bytes") (PySem.Str.ofString "5-6/5") (PySem.Str.ofString "5-6") (PySem.Str.ofString "5") (PySem.Str.ofString "5") (PySem.Str.ofString "6") 5 5 6
    (by decide +kernel) (by decide +kernel) (by decide +kernel) (by decide +kernel) (by decide +kernel) (by decide +kernel) (by decide +kernel) (by decide +kernel) (by decide +kernel) (by decide +kernel) (by decide +kernel)
    (by decide +kernel) (by decide +kernel) (by decide +kernel) (by decide +kernel) (by decide +kernel) (by decide +kernel) (by decide +kernel) (by decide +kernel) (by decide +kernel) (by decide) (by decide) (by decide)
    (by decide +kernel) (by decide +kernel) (by decide +kernel) (by decide +kernel) (by decide +kernel) (by decide +kernel) (by decide +kernel) (by decide +kernel) (by decide +kernel) t
theorem cb44 : CB (PySem.Str.ofString "bytes 4-4/5") (PySem.Str.ofString "bytes 4-4/5") (PySem.Str.ofString "bytes") (PySem.Str.ofString "4-4/5") (PySem.Str.ofString "4-4") (PySem.Str.ofString "5") (PySem.Str.ofString "4") (PySem.Str.ofString "4") :=
  ⟨by decide +kernel, by decide +kernel, by decide +kernel, by decide +kernel, by decide +kernel, by decide +kernel, fun _ => ⟨by decide +kernel, by decide +kernel⟩, (pls_of (by decide +kernel)).p, (pls_of (by decide +kernel)).p, (pls_of (by decide +kernel)).p,
   by decide +kernel, by decide +kernel, by decide +kernel, by decide +kernel, by decide +kernel, by decide +kernel, by decide +kernel, by decide +kernel, by decide +kernel⟩
theorem rg44 : readG (PySem.Str.ofString "bytes") (PySem.Str.ofString "4-4") (PySem.Str.ofString "5") (PySem.Str.ofString "4") (PySem.Str.ofString "4") = some (PySem.Str.ofString "bytes 4-4/5") := by decide +kernel
theorem t44 (w : World) (mean : ExcName → Option Value) (mg mb : PySem.Str → Option Value) (news : Led) (t : Tok) : CtrL 4 w mean mg mb 232 [.str (PySem.Str.ofString "bytes 4-4/5") t] news (fun nw r => nw = news ∧ ∃ tx, r = .str (PySem.Str.ofString "bytes 4-4/5") tx) := by
  have T := told_ctr w mean mg mb news _ _ _ _ _ _ _ _ cb44 t
  rw [rg44] at T
  exact T
end
section
set_option maxHeartbeats 400000 in
theorem law_end {cl : PySem.Str → Option Addr} {mean : ExcName → Option Value} {ns : List Int} {s₁ s' : Shared} {L : Addr} {m : PySem.Str → Option Value} (F : Fr s₁.heap L s'.heap m) (hg : s'.gens = #[]) (hos : s'.os = s₁.os) :
    GoodW PySem.Challenge.rw_bf0061_02.row.claim cl mean [ofPy (PyData.list (List.map PyData.int ns))] s₁ (.ok (.ret (.bool true))) s' := by
  refine goodW_bool F hg (raisesW_false ?_) ?_ hos
  · wrow_none_raised
  · wrow_post
end
section
theorem drop_all {h₀ h : Heap} {L : Addr} {news : Led} (_N : News h₀ L h news) : News h₀ L h [] := fun _ hp => nomatch hp
theorem ne_self {prog : Program} {w : World} {A : Around} {E : Value → Shared → Prop} {s : Shared} {d : PySem.Str} {t u : Tok} {Q : Value → Shared → Prop} (h : Q (.bool false) s) : wpAny (model prog w) A (compareOp .NotEq (.str d t) (.str d u)) Q E s :=
  P.ne_str (by rw [bne_self_eq_false]; exact h)
theorem ne_is {prog : Program} {w : World} {A : Around} {E : Value → Shared → Prop} {s : Shared} {x y : PySem.Str} {t u : Tok} {Q : Value → Shared → Prop} (e : x = y) (h : Q (.bool false) s) : wpAny (model prog w) A (compareOp .NotEq (.str x t) (.str y u)) Q E s := by
  subst e; exact ne_self h
theorem eq_self {prog : Program} {w : World} {A : Around} {E : Value → Shared → Prop} {s : Shared} {d : PySem.Str} {t u : Tok} {Q : Value → Shared → Prop} (h : Q (.bool true) s) : wpAny (model prog w) A (compareOp .Eq (.str d t) (.str d u)) Q E s :=
  P.eq_str (by rw [beq_self_eq_true]; exact h)
theorem txt_same (f l n : Int) : PySem.Str.empty ++ PySem.Str.ofString "bytes" ++ PySem.Str.ofString " " ++ PySem.Str.ofString (toString f) ++ PySem.Str.ofString "-" ++ PySem.Str.ofString (toString ((if n < l + 1 then n else l + 1) - 1)) ++ PySem.Str.ofString "/" ++ PySem.Str.ofString (toString n)
    = PySem.Str.ofString "bytes " ++ PySem.Str.ofString (toString f) ++ PySem.Str.ofString "-" ++ PySem.Str.ofString (toString (if n - 1 < l then n - 1 else l)) ++ PySem.Str.ofString "/" ++ PySem.Str.ofString (toString n) := by
  have e1 : PySem.Str.empty ++ PySem.Str.ofString "bytes" ++ PySem.Str.ofString " " = PySem.Str.ofString "bytes " := by decide +kernel
  have e2 : (if n < l + 1 then n else l + 1) - 1 = if n - 1 < l then n - 1 else l := by
    split <;> split <;> omega
  rw [e1, e2]
-- the law's defs, by their contracts
set_option maxHeartbeats 20000000 in
theorem law_holds : PySem.Challenge.rw_bf0061_02.Holds := hd (by
  k_with_none
  w_top off
  k_with "execs nil" => (k_here; (with_reducible refine wpAny_execs_nil ?_))
  k_with "execs cons" => (k_here; (try dsimp only); (with_reducible refine wpAny_execs_cons ?_))
  k_with "exec If" => (k_here; refine wpAny_If ?_)
  k_with "compareOp NotEq str str" => (k_here; first | (with_reducible refine ne_self ?_) | (with_reducible refine ne_is (txt_same _ _ _) ?_))
  k_with "compareOp Eq str str" => (k_here; (with_reducible refine eq_self ?_))
  k_with "eval Call" => (k_here; k_dflt (refine Call_ ?_))
  k_with "callWith ref" => (k_here; (with_reducible rename Fr _ _ _ _ => kF9); (with_reducible rename Frag.In _ _ => kX9); k_dflt (first
  | (refine' callWith_K kX9 ?z9k2 ?_; (case z9k2 => k_is); k_whole)
  | (refine' callWith_K0 (Frag.In.keeps kX9 (Fr.keep kF9)) ?z9k2 ?_; (case z9k2 => k_is); k_whole)
  | (refine' callWith_KW kX9 ?z9k2 ?z9k3 ?_; (case z9k2 => k_is); (case z9k3 => exact rfl); k_whole)))
  k_with "truthy str" => (k_here; (with_reducible refine truthy_ne (by with_reducible assumption) (by omega) ?_); intro k9)
  k_with "getMethod ref" => (k_here; (with_reducible show wpAny _ _ (getMethod (Value.ref 43) (PySem.Str.ofString "fullmatch") _) _ _ _); k_dflt (refine' getMethod_fm (patAt ?z9F ?z9X ?z9l) ?_; (case z9F => k_asm); (case z9X => k_asm); (case z9l => k_is)))
  k_with "call builtin:re.Pattern.fullmatch" => (k_here; k_dflt (refine' fullmatch_ok ?z9P ?z9F ?z9N (patAt ?z9F2 ?z9X2 ?z9l2) (codeAt ?z9F3 ?z9X3 ?z9l3) ?z9x ?_; (case z9P => with_reducible assumption); (case z9F => k_asm); (case z9N => k_asm); (case z9F2 => k_asm); (case z9X2 => k_asm); (case z9l2 => k_is); (case z9F3 => k_asm); (case z9X3 => k_asm); (case z9l3 => k_is); (case z9x => omega)); intro D9 h9 F9 N9)
  k_with "call type:int" => (k_here; (with_reducible refine KIN.call_text (by with_reducible assumption) (by omega) ?_))
  k_with "call builtin:str.strip" => (k_here; (with_reducible refine strip_is (by with_reducible assumption) (by omega) ?_); intro t9 k9 hl9)
  k_with "call builtin:str.lower" => (k_here; (with_reducible refine lower_is (by with_reducible assumption) (by omega) ?_); intro t9 k9)
  k_with "call builtin:str.startswith" => (k_here; (with_reducible refine starts_is (by with_reducible assumption) ?_))
  k_with "call builtin:str.split" => (k_here; (k_dflt (refine' split_one ?z9F ?z9N ?z9e ?z9y ?z9z ?_; (case z9F => k_asm); (case z9N => k_asm); (case z9e => with_reducible assumption); (case z9y => decide +kernel); (case z9z => omega))); intro D' _ _ _ F' N' l1; (try k_lt l1))
  k_with "call builtin:str.partition" => (k_here; (k_dflt (refine' partition_is ?z9F ?z9N ?z9e ?z9y ?z9z ?_; (case z9F => k_asm); (case z9N => k_asm); (case z9e => exact ⟨by with_reducible assumption, by with_reducible assumption⟩); (case z9y => decide); (case z9z => omega))); intro D' q' _ _ _ _ _ F' N' l1; (try k_lt l1))
  k_with "call type:str" => (k_here; (with_reducible refine str_small (by omega) ?_); intro hl9)
  k_with "call ref" => (k_here; (fail_if_success (with_reducible show wpAny _ _ (call (Value.ref 66) _) _ _ _)); (fail_if_success (with_reducible show wpAny _ _ (call (Value.ref 58) _) _ _ _)); (with_reducible rename Fr _ _ _ _ => kF9); (with_reducible rename Frag.In _ _ => kX9); k_dflt (first
  | (refine wpAny_call ?_; (refine' code_def ?z9k1 kF9 kX9 ?z9k4 ?z9k5 ?z9kA ?z9kF ?z9kK ?z9k6 ?z9k7 ?z9k8 ?z9k9 ?z9kB ?_ ?z9c2 ?z9c3 ?z9c4 ?z9c5; (case z9kA => exact rfl); (case z9kF => exact rfl); (case z9kK => exact rfl); (case z9k1 => with_reducible assumption); (case z9k4 => k_asm); (case z9k5 => with_reducible assumption); (case z9k6 => k_is); (case z9k7 => k_is); (case z9k8 => k_room); (case z9k9 => first | exact BindsTo.of_eq rfl | exact binds_K (Frag.In.keeps kX9 (Fr.keep kF9)) rfl (by k_is) rfl rfl rfl); (case z9c5 => decide); (case z9kB => exact locs rfl); (case z9c2 => exact rfl); (case z9c3 => exact rfl); (case z9c4 => exact rfl); k_whole; intro g' L' h' FG' F' N' B' X' T'; (try dsimp only); (try k_lift B'); (try k_fold)))
  | (refine' call_cls kF9 kX9 ?z9k3 ?z9k4 ?z9k5 ?z9k6 ?_; (case z9k3 => k_asm); (case z9k4 => k_is); (case z9k5 => k_is); (case z9k6 => k_is); k_whole; intro x' d' h' kF9 N' l1 l2; (try k_lt l1); (try k_lt2 l2); (try k_sweep); (refine' code_def ?z9k1 kF9 kX9 ?z9k4 ?z9k5 ?z9kA ?z9kF ?z9kK ?z9k6 ?z9k7 ?z9k8 ?z9k9 ?z9kB ?_ ?z9c2 ?z9c3 ?z9c4 ?z9c5; (case z9kA => exact rfl); (case z9kF => exact rfl); (case z9kK => exact rfl); (case z9k1 => with_reducible assumption); (case z9k4 => k_asm); (case z9k5 => with_reducible assumption); (case z9k6 => k_is); (case z9k7 => k_is); (case z9k8 => k_room); (case z9k9 => first | exact BindsTo.of_eq rfl | exact binds_K (Frag.In.keeps kX9 (Fr.keep kF9)) rfl (by k_is) rfl rfl rfl); (case z9c5 => decide); (case z9kB => exact locs rfl); (case z9c2 => exact rfl); (case z9c3 => exact rfl); (case z9c4 => exact rfl); k_whole; intro g' L' h' FG' F' N' B' X' T'; (try dsimp only); (try k_lift B'); (try k_fold)))))
  k_with "call ref" => (k_here; (with_reducible show wpAny _ _ (call (Value.ref 58) _) _ _ _); (with_reducible rename News _ _ _ _ => oN9); (have N9 := drop_all oN9); clear oN9; (with_reducible refine' rt_enter ?_ ?z9a ?z9b ?z9c ?z9d; (case z9a => omega); (case z9b => omega); (case z9c => omega); (case z9d => omega)); intro X9 R9 C9 D9 hR9; obtain ⟨q1, q2, q3, q4, q5, q6, q7, q8, q9, q10, q11, q12, q13, q14, q15, q16, q17, q18, q19, q20, q21, q22, q23, q24⟩ := hR9; k_dflt (refine wpAny_call ?_; kts_go))
  k_with "call ref" => (k_here; (with_reducible show wpAny _ _ (call (Value.ref 73) _) _ _ _); k_dflt (first
  | (refine' ctr_use (bv_ii _ _ _ _ _ _ _ _ _ _ _) ?z9B ?z9F ?z9X ?z9N ?z9T ?z9hk ?z9hd ?z9hu ?_; (case z9B => k_asm); (case z9F => k_asm); (case z9X => k_asm); (case z9N => k_asm); (case z9T => k_asm); (case z9hk => exact rfl); (case z9hd => first | decide | k_room); (case z9hu => first | decide | k_units | units_room))
  | (refine' ctr_use (bv_in _ _ _ _ _ _ _ _ _) ?z9B ?z9F ?z9X ?z9N ?z9T ?z9hk ?z9hd ?z9hu ?_; (case z9B => k_asm); (case z9F => k_asm); (case z9X => k_asm); (case z9N => k_asm); (case z9T => k_asm); (case z9hk => exact rfl); (case z9hd => first | decide | k_room); (case z9hu => first | decide | k_units | units_room))
  | (refine' ctr_use (bv_ni _ _ _ _ _ _ _) ?z9B ?z9F ?z9X ?z9N ?z9T ?z9hk ?z9hd ?z9hu ?_; (case z9B => k_asm); (case z9F => k_asm); (case z9X => k_asm); (case z9N => k_asm); (case z9T => k_asm); (case z9hk => exact rfl); (case z9hd => first | decide | k_room); (case z9hu => first | decide | k_units | units_room))
  | (refine' ctr_use (bv_nn _ _ _ _ _) ?z9B ?z9F ?z9X ?z9N ?z9T ?z9hk ?z9hd ?z9hu ?_; (case z9B => k_asm); (case z9F => k_asm); (case z9X => k_asm); (case z9N => k_asm); (case z9T => k_asm); (case z9hk => exact rfl); (case z9hd => first | decide | k_room); (case z9hu => first | decide | k_units | units_room))); intro r9 nw9 h9 tk9 O9 F9 N9; unfold BvOut at O9; obtain ⟨e9, O9⟩ := O9; subst e9; (rcases O9 with ⟨p9, e9⟩ | ⟨p9, e9⟩ <;> subst e9 <;> first | (exfalso; omega) | (exact absurd trivial p9) | (exfalso; split at p9 <;> omega) | ((try dsimp only); (try k_fold))))
  k_with "call ref" => (k_here; (with_reducible show wpAny _ _ (call (Value.ref 239) _) _ _ _); (rename St _ _ _ _ _ _ => hSt9); k_dflt (refine' ctr_use (text_ctr _ _ _ _ hSt9 _ _ (by assumption) (by assumption) (by assumption) ?z9k1 ?z9k2) ?z9B ?z9F ?z9X ?z9N ?z9T ?z9hk ?z9hd ?z9hu ?_; (case z9B => k_asm); (case z9F => k_asm); (case z9X => k_asm); (case z9N => k_asm); (case z9T => k_asm); (case z9hk => exact rfl); (case z9k1 => omega); (case z9k2 => omega); (case z9hd => decide); (case z9hu => decide)); intro r9 nw9 h9 tk9 O9 F9 N9; obtain ⟨t9, x9, tx9, e9, e9', hx9⟩ := O9; subst e9; subst e9'; (try dsimp only at N9); (try dsimp only); (try k_fold))
  k_with "call ref" => (k_here; (with_reducible show wpAny _ _ (call (Value.ref 225) _) _ _ _); k_dflt (refine' ctr_use (rd_c _ _ _ _ _ _ (by assumption) _) ?z9B ?z9F ?z9X ?z9N ?z9T ?z9hk ?z9hd ?z9hu ?_; (case z9B => k_asm); (case z9F => k_asm); (case z9X => k_asm); (case z9N => k_asm); (case z9T => k_asm); (case z9hk => exact rfl); (case z9hd => decide); (case z9hu => decide)); intro r9 nw9 h9 tk9 O9 F9 N9; obtain ⟨e9, o9, tx9, hq9, e9'⟩ := O9; subst e9; subst e9'; (rcases o9 with _ | n9 <;> ((try dsimp only [optS]); (try k_fold))))
  k_with "call ref" => (k_here; (with_reducible show wpAny _ _ (call (Value.ref 232) _) _ _ _); k_dflt (first
  | (refine' td_c _ _ _ _ _ _ (by assumption) _ (by assumption) _ _ _ _ _ _ _ _ _ _ _ _ _ _ _ _ ?z9B ?z9XB ?z9TB ?z9F ?z9X ?z9N ?z9T ?z9hk ?z9hd ?z9hu ?_; (case z9B => k_asm); (case z9XB => k_asm); (case z9TB => k_asm); (case z9F => k_asm); (case z9X => k_asm); (case z9N => k_asm); (case z9T => k_asm); (case z9hk => exact rfl); (case z9hd => decide); (case z9hu => decide))
  | (refine' td2_c _ _ _ _ _ _ _ (by assumption) (by assumption) _ _ _ _ _ _ _ _ _ _ _ _ _ _ _ _ ?z9B ?z9XB ?z9TB ?z9F ?z9X ?z9N ?z9T ?z9hk ?z9hd ?z9hu ?_; (case z9B => k_asm); (case z9XB => k_asm); (case z9TB => k_asm); (case z9F => k_asm); (case z9X => k_asm); (case z9N => k_asm); (case z9T => k_asm); (case z9hk => exact rfl); (case z9hd => decide); (case z9hu => decide))); intro r9 nw9 h9 tk9 O9 F9 N9; obtain ⟨e9, tx9, e9'⟩ := O9; subst e9; subst e9'; (try dsimp only [optS]); (try k_fold))
  k_with "call ref" => (k_here; (with_reducible show wpAny _ _ (call (Value.ref 208) _) _ _ _); (rename St _ _ _ _ _ _ => hSt9); k_dflt (refine' ctr_use (next_ctr _ _ _ _ hSt9 _ _ _ _ (by assumption) (by assumption) (by assumption) ?z9k1 ?z9k2 ?z9k3) ?z9B ?z9F ?z9X ?z9N ?z9T ?z9hk ?z9hd ?z9hu ?_; (case z9B => k_asm); (case z9F => k_asm); (case z9X => k_asm); (case z9N => first | k_asm | exact cb_drop (by with_reducible assumption) (fun p hp => List.Mem.tail _ hp)); (case z9T => k_asm); (case z9hk => exact rfl); (case z9k1 => omega); (case z9k2 => omega); (case z9k3 => omega); (case z9hd => decide); (case z9hu => decide)); intro r9 nw9 h9 tk9 O9 F9 N9; obtain ⟨t9, x9, tx9, e9, e9', hx0, hx1⟩ := O9; subst e9; subst e9'; (try dsimp only at N9); (try dsimp only); (try k_fold))
  k_with "call ref" => (k_here; (with_reducible show wpAny _ _ (call (Value.ref 66) [Value.str (PySem.Str.ofString "bytes 5-6/5") _]) _ _ _); k_dflt (refine' p56 _ _ _ _ _ _ _ _ _ _ _ _ _ _ _ _ _ _ _ _ _ ?z9B ?z9XB ?z9TB ?z9F ?z9X ?z9N ?z9T ?z9hk ?z9hd ?z9hu ?_; (case z9B => k_asm); (case z9XB => k_asm); (case z9TB => k_asm); (case z9F => k_asm); (case z9X => k_asm); (case z9N => k_asm); (case z9T => k_asm); (case z9hk => exact rfl); (case z9hd => decide); (case z9hu => decide)); intro r9 nw9 h9 tk9 O9 F9 N9; obtain ⟨e9, e9'⟩ := O9; subst e9; subst e9'; (try k_fold))
  k_with "call ref" => (k_here; (with_reducible show wpAny _ _ (call (Value.ref 232) [Value.str (PySem.Str.ofString "bytes 4-4/5") _]) _ _ _); k_dflt (refine' t44 _ _ _ _ _ _ _ _ _ _ _ _ _ _ _ _ _ _ _ _ _ ?z9B ?z9XB ?z9TB ?z9F ?z9X ?z9N ?z9T ?z9hk ?z9hd ?z9hu ?_; (case z9B => k_asm); (case z9XB => k_asm); (case z9TB => k_asm); (case z9F => k_asm); (case z9X => k_asm); (case z9N => k_asm); (case z9T => k_asm); (case z9hk => exact rfl); (case z9hd => decide); (case z9hu => decide)); intro r9 nw9 h9 tk9 O9 F9 N9; obtain ⟨e9, tx9, e9'⟩ := O9; subst e9; subst e9'; (try k_fold))
  k_go0
  all_goals (try k_fold)
  (repeat' ((fail_if_success (with_reducible show RangeRest _ _ _ _ _ _ _ _ _ _ _ _ _ _ _ _ _)); (fail_if_success (with_reducible show UnrPost _ _ _ _ _ _ _ _ _)); first | (k_unfold; (try dsimp only)) | walk1 | (dsimp only; walk1)))
  refine rr_go (if_pos rfl) ?h1 ?h2 ?go
  case h1 => (repeat' (first | exact List.forall_mem_nil _ | refine List.forall_mem_cons.mpr ⟨?_, ?_⟩)) <;> (refine ltN ?_; dsimp only; omega)
  case h2 => (repeat' (first | exact List.forall_mem_nil _ | refine List.forall_mem_cons.mpr ⟨?_, ?_⟩)) <;> (refine ltN ?_; dsimp only; omega)
  case go =>
    intro NF hSt hO
    (rename IntsAre _ (_ ++ [5, 0, 11]) => hI9)
    obtain ⟨h39, h309⟩ := ns_len hI9
    refine ⟨?_, ?_⟩
    · intro i m t t' h tk hi kF9 kN9
      have hS9 := fun o => St.cons (o := o) hSt (Nat.ne_of_lt (hO 0 0 _ (hSt.s 0 0)))
      replace hS9 := hS9 (itR (0 + ((i + 1 : Nat) : Int)) (((5 : Nat) : Int) - ((i + 1 : Nat) : Int)))
      (try k_fold)
      (repeat' ((fail_if_success (with_reducible show RangeRest _ _ _ _ _ _ _ _ _ _ _ _ _ _ _ _ _)); (fail_if_success (with_reducible show UnrPost _ _ _ _ _ _ _ _ _)); first | (k_unfold; (try dsimp only)) | walk1 | (dsimp only; walk1)))
      all_goals exact rr_end (by k_asm) (by k_asm) hO (by omega) (by (try dsimp only); repeat (first | rw [if_neg (by decide +kernel)] | exact if_pos rfl))
    · intro m t h tk kF9 kN9
      (try k_fold)
      (repeat' (first | (k_unfold; (try dsimp only)) | walk1 | (dsimp only; walk1)))
      all_goals exact law_end (by k_asm) (by assumption) rfl)
end
end Mine
theorem PySem.Challenge.cw_bf0061_02_holds : PySem.Challenge.rw_bf0061_02.Holds := by
  exact Mine.law_holds
