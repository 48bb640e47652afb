import PyProof.Rows.All
import Wide.All
import OpenK.AllK
import Wide.FinOn
import PySem.Challenge.RW_dg5010_01
set_option Elab.async false
set_option maxRecDepth 100000
set_option maxHeartbeats 8000000
set_option linter.unusedVariables false
set_option linter.unusedSimpArgs false
set_option rowWalk.seconds 0

/-! part Hd -/
section
open PySem PySem.W PyProof.Rows
local macro_rules | `(tactic| k_head) => `(tactic| x_head)
open_top hd for PySem.Challenge.rw_dg5010_01

end

theorem Mine.walk_off : True := by
  w_top off
  trivial

/-! part Base -/
section
open PySem PySem.W PyProof.Rows
namespace Mine
section

noncomputable abbrev prg : PySem.Program := PySem.Challenge.rw_dg5010_01.row.prog

/-! pieces of the law's text, by place -/
noncomputable def pick : List Stmt → Nat → Stmt
  | [], _ => .Pass ⟨0, 0, 0, 0⟩
  | s :: _, 0 => s
  | _ :: r, n + 1 => pick r n
noncomputable def bodyOf : Stmt → List Stmt
  | .FunctionDef _ _ b _ _ _ _ _ _ _ => b
  | .For _ _ b _ _ => b
  | .If _ b _ _ => b
  | _ => []
noncomputable def scopeOf : Stmt → Scope
  | .FunctionDef _ _ _ _ _ _ s _ _ _ => s
  | _ => default
noncomputable def lawFn : Stmt := pick PySem.Challenge.pw_dg5010_01.main.body 23
noncomputable def lawScope : Scope := scopeOf lawFn
noncomputable def lawAt (n : Nat) : Stmt := pick (bodyOf lawFn) n
noncomputable def turnAt (n : Nat) : Stmt := pick (bodyOf (lawAt 6)) n

noncomputable abbrev lawEnv (L fa : Addr) (cd : Value) : Env := envOf (Str.ofString "law") lawScope L fa cd
noncomputable abbrev loosesW : List Str := looseW hd.view_39 [Str.ofString "NMEASentence", Str.ofString "RTE", Str.ofString "R00"]

end
end Mine

end

/-! part Hook -/
section
open PySem PySem.W PySem.Calls PyProof.Rows Builtin Builtin.ObjectAttr
namespace Mine
section
variable {prog : Program} {w : World} {A : Around} {E : Value → Shared → Prop} {s : Shared} {K : Frag} {x C f L : Addr} {ox : Obj} {od : Obj} {name : Str} {expr : Bool} {h₀ : Heap} {m : Str → Option Value} {news : List (Addr × Obj)} {es : List DictEntry} {n : Nat} {t : Tok}

/-- an attribute of a live thing's own dict, its class with a __getattr__ -/
theorem own_h {Q : Value → Shared → Prop} {v : Value} {attr : Option Value} (F : Fr h₀ L s.heap m) (X₀ : K.In h₀) (I : InstAt s.heap x ox C (some (dictOf es n)))
    (hg : findIn K (.ref C) "__getattribute__" = some (some (.builtin "object.__getattribute__"))) (hh : hasDictIn K C = true)
    (ha : findIn K (.ref C) name = some attr) (hn : noGet K attr = true) (hl : getL name es = some (some v)) (hv : handedIn v = true) (h : Q v { s with toks := s.toks + 1 }) :
    wpAny (model prog w) A (getAttr (.ref x) name expr) Q E s :=
  get_value (X₀.keeps F.keep) I hg (findObj_own hh ha hn hl) hv h

theorem bind_h {Q : Value → Shared → Prop} {g a hook : Value} {od : Option Obj} (X : K.In s.heap) (I : InstAt s.heap x ox C od) (hga : findIn K (.ref C) "__getattribute__" = some (some (.builtin "object.__getattribute__")))
    (hf : findObj K C od name = some (.bind g a)) (hk : findIn K (.ref C) "__getattr__" = some (some hook))
    (h : wpAny (model prog w) A.in1 (call g [a, .ref x, .ref C]) (fun v s' => wpAny (model prog w) A (handedOut v) Q E s') (fun _ _ => False) { s with toks := s.toks + 1 }) :
    wpAny (model prog w) A (getAttr (.ref x) name expr) Q E s := by
  refine get_open X I hga ?_
  obtain ⟨hh', gg, d, t, os⟩ := s
  have L0 := I.type (M := model prog w)
  have L1 := looks_find (M := model prog w) X I hf
  have L2 := looks_findIn (M := model prog w) X hk
  refine wpAny_bind (wpAny_pure (wpAny_bind (L0.at (wpAny_bind (L1.at (wpAny_bind (L2.at ?_)))))))
  show wpAny _ _ (bindOrHook g a (.ref x) (.ref C) _ hook) _ _ _
  unfold bindOrHook
  refine wpAny_bind (wpAny_attempt (wpAny_holding ?_))
  show wpAny _ _ (holding [a] (call g [a, .ref x, .ref C]) >>= ret) _ _ _
  exact wpAny_bind (wpAny_holding (wpAny_mono h (fun v s' z => wpAny_pure (wpAny_pure z)) fun _ _ z => z.elim))

/-- a property, its class with a __getattr__ -/
theorem prop_h {Q : Value → Shared → Prop} {p fget : Addr} {rest : List Value} {od : Obj} {hook : Value} (F : Fr h₀ L s.heap m) (X₀ : K.In h₀) (I : InstAt s.heap x ox C (some od))
    (hg : findIn K (.ref C) "__getattribute__" = some (some (.builtin "object.__getattribute__"))) (hk : findIn K (.ref C) "__getattr__" = some (some hook)) (hh : hasDictIn K C = true)
    (ha : findIn K (.ref C) name = some (some (.ref p))) (hn : specialIn K (.ref p) "__get__" = some (some (.builtin "property.__get__"))) (ht : takesIn K (.ref p) = some true) (hp : recIn K p "property" = some (.ref fget :: rest))
    (h : codeAny (model prog w) A.in1 (.call (.ref fget) ⟨[.ref x], []⟩) (fun r s' => match r with | .ok (.ret v) => wpAny (model prog w) A (handedOut v) Q E s' | .ok _ => False | .error _ => False) { s with toks := s.toks + 1 }) :
    wpAny (model prog w) A (getAttr (.ref x) name expr) Q E s :=
  bind_h (X₀.keeps F.keep) I hg (findObj_data (by obtain ⟨cd, hc, _⟩ := any_some hh; rw [hc]; rfl) ha hn ht) hk (wpAny_call (prop_get (s := { s with toks := s.toks + 1 }) (X₀.keeps F.keep) hp (codeAny_mono h fun r s' z => by rcases r with _ | _ | _ | _ <;> first | exact z | exact z.elim)))

/-- a method met as an attribute: a bound method is made -/
theorem bound_h {Q : Value → Shared → Prop} {hook : Value} (F : Fr h₀ L s.heap m) (X₀ : K.In h₀) (N : News h₀ L s.heap news) (I : InstAt s.heap x ox C (some (dictOf es n)))
    (hg : findIn K (.ref C) "__getattribute__" = some (some (.builtin "object.__getattribute__"))) (hk : findIn K (.ref C) "__getattr__" = some (some hook)) (hh : hasDictIn K C = true) (ha : findIn K (.ref C) name = some (some (.ref f))) (hf : isFn K (.ref f) = true)
    (hgf : specialIn K (.ref f) "__get__" = some (some (.builtin "function.__get__"))) (ht : takesIn K (.ref f) = some false) (hc : copiedNames.contains name = false) (hl : getL name es = some none)
    (h : ∀ q h', Fr h₀ L h' m → News h₀ L h' ((q, methodObj (.ref f) (.ref x)) :: news) → (∀ p ∈ news, p.1 < q) → Q (.ref q) { s with heap := h', toks := s.toks + 1 }) : wpAny (model prog w) A (getAttr (.ref x) name expr) Q E s :=
  bind_h (X₀.keeps F.keep) I hg (findObj_fn hh ha hgf ht hc (by show lookIn name (dictOf es n) = _; rw [lookIn_dict, hl])) hk
    (wpAny_call (fn_get (s := { s with toks := s.toks + 1 }) (X₀.keeps F.keep) (beq_iff_eq.mp hf) (handed_on rfl (h s.heap.objs.size _ (F.push _) (N.push F _) fun p hp => Heap.lt_size (N p hp).1))))

/-- getMethod upon a thing whose class has a __getattr__: the plain attribute -/
theorem method_h {pl : Sem Bool} {Q : Value × List Value → Shared → Prop} {od : Option Obj} {hook : Value} (F : Fr h₀ L s.heap m) (X₀ : K.In h₀) (I : InstAt s.heap x ox C od)
    (hga : findIn K (.ref C) "__getattribute__" = some (some (.builtin "object.__getattribute__"))) (hk : findIn K (.ref C) "__getattr__" = some (some hook))
    (h : wpAny (model prog w) A (getAttr (.ref x) name) (fun v => Q (v, [])) E s) : wpAny (model prog w) A (getMethod (.ref x) name pl) Q E s := by
  have X := X₀.keeps F.keep
  have hcan := PySem.F.canon_object_ga
  have u : wpAny (model prog w) A (do return (← getAttr (.ref x) name, ([] : List Value))) Q E s := wpAny_bind (wpAny_mono h (fun _ _ z => wpAny_pure z) fun _ _ z => z)
  unfold getMethod specialOf
  refine wpAny_bind (wpAny_bind (I.type.here ((looks_findIn X hga).here ?_)))
  dsimp only
  rw [hcan, if_neg (by decide)]
  refine wpAny_bind (wpAny_bind (I.type.here ((looks_findIn X hk).here ?_)))
  exact u
end
end Mine

end

/-! part Defs -/
section
open PySem PySem.W PySem.Calls PyProof.Rows
local macro_rules | `(tactic| walk_at "getAttr ref") => `(tactic| (k_here; k_dflt (first
  | (refine' Mine.own_h ?k1 ?k2 ?k3 ?k4 ?k5 ?k6 ?k7 ?k8 ?k9 ?_; (case k1 => k_asm); (case k2 => k_asm); (case k3 => k_inst); (case k4 => k_is); (case k5 => k_is); (case k6 => k_is); (case k7 => k_is); (case k8 => first | assumption | k_get); (case k9 => k_handed); k_whole)
  | (refine' Mine.prop_h ?k1 ?k2 ?k3 ?k4 ?k10 ?k5 ?k6 ?k7 ?k8 ?k9 ?_; (case k1 => k_asm); (case k2 => k_asm); (case k3 => k_inst); (case k4 => k_is); (case k10 => k_is); (case k5 => k_is); (case k6 => k_is); (case k7 => k_is); (case k8 => k_is); (case k9 => k_is); k_whole; k_enter)
  | (refine' Mine.bound_h ?k1 ?k2 ?k3 ?k4 ?k5 ?k10 ?k6 ?k7 ?k8 ?k9 ?k11 ?k12 ?k13 ?_; (case k4 => k_inst); (case k1 => k_asm); (case k2 => k_asm); (case k7 => k_is); (case k3 => k_asm); (case k5 => k_is); (case k10 => k_is); (case k6 => k_is); (case k8 => k_is); (case k9 => k_is); (case k11 => k_is); (case k12 => decide +kernel); (case k13 => first | assumption | k_get); k_whole; intro q' h' F' N' l1; (try k_lt l1); (try k_sweep)))))
local macro_rules | `(tactic| walk_at "getMethod ref") => `(tactic| (k_here; k_dflt (refine' Mine.method_h ?k1 ?k2 ?k3 ?k4 ?k5 ?_; (case k1 => k_asm); (case k2 => k_asm); (case k3 => k_inst); (case k4 => k_is); (case k5 => k_is); k_whole)))
local macro_rules | `(tactic| size_fits) => `(tactic| first | ((try simp only [List.size_toArray, Array.size_push, List.push_toArray, List.length_append, List.length_cons, List.length_nil]); (simp only [PySem.sizeLine_eq]); omega) | fail "size_fits: mine")
local macro_rules | `(tactic| walk_at "my_keeps") => `(tactic| (intro z hz; (obtain ⟨i1, i2, i3, i4, i5, i6⟩ := Mine.idle_ne hz); first | rfl | ((refine Eq.trans ?_ (congrFun (by assumption : (_ : Str → Option Value) = _) z)); (try simp only [i1, i2, i3, i4, i5, i6, if_false]); done)))
local macro_rules | `(tactic| walk_at "my_expose") => `(tactic| ((have e1 := (rfl : Mine.lawScope = Mine.lawScope)); (conv at e1 => rhs; whnf); (dsimp only at e1); (conv in (Mine.turnAt _) => whnf); (rw [e1]); clear e1))
local macro_rules | `(tactic| walk_at "my_lt") => `(tactic| first | assumption | exact Mine.allLt_to (by assumption) | (refine List.forall_mem_cons.mpr ⟨by (dsimp only; omega), ?_⟩; walk_at "my_lt"))
local macro_rules | `(tactic| walk_at "my_keepsP") => `(tactic| (intro z hz hp9; (obtain ⟨i1, i2, i3, i4, i5, i6⟩ := Mine.idle_ne hz); first | rfl | ((refine Eq.trans ?_ (congrFun (by assumption : (_ : Str → Option Value) = _) z)); (try simp only [i1, i2, i3, i4, i5, i6, hp9, if_false]); done)))
namespace Mine

abbrev S (x : String) : Str := Str.ofString x

/-- the classes of the things: RTE, R00, the maker's sentence, the question -/
def IsCls (C : Nat) : Prop := C = 260 ∨ C = 281 ∨ C = 235 ∨ C = 209

/-- what the walk asks of a thing's own dict -/
structure DictIs (es : List DictEntry) (a : Addr) : Prop where
  data : getL (S "data") es = some (some (.ref a))
  wl : getL (S "waypoint_list") es = some none
  ren : getL (S "render") es = some none
  idf : getL (S "identifier") es = some none
  sf : getL (S "set_field") es = some none

/-- a text under a name of the dict -/
def Says (es : List DictEntry) (n x : String) : Prop := ∃ t, getL (S n) es = some (some (.str (S x) t))

def KindIs (es : List DictEntry) : Nat → Prop
  | 0 => Says es "talker" "GP" ∧ Says es "sentence_type" "RTE"
  | 1 => Says es "talker" "GP" ∧ Says es "sentence_type" "R00"
  | 2 => Says es "manufacturer" "ABC"
  | 3 => Says es "talker" "GP" ∧ Says es "listener" "EC" ∧ Says es "sentence_type" "RMC"
  | _ => Says es "talker" "II" ∧ Says es "listener" "EC" ∧ Says es "sentence_type" "GGA"

theorem frE {m : Str → Option Value} (ps : List (Str × Value)) (hp : ∀ p ∈ ps, m p.1 = some p.2) : kstB m ps = m := funext fun z => kstB_eq hp fun _ => rfl
theorem frK {h₀ h : Heap} {L : Addr} {m : Str → Option Value} (F : Fr h₀ L h m) (ps : List (Str × Value)) (hp : ∀ p ∈ ps, m p.1 = some p.2) : Fr h₀ L h (kstB m ps) := by
  have e : kstB m ps = m := funext fun z => kstB_eq hp fun _ => rfl
  rw [e]; exact F

def idle : List Str := [S "told", S "live", S "spoiled", S "place", S "answer", S "k"]
/-- the frame's names but the idle ones are as they were -/
def Keeps (m m' : Str → Option Value) : Prop := ∀ z, idle.contains z = false → m' z = m z
/-- as Keeps, but for the page -/
def KeepsP (m m' : Str → Option Value) : Prop := ∀ z, idle.contains z = false → z ≠ S "page" → m' z = m z
theorem Keeps.refl {m : Str → Option Value} : Keeps m m := fun _ _ => rfl
theorem Keeps.trans {m m' m'' : Str → Option Value} (a : Keeps m m') (b : Keeps m' m'') : Keeps m m'' := fun z hz => (b z hz).trans (a z hz)

theorem allLt_to {d : Addr} {l : List (Addr × Obj)} (h : AllLt d l) : ∀ p ∈ l, p.1 < d := by
  induction l with
  | nil => exact fun _ hp => nomatch hp
  | cons q l ih => exact List.forall_mem_cons.mpr ⟨h.1, ih h.2⟩

theorem idle_ne {z : Str} (h : idle.contains z = false) : z ≠ S "told" ∧ z ≠ S "live" ∧ z ≠ S "spoiled" ∧ z ≠ S "place" ∧ z ≠ S "answer" ∧ z ≠ S "k" := by
  simp only [idle, List.contains_cons, List.contains_nil, Bool.or_false, Bool.or_eq_false_iff, beq_eq_false_iff_ne] at h
  exact h

section
variable {prog : Program} {w : World} {A : Around} {E : Value → Shared → Prop} {s : Shared} {h₀ : Heap} {L : Addr} {m : Str → Option Value} {news : List (Addr × Obj)}

/-- thing.data -/
theorem data_get (KX : (hd.heap_39 w.params).In h₀) {C t d a : Addr} {es : List DictEntry} {n : Nat} {expr : Bool} {Q : Value → Shared → Prop} (F : Fr h₀ L s.heap m) (N : News h₀ L s.heap news)
    (ht : (t, instObj C d) ∈ news) (hdd : (d, dictOf es n) ∈ news) (D : DictIs es a) (hC : IsCls C) (h : Q (.ref a) { s with toks := s.toks + 1 }) :
    wpAny (model PySem.Challenge.rw_dg5010_01.row.prog w) A (getAttr (.ref t) (S "data") expr) Q E s := by
  revert KX
  k_fill
  intro KX
  have D1 := D.data
  rcases hC with rfl | rfl | rfl | rfl
  all_goals (
    refine' Mine.own_h F KX (InstAt.of_news N ht hdd) ?a ?b ?c ?e D1 rfl h
    (case a => k_is)
    (case b => k_is)
    (case c => k_is)
    (case e => k_is))
end
end Mine

end

/-! part Lists -/
section
open PySem PySem.W PySem.Calls PyProof.Rows
namespace Mine
section
variable {prog : Program} {w : World} {A : Around} {E : Value → Shared → Prop} {s : Shared} {h₀ : Heap} {L D : Addr} {m : Str → Option Value} {news news' : List (Addr × Obj)} {vs : List Value} {n : Nat} {k : Int} {t : Tok} {x : Value}

theorem len_n {Q : Value → Shared → Prop} (N : News h₀ L s.heap news) (hm : (D, listOf vs.toArray n) ∈ news) (hz : vs.length ≤ 1000000)
    (h : Q (.int vs.length (s.toks + 1)) { s with toks := s.toks + 1 + 1 }) : wpAny (model prog w) A (call (.builtin "len") [.ref D]) Q E s :=
  PyProof.Rows.len_list (News.isList N hm) (by rw [List.size_toArray]; omega) (by rw [List.size_toArray]; exact h)

theorem item_n {value slice : PySem.Expr} {Q : Value → Shared → Prop} (N : News h₀ L s.heap news) (hm : (D, listOf vs.toArray n) ∈ news) (h0 : 0 ≤ k) (hk : k < 2 ^ 63) (hx : vs[k.toNat]? = some x) (h : Q x s)
    (hb : subscripted slice false (.ref D) (.int k t) = operate [.ref D, .int k t] (getItem (.ref D) (.int k t)) := by with_unfolding_all rfl) :
    wpAny (model prog w) A (subscriptTail value slice (.ref D) (.int k t)) Q E s :=
  have hl := News.isList N hm
  tail_any hl.typeIs slot_list_getitem.lookup (wpAny_getItem_list hl h0 hk (by simpa using hx) h) hb

theorem set_n {Q : Unit → Shared → Prop} (F : Fr h₀ L s.heap m) (N : News h₀ L s.heap news) (U : Upd D (listOf vs.toArray n) (listOf (vs.set k.toNat x).toArray n) news news') (h0 : 0 ≤ k) (h1 : k < (vs.length : Int)) (hz : vs.length ≤ 1000000)
    (h : ∀ h', Fr h₀ L h' m → News h₀ L h' news' → Q () { s with heap := h' }) : wpAny (model prog w) A (setItem (.ref D) (.int k t) x) Q E s := by
  obtain ⟨pre, post, rfl, rfl, a, b⟩ := U.split
  have z := N (D, listOf vs.toArray n) (List.mem_append.mpr (.inr (.head _)))
  refine ki_setAt z.1 h0 (by omega) (by rw [List.size_toArray]; exact h1) (h _ (F.change (Heap.SameBut.update ..) z.2.1 z.2.2) (ki_turn _ N a b ?_ ?_))
  · show vs.toArray.setIfInBounds k.toNat x = (vs.set k.toNat x).toArray
    simp
  · rw [if_pos (by simp)]

theorem append_n {Q : Value → Shared → Prop} (F : Fr h₀ L s.heap m) (N : News h₀ L s.heap news) (U : Upd D (listOf vs.toArray n) (listOf (vs ++ [x]).toArray (n + 1)) news news') (hz : vs.length ≤ 1000000)
    (h : ∀ h', Fr h₀ L h' m → News h₀ L h' news' → Q .none { s with heap := h' }) : wpAny (model prog w) A (call (.builtin "list.append") [.ref D, x]) Q E s := by
  rw [← List.push_toArray] at U
  exact append_K F N U h (by rw [List.size_toArray, sizeLine_eq]; omega)

theorem pop_n {Q : Value → Shared → Prop} (F : Fr h₀ L s.heap m) (N : News h₀ L s.heap news) (U : Upd D (listOf vs.toArray n) (listOf vs.dropLast.toArray (n + 1)) news news') (hne : 0 < vs.length) (hz : vs.length ≤ 1000000)
    (h : ∀ h' y, Fr h₀ L h' m → News h₀ L h' news' → Q y { s with heap := h' }) : wpAny (model prog w) A (call (.builtin "list.pop") [.ref D]) Q E s := by
  have hn : vs ≠ [] := by intro e; rw [e] at hne; exact Nat.lt_irrefl _ hne
  have h1 : vs.dropLast ++ [vs.getLast hn] = vs := List.dropLast_concat_getLast hn
  refine kl_pop F N (p := vs.dropLast) (y := vs.getLast hn) ?_ U (by show vs.length ≤ sizeLine; rw [sizeLine_eq]; omega) fun h' F' N' => h h' _ F' N'
  have e := kpa_last (vs.getLast hn) vs.dropLast
  rw [h1] at e
  simpa using e

theorem pick_from (vs : List Value) : kms_pick vs.toArray.toList (some 4) none = vs.drop 4 := by
  show (vs.drop (min 4 vs.length)).take (vs.length - min 4 vs.length) = vs.drop 4
  rw [kmk_drop_min]
  refine List.take_of_length_le ?_
  rw [List.length_drop]
  omega
theorem pick_all (vs : List Value) : kms_pick vs.toArray.toList none none = vs := by
  show (vs.drop 0).take (vs.length - 0) = vs
  simp
end
end Mine

end

/-! part Enum -/
section
open PySem PySem.W PySem.Calls PyProof.Rows
open Builtin
namespace Mine
section
variable {prog : Program} {w : World} {A : Around} {E : Value → Shared → Prop} {s : Shared}
theorem nextOf_tup_item {it t : Addr} {i : Nat} {items : Array Value} {x : Value} {Q : Value → Shared → Prop} (hit : s.heap.IsTupleIter it t i) (ht : s.heap.IsTuple t items) (hx : items[i]? = some x)
    (hQ : ∀ h', h'.IsTupleIter it t (i + 1) → Heap.SameBut it s.heap h' → Q x { s with heap := h' }) : wpAny (model prog w) A (Builtin.SmallTypes.nextOf (.ref it)) Q E s := by
  obtain ⟨o, ho, hc, hd⟩ := id hit
  obtain ⟨ol, hol, _, nl, hdl⟩ := ht
  unfold Builtin.SmallTypes.nextOf
  refine wpAny_bind (wpAny_callSpecial?_slot (name := Str.ofString "__next__") hit.typeIs F.slot_tuple_iterator_next
    (wpAny_call_entry F.slot_tuple_iterator_next hit.typeIs F.entry_tuple_iterator_next ?_ (F.args_tuple_iterator_next_1 _)))
  show wpAny _ _ (field (.ref it) 0 >>= _) _ _ s
  refine wpAny_bind (wpAny_field ho hd (x := .ref t) rfl ?_)
  show wpAny _ _ (if (Value.ref t == Value.none) = true then _ else _) _ _ s
  rw [if_neg (show ¬ ((Value.ref t == Value.none) = true) from Bool.false_ne_true)]
  show wpAny _ _ (field (.ref it) 1 >>= _) _ _ s
  refine wpAny_bind (wpAny_field ho hd (x := .int i 0) rfl ?_)
  show wpAny _ _ (seqItems? (.ref t) >>= _) _ _ s
  refine wpAny_bind (wpAny_seqItems hol hdl ?_)
  simp only [Int.toNat_natCast, hx]
  refine wpAny_bind (wpAny_setField ho hd (by simp) (wpAny_pure ⟨x, rfl, wpAny_pure (hQ _ ?_ (Heap.SameBut.update ..))⟩))
  exact ⟨_, Heap.get?_update_self _ ho (Obj.isFreed_of_fields (Obj.data_mapFields hd _)), (Obj.cls_mapFields ..).trans hc, by
    rw [Obj.data_mapFields hd]; simp [rawInt]⟩

theorem nextOf_tup_end {it t : Addr} {i : Nat} {items : Array Value} {Q : Value → Shared → Prop} (hh : A.handled = none) (hit : s.heap.IsTupleIter it t i) (ht : s.heap.IsTuple t items) (hx : items[i]? = none)
    (hE : ∀ h' e, Heap.ExtBut it s.heap h' → (∃ o, h'.get? e = some o ∧ o.cls = .type "StopIteration") → E (.ref e) { s with heap := h' }) :
    wpAny (model prog w) A (Builtin.SmallTypes.nextOf (.ref it)) Q E s := by
  obtain ⟨o, ho, hc, hd⟩ := id hit
  obtain ⟨ol, hol, _, nl, hdl⟩ := ht
  unfold Builtin.SmallTypes.nextOf
  refine wpAny_bind (wpAny_callSpecial?_slot (name := Str.ofString "__next__") hit.typeIs F.slot_tuple_iterator_next
    (wpAny_call_entry F.slot_tuple_iterator_next hit.typeIs F.entry_tuple_iterator_next ?_ (F.args_tuple_iterator_next_1 _)))
  show wpAny _ _ (field (.ref it) 0 >>= _) _ _ s
  refine wpAny_bind (wpAny_field ho hd (x := .ref t) rfl ?_)
  show wpAny _ _ (if (Value.ref t == Value.none) = true then _ else _) _ _ s
  rw [if_neg (show ¬ ((Value.ref t == Value.none) = true) from Bool.false_ne_true)]
  show wpAny _ _ (field (.ref it) 1 >>= _) _ _ s
  refine wpAny_bind (wpAny_field ho hd (x := .int i 0) rfl ?_)
  show wpAny _ _ (seqItems? (.ref t) >>= _) _ _ s
  refine wpAny_bind (wpAny_seqItems hol hdl ?_)
  simp only [Int.toNat_natCast, hx]
  refine wpAny_bind (wpAny_rule (wpAny_bind (wpAny_setField ho hd (by simp) ?_)))
  show wpAny _ _ (newExc (.type "StopIteration") [] >>= _) _ _ _
  refine wpAny_bind ?_
  simp only [newExc, newTuple]
  refine wpAny_bind (wpAny_newObj_type ?_ (by size_fits))
  refine wpAny_bind (m := firstArgMember _ _) (wpAny_of_eq (a := Value.none) (by first | rfl | (simp only [firstArgMember]; rfl)) ?_)
  refine wpAny_newObj_type ?_ (by size_fits)
  simp only [raiseNew]
  refine wpAny_bind (wpAny_handled ?_)
  first | rw [show A.in1.handled = none from hh] | rw [hh]
  refine wpAny_bind (wpAny_pure (wpAny_throw ?_))
  exact hE _ _ (((Heap.SameBut.update ..).extBut.push _).push _) ⟨_, Heap.get?_push_size _ rfl, rfl⟩
end

theorem draws_tup {prog : Program} {w : World} {A : Around} (hh : A.handled = none) (it t : Addr) (hne : t ≠ it) (items : Array Value) :
    Draws prog w A it [it, t] items.size (fun i v => items[i]? = some v) (fun i h => h.IsTupleIter it t i ∧ h.IsTuple t items) where
  live := fun _ _ st => let ⟨o, ho, _⟩ := st.1; ⟨o, ho⟩
  frame := fun _ _ _ st hk => ⟨st.1.at fun o e => hk it (by simp) o e, st.2.at fun o e => hk t (by simp) o e⟩
  item := fun i s Q E hi st hQ => by
    refine nextOf_tup_item st.1 st.2 (x := items[i]) (by simp [hi]) fun h' hit' hs' => ?_
    exact hQ _ h' s.toks (by simp [hi]) ⟨hit', st.2.extBut hs'.extBut hne⟩ hs'
  done := fun s Q E st hE => nextOf_tup_end hh st.1 st.2 (by simp) hE

open AutoSeq1 (wpAny_loadPart') in
theorem meets_enum_tup (l : Addr) (items : Array Value) (n : Nat) (dct : Option Addr) (sl : Array (Option Value)) :
    Meets (Builtin.«enumerate.__new__» ⟨[.type "enumerate", .ref l], []⟩) (fun _ R s => s.heap.get? l = some { cls := .type "tuple", dict := dct, data := .seq items n, slots := sl } ∧
      R (.ok (.ret (.ref (s.heap.push { cls := .type "tuple_iterator", data := .fields #[.ref l, .int 0 0] }).objs.size)))
        { s with heap := (s.heap.push { cls := .type "tuple_iterator", data := .fields #[.ref l, .int 0 0] }).push { cls := .type "enumerate", data := .fields #[.none, .bool false, .ref s.heap.objs.size, rawInt 0, .none, .none] } }) :=
  .of_wp fun prog w A R s h => by
    obtain ⟨hp, g, d, tk, os⟩ := s; obtain ⟨hl, h⟩ := h
    have hsub := sub_enumerate
    have hL : Heap.IsTuple (Shared.heap ⟨hp, g, d, tk, os⟩) l items := ⟨_, hl, rfl, n, rfl⟩
    wp_walk using wpAny_loadPart' hl
    refine wpAny_stack_any fun st => wpAny_pure ?_
    split
    · rename_i c _ _ _ _ _
      cases (c == Value.type "enumerate")
      · wp_walk using wpAny_loadPart' hl, wpAny_pyIter_tuple hL
        exact ⟨_, rfl, h⟩
      · wp_walk using wpAny_loadPart' hl, wpAny_pyIter_tuple hL
        exact ⟨_, rfl, h⟩
    · wp_walk using wpAny_loadPart' hl, wpAny_pyIter_tuple hL
      exact ⟨_, rfl, h⟩

theorem call_enum_tup {prog : Program} {w : World} {A : Around} {E : Value → Shared → Prop} {s : Shared} {l : Addr} {items : Array Value} {Q : Value → Shared → Prop} (hL : s.heap.IsTuple l items)
    (h : ∀ h', IsEnum h' (s.heap.objs.size + 1) s.heap.objs.size 0 .none → h'.IsTupleIter s.heap.objs.size l 0 → h'.objs.size = s.heap.objs.size + 2 →
      (∀ b o, s.heap.get? b = some o → h'.get? b = some o) → Q (.ref (s.heap.objs.size + 1)) { s with heap := h' }) :
    wpAny (model prog w) A (call (.type "enumerate") [.ref l]) Q E s := by
  obtain ⟨⟨c, dct, dt, sl⟩, hl, hc, n, hd⟩ := hL
  replace hc : c = .type "tuple" := hc
  replace hd : dt = .seq items n := hd
  subst hc hd
  refine callType_new F.called_enumerate (by decide) (F.typeCall_enumerate_1 _) (F.newCall_enumerate_1 _) (fun obj => F.args_object_init_2 obj _) F.entry_enumerate_new
    (meets_enum_tup l items n dct sl) ⟨hl, ?_⟩
  have hz : (s.heap.push { cls := .type "tuple_iterator", data := .fields #[.ref l, .int 0 0] }).objs.size = s.heap.objs.size + 1 := Heap.size_push ..
  show _ ∧ _
  rw [hz]
  have he : IsEnum ((s.heap.push { cls := .type "tuple_iterator", data := .fields #[.ref l, .int 0 0] }).push
      { cls := .type "enumerate", data := .fields #[.none, .bool false, .ref s.heap.objs.size, rawInt 0, .none, .none] }) (s.heap.objs.size + 1) s.heap.objs.size 0 .none := by
    have := Heap.get?_push_size (s.heap.push { cls := .type "tuple_iterator", data := .fields #[.ref l, .int 0 0] })
      (o := { cls := .type "enumerate", data := .fields #[.none, .bool false, .ref s.heap.objs.size, rawInt 0, .none, .none] }) rfl
    rw [hz] at this; exact this
  refine ⟨⟨_, he, rfl⟩, h _ he ⟨_, Heap.get?_push_of_some _ (Heap.get?_push_size _ rfl), rfl, rfl⟩ (by rw [Heap.size_push, hz]) fun b o x => Heap.get?_push_of_some _ (Heap.get?_push_of_some _ x)⟩
end Mine

end

/-! part Comp -/
section
open PySem PySem.W PySem.Calls PyProof.Rows
open Builtin
namespace Mine
section
variable {prog : Program} {w : World} {A : Around} {E : Value → Shared → Prop} {s : Shared}

theorem compLoop_pairD {kx vx iter : Expr} {elts : List Expr} {x1} {tp : Pos} {scope : Scope} {pos : Pos} {it : Value} {D : Addr} {env : Env} {R : Result → Shared → Prop} (I : Nat → Shared → Prop)
    (turn : ∀ n s, I n s → wpAny (model prog w) A (pyNext it) (fun r s₁ => match r with
      | none => R (.ok .next) s₁
      | some v => wpAny (model prog w) A (letOwnedTupleGo (.Tuple elts x1 tp) it v) (fun _ s₁' => wpAny (model prog w) A (assign (.Tuple elts x1 tp) env v) (fun _ s₂ =>
          wpAny (model prog w) A (eval kx env) (fun kv s₄ => wpAny (model prog w) A (eval vx env) (fun vv s₅ => wpAny (model prog w) A (dictSet D kv vv) (fun _ s₆ => ∃ m, m < n ∧ I m s₆)
            (notedBy (model prog w) A env fun e s' => R (.error e) s') s₅) (notedBy (model prog w) A env fun e s' => R (.error e) s') s₄) (notedBy (model prog w) A env fun e s' => R (.error e) s') s₂)
          (notedBy (model prog w) A env fun e s' => R (.error e) s') s₁') (notedBy (model prog w) A env fun e s' => R (.error e) s') s₁) (notedBy (model prog w) A env fun e s' => R (.error e) s') s)
    (n : Nat) (h : I n s) : codeAny (model prog w) A (.compLoop (.DictComp kx vx [⟨.Tuple elts x1 tp, iter, [], 0⟩] scope pos) 0 it (.ref D) env) R s := by
  refine codeAny_loop rfl I (fun n s hI => ?_) n h
  show wpAny _ A ((compTurn (.DictComp kx vx [⟨.Tuple elts x1 tp, iter, [], 0⟩] scope pos) 0 it (.ref D) env).onRaise (fun x => do noteFrame x env; theTreesLotGoes x)) _ _ s
  refine wpAny_noted ?_
  rw [compTurn_dict]
  refine wpAny_bind (wpAny_standAt (wpAny_bind (wpAny_mono (turn n s hI) (fun r s₁ h₁ => ?_) fun _ _ h' => h')))
  cases r with
  | none => exact wpAny_pure h₁
  | some v =>
    refine wpAny_bind (wpAny_mono h₁ (fun _ s₁' h₁' => ?_) fun _ _ h' => h')
    refine wpAny_bind (wpAny_mono h₁' (fun _ s₂ h₂ => wpAny_bind (wpAny_mono (wpAny_tests_nil (Q := fun ok s₃ => ok = true ∧ s₃ = s₂) ⟨rfl, rfl⟩) (fun ok s₃ h₃ => ?_) fun _ _ h' => h')) fun _ _ h' => h')
    obtain ⟨rfl, rfl⟩ := h₃
    exact wpAny_bind (wpAny_bind (wpAny_mono h₂ (fun kv s₄ h₄ => wpAny_bind (wpAny_holding (wpAny_mono h₄ (fun vv s₅ h₅ => wpAny_bind (wpAny_standAt (wpAny_holding (wpAny_mono h₅ (fun _ s₆ h₆ => wpAny_pure ⟨rfl, h₆⟩) fun _ _ h' => h')))) fun _ _ h' => h'))) fun _ _ h' => h'))

/-- the dict holds the names, each with its place -/
def Kvs (names : List Str) (kvs : List (Str × Value)) : Prop := kvs.length = names.length ∧ ∀ (j : Nat) (nm : Str), names[j]? = some nm → ∃ t, kvs[j]? = some (nm, Value.int (j : Int) t)
theorem Kvs.nil : Kvs [] [] := ⟨rfl, fun _ _ h => by simp at h⟩
theorem Kvs.snoc {l : List Str} {kvs : List (Str × Value)} {nm : Str} {t : Tok} (h : Kvs l kvs) (hn : nm ∉ l) : Kvs (l ++ [nm]) (stored kvs nm (.int (l.length : Int) t)) := by
  obtain ⟨hl, hk⟩ := h
  have hany : (kvs.any fun kv => decide (kv.1 = nm)) = false := by
    rw [List.any_eq_false]
    intro kv hkv
    obtain ⟨j, hj, rfl⟩ := List.getElem_of_mem hkv
    obtain ⟨t', ht'⟩ := hk j (l[j]'(by omega)) (List.getElem?_eq_getElem (by omega))
    rw [List.getElem?_eq_getElem hj] at ht'
    have e := Option.some.inj ht'
    rw [e]
    simp only [decide_eq_true_eq]
    intro e'
    exact hn (e' ▸ List.getElem_mem (by omega))
  unfold stored
  rw [hany, if_neg (by decide)]
  refine ⟨by rw [List.length_append, List.length_append, hl]; rfl, fun j x hx => ?_⟩
  by_cases hj : j < l.length
  · rw [List.getElem?_append_left hj] at hx
    obtain ⟨t', ht'⟩ := hk j x hx
    exact ⟨t', by rw [List.getElem?_append_left (by omega)]; exact ht'⟩
  · have hj' : j < (l ++ [nm]).length := (List.getElem?_eq_some_iff.mp hx).1
    rw [List.length_append, List.length_singleton] at hj'
    have : j = l.length := by omega
    subst this
    rw [List.getElem?_append_right (Nat.le_refl _), Nat.sub_self] at hx
    have hx' : nm = x := Option.some.inj hx
    subst hx'
    exact ⟨t, by rw [List.getElem?_append_right (by omega), hl, Nat.sub_self]; rfl⟩

theorem block_pairD {f k : Str} {p1 p2 p3 p4 p5 p6 tp pos : Pos} {iter : Expr} {x1} {scope : Scope} {cl : List (Str × Addr)} {s₂ : Shared} {env : Env} {I : Addr} {fp wr : List Addr} {n : Nat} {Pt : Nat → Array Value → Prop} {St : Nat → Heap → Prop} {Mid : Nat → Addr → Heap → Prop} {names : List Str}
    {RR : Value → Addr → Result → Shared → Prop}
    (W : WalksU prog w A I fp wr n Pt St Mid) (hh : A.handled = none) (hn : n = names.length) (hsz : names.length ≤ 1000) (hnd : names.Nodup)
    (hP : ∀ i vals, Pt i vals → i < n → ∃ t ti tx a ty nm, names[i]? = some nm ∧ vals = #[.int (i : Int) t, .ref ti] ∧ IsTup s₂.heap ti #[.str a tx, .str nm ty] ∧ ti ∉ wr)
    (hcell : ∀ y ∈ scope.names, y.2 ≠ .cell) (hkind : scope.kind = .function) (hf : scope.names.lookup f = some .local) (hk : scope.names.lookup k = some .local) (hfk : f ≠ k) (hdf : (f == ("__debug__" : Str)) = false) (hdk : (k == ("__debug__" : Str)) = false) (hst : St 0 s₂.heap) (hfp : ∀ b ∈ fp, b < s₂.heap.objs.size)
    (hRR : ∀ D C h' tk m' kvs, s₂.heap.objs.size ≤ D → s₂.heap.get? D = none → s₂.heap.get? C = none → D ≠ C → h'.Ns C m' → h'.DictOf (strKind prog w) D kvs → Kvs names kvs → (∀ b o, b ∉ wr → s₂.heap.get? b = some o → h'.get? b = some o) → RR (.ref D) C (.ok .next) { s₂ with heap := h', toks := tk }) :
    wpAny (model prog w) A newDict (fun acc s₃ => wpAny (model prog w) A (newFunctionEnv scope env.globals cl [] env.qual none .none (some env)) (fun cenv s₄ =>
      codeAny (model prog w) A (.compStart (.DictComp (.Subscript (.Name f p1) (.Constant (.int 1) 0 p2) p3) (.Name k p4) [⟨.Tuple [.Name k p5, .Name f p6] x1 tp, iter, [], 0⟩] scope pos) 0 (.ref I) acc { cenv with scope := relabel scope env }) (RR acc cenv.locals) s₄) E s₃) E s₂ := by
  refine wpAny_newObj_type (wpAny_newFunctionEnv hcell (by intro y hy; simp at hy) (fun h₁ hns₁ hsb₁ => ?_) hkind)
  dsimp only at hns₁ hsb₁ ⊢
  have hnew : (s₂.heap.push { cls := .type "dict", dict := none, data := .dict #[] }).DictOf (strKind prog w) s₂.heap.objs.size [] := Heap.DictOf.new s₂.heap
  generalize hH2 : s₂.heap.push { cls := .type "dict", dict := none, data := .dict #[] } = H2 at hns₁ hsb₁ hnew ⊢
  have hC : H2.objs.size = s₂.heap.objs.size + 1 := by rw [← hH2, Heap.size_push]
  have hDC : s₂.heap.objs.size ≠ H2.objs.size := by rw [hC]; exact Nat.ne_of_lt (Nat.lt_succ_self _)
  have below : ∀ b, b < s₂.heap.objs.size → b ≠ H2.objs.size ∧ b ≠ s₂.heap.objs.size := fun b hb => ⟨by rw [hC]; exact Nat.ne_of_lt (Nat.lt_succ_of_lt hb), Nat.ne_of_lt hb⟩
  have hDf : s₂.heap.objs.size ∉ fp := fun hm => Nat.lt_irrefl _ (hfp _ hm)
  have hCf : H2.objs.size ∉ fp := fun hm => by have := hfp _ hm; rw [hC] at this; exact Nat.lt_irrefl _ (Nat.lt_of_succ_lt this)
  have hDw : s₂.heap.objs.size ∉ wr := fun hm => hDf (W.sub _ hm)
  have hCw : H2.objs.size ∉ wr := fun hm => hCf (W.sub _ hm)
  have old : ∀ b o, s₂.heap.get? b = some o → h₁.get? b = some o := fun b o e => hsb₁.extBut b o (below b (Heap.lt_size e)).1 (Heap.get?_push_of_some _ (hH2 ▸ Heap.get?_push_of_some _ e))
  have hacc : h₁.DictOf (strKind prog w) s₂.heap.objs.size [] := hnew.at fun o e => hsb₁.extBut _ _ hDC (Heap.get?_push_of_some _ e)
  have hst₁ : St 0 h₁ := W.frame _ _ _ hst fun b _ o e => old b o e
  have fresh : ∀ a, s₂.heap.objs.size ≤ a → s₂.heap.get? a = none := fun a ha => by
    cases e : s₂.heap.get? a with
    | none => rfl
    | some o' => exact absurd (Heap.lt_size e) (Nat.not_lt.mpr ha)
  have loop : ∀ s₃ : Shared, s₃ = { s₂ with heap := h₁, toks := s₂.toks + ([] : List (Str × Value)).length } →
      codeAny (model prog w) A (.compLoop (.DictComp (.Subscript (.Name f p1) (.Constant (.int 1) 0 p2) p3) (.Name k p4) [⟨.Tuple [.Name k p5, .Name f p6] x1 tp, iter, [], 0⟩] scope pos) 0 (.ref I) (.ref s₂.heap.objs.size) (compEnvC scope cl H2.objs.size env))
        (RR (.ref s₂.heap.objs.size) H2.objs.size) s₃ := by
    rintro s₃ rfl
    refine compLoop_pairD
      (fun k' s' => ∃ h' tk i m' kvs, s' = { s₂ with heap := h', toks := tk } ∧ i ≤ n ∧ k' = n + 1 - i ∧ St i h' ∧ h'.DictOf (strKind prog w) s₂.heap.objs.size kvs ∧ Kvs (names.take i) kvs ∧ h'.Ns H2.objs.size m' ∧ (∀ b o, b ∉ wr → s₂.heap.get? b = some o → h'.get? b = some o)) ?_ (n + 1)
      ⟨h₁, _, 0, _, [], rfl, Nat.zero_le _, rfl, hst₁, hacc, by simpa using Kvs.nil, hns₁, fun b o _ e => old b o e⟩
    rintro k' s' ⟨h', tk, i, m', kvs, rfl, hi, rfl, hst', hacc', hkv, hn', hkeep⟩
    by_cases hlt : i < n
    · refine W.item i _ _ _ hlt hst' fun T vals h₂ tk₂ hPv hT hM hk₂ => ?_
      obtain ⟨t, ti, tx, a, ty, nm, hnm, rfl, hti, htw⟩ := hP i vals hPv hlt
      refine W.go _ _ _ i T _ _ _ hM fun h₃ hst₃ hk₃ => ?_
      have hTw := W.apart i T _ hM
      have hT₃ : IsTup h₃ T #[.int (i : Int) t, .ref ti] := by obtain ⟨o, e, r⟩ := hT; exact ⟨o, hk₃ T o hTw e, r⟩
      refine assign_Tuple_tuple hh hT₃ rfl rfl fun h₅ he => ?_
      have he' : ∀ b o, h₃.get? b = some o → h₅.get? b = some o := fun b o e => he b o (Nat.ne_of_lt (Heap.lt_size e)) e
      have up : ∀ b o, b ∉ wr → h'.get? b = some o → h₅.get? b = some o := fun b o hb e => he' b o (hk₃ b o hb (hk₂ b o hb e))
      refine assignInOrder_cons (wpAny_assign_Name (wpAny_storeName_local (lookup_relabel_local hk) (hn'.at' fun o e => up _ o hCw e) (fun h₆ hn₆ hs₆ => ?_) (by simp [compEnvC, relabel, hkind])))
      refine assignInOrder_cons (wpAny_assign_Name (wpAny_storeName_local (lookup_relabel_local hf) hn₆ (fun h₇ hn₇ hs₇ => ?_) (by simp [compEnvC, relabel, hkind])))
      refine assignInOrder_nil ?_
      have up7 : ∀ b o, b ≠ H2.objs.size → h₅.get? b = some o → h₇.get? b = some o := fun b o hb e => hs₇.extBut b o hb (hs₆.extBut b o hb e)
      have hst₇ : St (i + 1) h₇ := W.frame _ _ _ hst₃ fun b hb o e => up7 b o (fun q => hCf (q ▸ hb)) (he' b o e)
      have tup₇ : IsTup h₇ ti #[.str a tx, .str nm ty] := by
        obtain ⟨o, e, r⟩ := hti
        exact ⟨o, up7 ti o (below ti (Heap.lt_size e)).1 (up ti o htw (hkeep ti o htw e)), r⟩
      have dict₇ : h₇.DictOf (strKind prog w) s₂.heap.objs.size kvs := hacc'.at fun o e => up7 _ o hDC (up _ o hDw e)
      refine Subscript_ (wpAny_Name (wpAny_loadName_local hkind (lookup_relabel_local hf) hn₇ (v := .ref ti) (by simp) ?_) hdf)
      refine wpAny_Constant_int ?_
      refine item_tupleT (l := [.str a tx, .str nm ty]) tup₇ (by decide) (by decide) (j := 1) rfl (x := .str nm ty) rfl ?_ (by with_unfolding_all rfl)
      refine wpAny_Name (wpAny_loadName_local hkind (lookup_relabel_local hk) hn₇ (v := .int (i : Int) t) (by simp [Ne.symm hfk]) ?_) hdk
      have hz9 : kvs.length ≤ sizeLine := by rw [hkv.1, List.length_take, sizeLine_eq]; omega
      refine wpAny_dictSet_pairs (hsz := hz9) (strKind_is prog w nm ty) dict₇ fun h₈ hd₈ hs₈ => ?_
      have hil : i < names.length := by omega
      have hnmi : nm = names[i] := by rw [List.getElem?_eq_getElem hil] at hnm; exact (Option.some.inj hnm).symm
      have htake : names.take (i + 1) = names.take i ++ [nm] := by rw [List.take_add_one, hnm]; rfl
      have hlen : (names.take i).length = i := by rw [List.length_take]; omega
      have hnot : nm ∉ names.take i := by
        intro hm
        obtain ⟨j, hj, e⟩ := List.getElem_of_mem hm
        rw [hlen] at hj
        rw [List.getElem_take] at e
        rw [hnmi] at e
        exact (List.pairwise_iff_getElem.mp hnd) j i (by omega) hil hj e
      refine ⟨n + 1 - (i + 1), by omega, h₈, _, i + 1, _, _, rfl, by omega, rfl, W.frame _ _ _ hst₇ fun b hb o e => hs₈.extBut b o (fun q => hDf (q ▸ hb)) e, hd₈, ?_, hn₇.sameBut hs₈ (Ne.symm hDC), fun b o hb e => ?_⟩
      · rw [htake]
        have := hkv.snoc (t := t) hnot
        rw [hlen] at this
        exact this
      · exact hs₈.extBut b o (below b (Heap.lt_size e)).2 (up7 b o (below b (Heap.lt_size e)).1 (up b o hb (hkeep b o hb e)))
    · obtain rfl : i = n := Nat.le_antisymm hi (Nat.not_lt.mp hlt)
      refine W.done _ _ _ hst' fun h₂ tk₂ hk₂ => ?_
      refine hRR _ _ h₂ tk₂ m' kvs (Nat.le_refl _) (fresh _ (Nat.le_refl _)) (fresh _ (by rw [hC]; exact Nat.le_succ _)) hDC (hn'.at' fun o e => hk₂ _ o hCw e) (hacc'.at fun o e => hk₂ _ o hDw e) ?_ fun b o hb e => hk₂ b o hb (hkeep b o hb e)
      rw [hn, List.take_length] at hkv
      exact hkv
  exact codeAny_compStart_dict (loop _ rfl) (W.self 0 _ _ _ hst₁ (loop _ rfl))
end
end Mine

end

/-! part CompK -/
section
open PySem PySem.W PySem.Calls PyProof.Rows
open Builtin
namespace Mine
section
variable {prog : Program} {w : World} {A : Around} {E : Value → Shared → Prop} {s : Shared} {h₀ : Heap} {L : Addr} {m : Str → Option Value} {news : List (Addr × Obj)} {env : Env}

/-- {f[1]: k for k, f in enumerate(a tuple of pairs of texts)}, from the call of enumerate on -/
theorem comp_call {f k : Str} {p1 p2 p3 p4 p5 p6 tp pos : Pos} {iter : Expr} {x1} {scope : Scope} {cl : List (Str × Addr)} {ft : Addr} {its : Array Value} {names : List Str} {Q : Value → Shared → Prop}
    (hh : A.handled = none) (F : Fr h₀ L s.heap m) (N : News h₀ L s.heap news) (hT : IsTup h₀ ft its) (hlen : its.size = names.length) (hsz : names.length ≤ 1000) (hnd : names.Nodup)
    (hits : ∀ (i : Nat) (nm : Str), names[i]? = some nm → ∃ (ti : Addr) (a : Str) (tx ty : Tok), its[i]? = some (Value.ref ti) ∧ IsTup h₀ ti #[.str a tx, .str nm ty])
    (hcell : ∀ y ∈ scope.names, y.2 ≠ .cell) (hkind : scope.kind = .function) (hf : scope.names.lookup f = some .local) (hk : scope.names.lookup k = some .local) (hfk : f ≠ k) (hdf : (f == ("__debug__" : Str)) = false) (hdk : (k == ("__debug__" : Str)) = false)
    (hQ : ∀ D kvs h' tk, ft < D → Fr h₀ L h' m → News h₀ L h' news → h'.DictOf (strKind prog w) D kvs → Kvs names kvs → Q (.ref D) { s with heap := h', toks := tk }) :
    wpAny (model prog w) A (call (.type "enumerate") [.ref ft]) (fun x s₁ => wpAny (model prog w) A (pyIter x) (fun it s₂ => wpAny (model prog w) A newDict (fun acc s₃ => wpAny (model prog w) A (newFunctionEnv scope env.globals cl [] env.qual none .none (some env)) (fun cenv s₄ =>
      codeAny (model prog w) A (.compStart (.DictComp (.Subscript (.Name f p1) (.Constant (.int 1) 0 p2) p3) (.Name k p4) [⟨.Tuple [.Name k p5, .Name f p6] x1 tp, iter, [], 0⟩] scope pos) 0 it acc { cenv with scope := relabel scope env }) (compPost (model prog w) A E none Q acc cenv.locals) s₄) E s₃) E s₂) E s₁) E s := by
  have hTs : s.heap.IsTuple ft its := by obtain ⟨o, e, r⟩ := hT; exact ⟨o, F.keep _ _ e, r⟩
  have hft : ft < s.heap.objs.size := by obtain ⟨_, e, _⟩ := hTs; exact Heap.lt_size e
  refine call_enum_tup hTs fun h' hE hI hsz' hkp => ?_
  refine wpAny_pyIter_enum hE ?_
  have hit : s.heap.objs.size ∉ [s.heap.objs.size + 1] := by simp
  have D := draws_tup (prog := prog) (w := w) (A := A.in1) hh s.heap.objs.size ft (Nat.ne_of_lt hft) its
  have W := (WalksT.enumerateD D (s.heap.objs.size + 1) (Nat.succ_ne_self _) (by
    intro hm
    rcases List.mem_cons.mp hm with e | hm
    · exact Nat.succ_ne_self _ e
    · exact absurd (List.mem_singleton.mp hm ▸ hft) (Nat.not_lt.mpr (Nat.le_succ _))) (by simp)).toU
  have newAt : ∀ b, s.heap.objs.size ≤ b → s.heap.get? b = none := fun b hb => by
    cases e : s.heap.get? b with
    | none => rfl
    | some o => exact absurd (Heap.lt_size e) (Nat.not_lt.mpr hb)
  have offw : ∀ b o, s.heap.get? b = some o → b ∉ [s.heap.objs.size + 1, s.heap.objs.size] := fun b o e hm => by
    have hlt := Heap.lt_size e
    rcases List.mem_cons.mp hm with q | hm
    · rw [q] at hlt; exact absurd hlt (Nat.not_lt.mpr (Nat.le_succ _))
    · rw [List.mem_singleton.mp hm] at hlt; exact Nat.lt_irrefl _ hlt
  refine block_pairD (RR := fun acc C => compPost (model prog w) A E none Q acc C) W hh hlen hsz hnd ?_ hcell hkind hf hk hfk hdf hdk ⟨⟨_, hE⟩, hI, ?_⟩ ?_ ?_
  · rintro i vals ⟨t, x, hx, rfl⟩ hi
    obtain ⟨nm, hnm⟩ : ∃ nm, names[i]? = some nm := ⟨names[i]'(by omega), List.getElem?_eq_getElem (by omega)⟩
    obtain ⟨ti, a, tx, ty, h1, o, h2, h3⟩ := hits i nm hnm
    rw [h1] at hx
    have hx' := Option.some.inj hx
    subst hx'
    exact ⟨t, ti, tx, a, ty, nm, hnm, rfl, ⟨o, hkp _ _ (F.keep _ _ h2), h3⟩, offw _ _ (F.keep _ _ h2)⟩
  · obtain ⟨o, e, r⟩ := hTs; exact ⟨o, hkp _ _ e, r⟩
  · intro b hb
    show b < h'.objs.size
    rw [hsz']
    rcases List.mem_cons.mp hb with rfl | hb
    · exact Nat.lt_succ_self _
    · rcases List.mem_cons.mp hb with rfl | hb
      · exact Nat.lt_succ_of_lt (Nat.lt_succ_self _)
      · rw [List.mem_singleton.mp hb]; exact Nat.lt_of_lt_of_le hft (Nat.le_add_right _ 2)
  · intro Dd C h₂ tk m' kvs hDs hD hC hDC hn hd hkv hkeep
    have keep : ∀ b o, s.heap.get? b = some o → h₂.get? b = some o := fun b o e => hkeep b o (offw b o e) (hkp b o e)
    refine ⟨m', hn, fun h'' hs'' => ?_⟩
    have hCs : s.heap.get? C = none := by
      cases e : s.heap.get? C with
      | none => rfl
      | some o => have := hkp C o e; rw [show h'.get? C = none from hC] at this; cases this
    have hDft : ft < Dd := by
      have z : h'.objs.size ≤ Dd := hDs
      rw [hsz'] at z
      exact Nat.lt_of_lt_of_le (Nat.lt_of_lt_of_le hft (Nat.le_add_right _ 2)) z
    have keep'' : ∀ b o, s.heap.get? b = some o → h''.get? b = some o := fun b o e => hs''.extBut b o (by rintro rfl; rw [hCs] at e; cases e) (keep b o e)
    exact hQ Dd kvs h'' tk hDft (F.keeps keep'') (N.grown keep'') (hd.extBut hs''.extBut hDC) hkv

theorem dictcomp_k {kx vx : Expr} {g : Comprehension} {scope : Scope} {cl : List (Str × Addr)} {pos : Pos} {Q : Value → Shared → Prop}
    (hclos : closureFor scope env = pure cl) (hkind : scope.kind = .function) (hnames : ∀ y ∈ scope.names, y.2 = .local → scope.names.lookup y.1 = some .local) (hs : ∀ x, foldedSetIterable g.iter env x = pure x) (ha : g.is_async = 0)
    (h : wpAny (model prog w) A (eval g.iter env) (fun x s₁ => wpAny (model prog w) A (pyIter x) (fun it s₂ => wpAny (model prog w) A newDict (fun acc s₃ => wpAny (model prog w) A (newFunctionEnv scope env.globals cl [] env.qual none .none (some env)) (fun cenv s₄ =>
      codeAny (model prog w) A (.compStart (.DictComp kx vx [g] scope pos) 0 it acc { cenv with scope := relabel scope env }) (compPost (model prog w) A E none Q acc cenv.locals) s₄) E s₃) E s₂) E s₁) E s) :
    wpAny (model prog w) A (eval (.DictComp kx vx [g] scope pos) env) Q E s := by
  rw [arm_eval_DictComp]
  obtain ⟨tg, it, ifs, as⟩ := g
  dsimp only at ha
  subst ha
  exact wpAny_comprehension_free (use := none) rfl hs hclos hkind hnames h

theorem Kvs.valueAt {names : List Str} {kvs : List (Str × Value)} (h : Kvs names kvs) (hnd : names.Nodup) {j : Nat} {nm : Str} (hj : names[j]? = some nm) : ∃ t, valueAt kvs nm = some (.int (j : Int) t) := by
  obtain ⟨t, ht⟩ := h.2 j nm hj
  refine ⟨t, valueAt_of_get ?_ ht⟩
  have e : kvs.map (·.1) = names := by
    apply List.ext_getElem?
    intro i
    rw [List.getElem?_map]
    cases hi : names[i]? with
    | none =>
      have : kvs[i]? = none := List.getElem?_eq_none (by have := List.getElem?_eq_none_iff.mp hi; rw [h.1]; exact this)
      rw [this]; rfl
    | some x =>
      obtain ⟨t', ht'⟩ := h.2 i x hi
      rw [ht']; rfl
  rw [e]; exact hnd

theorem item_kvs {value slice : Expr} {D : Addr} {kvs : List (Str × Value)} {x : Str} {t : Tok} {v : Value} {Q : Value → Shared → Prop} (hd : s.heap.DictOf (strKind prog w) D kvs) (hv : valueAt kvs x = some v) (h : Q v { s with toks := s.toks + 1 })
    (hs : subscripted slice false (.ref D) (.str x t) = operate [.ref D, .str x t] (getItem (.ref D) (.str x t)) := by with_unfolding_all rfl) :
    wpAny (model prog w) A (subscriptTail value slice (.ref D) (.str x t)) Q E s :=
  tail_any hd.typeIs slot_dict_getitem.lookup (wpAny_getItem_of (strKind_is prog w x t) hd.mapOf hv h) hs
theorem item_miss {value slice : Expr} {D ft : Addr} {kvs : List (Str × Value)} {x : Str} {t : Tok} {Q : Value → Shared → Prop} (hd : s.heap.DictOf (strKind prog w) D kvs) (hk : Kvs [] kvs) (hf : ft < D) (h1 : 0 < ft) (hh : A.handled = none)
    (h : ∀ h' e, Heap.NewExc s.heap h' e "KeyError" → E (.ref e) { s with heap := h', toks := s.toks + 1 })
    (hs : subscripted slice false (.ref D) (.str x t) = operate [.ref D, .str x t] (getItem (.ref D) (.str x t)) := by with_unfolding_all rfl) :
    wpAny (model prog w) A (subscriptTail value slice (.ref D) (.str x t)) Q E s := by
  have e : kvs = [] := List.eq_nil_of_length_eq_zero hk.1
  subst e
  have hD : (D == sysModules) = false := by rw [beq_eq_false_iff_ne]; show D ≠ 1; intro e; subst e; exact absurd hf (Nat.not_lt.mpr h1)
  exact tail_any hd.typeIs slot_dict_getitem.lookup (wpAny_getItem_missing_of (strKind_is prog w x t) hD hh hd.mapOf rfl h) hs
end

theorem setItem_oob {prog : Program} {w : World} {A : Around} {E : Value → Shared → Prop} {s : Shared} {l : Addr} {items : Array Value} {k : Int} {t : Tok} {v : Value} {Q : Unit → Shared → Prop} (hA : A.handled = none) (hl : s.heap.IsList l items)
    (h0 : 0 ≤ k) (hfit : k < 2 ^ 63) (hn : (items.size : Int) ≤ k) (hE : ∀ h' tk e, Heap.NewExc s.heap h' e "IndexError" → E (.ref e) { s with heap := h', toks := tk }) :
    wpAny (model prog w) A (setItem (.ref l) (.int k t) v) Q E s := by
  obtain ⟨o, ho, hc, ne, hd⟩ := id hl
  unfold setItem
  try with_reducible refine wpAny_holding ?_
  first | refine wpAny_bind (wpAny_pure ?_) | skip
  refine wpAny_bind (wpAny_sequenceKey hl.typeIs (by decide) ?_)
  refine wpAny_bind (wpAny_callSpecial?_slot (name := Str.ofString "__setitem__") hl.typeIs slot_list_setitem
    (wpAny_call_entry slot_list_setitem hl.typeIs entry_list_setitem ?_ (args_list_setitem _ _ _)))
  show wpAny _ _ (Builtin.List.listSubscript? (.int k t) >>= _) _ _ s
  refine wpAny_bind (wpAny_listSubscript_int (fitsIndex_of h0 hfit) ?_)
  clear hfit
  obtain ⟨j, rfl⟩ := Int.eq_ofNat_of_zero_le h0
  have hx' : items[j]? = none := Array.getElem?_eq_none (by omega)
  show wpAny _ _ ((seqItemAt l j >>= fun r => pure (r.map (j, ·))) >>= _) _ _ s
  refine wpAny_bind (wpAny_bind (wpAny_seqItemAt ho hd (wpAny_pure ?_)))
  rw [hx']
  first
    | exact wpAny_bind (wpAny_rule (by exact_raiseError plainExc_IndexError hA hE))
    | exact wpAny_bind (wpAny_rule (wpAny_bind (by exact_raiseError plainExc_IndexError hA hE)))
    | exact wpAny_bind (wpAny_bind (wpAny_rule (by exact_raiseError plainExc_IndexError hA hE)))
    | exact wpAny_rule (by exact_raiseError plainExc_IndexError hA hE)

def namesL : List Str := [S "num_in_seq", S "sen_num", S "start_type", S "active_route_id"]
theorem namesL_nodup : namesL.Nodup := by decide +kernel
def ftupL : Array Value := #[.ref 245, .ref 246, .ref 247, .ref 248]
theorem fields_rte {w : World} {h : Heap} (KX : (hd.heap_39 w.params).In h) : IsTup h 249 ftupL ∧ ∀ (i : Nat) (nm : Str), namesL[i]? = some nm → ∃ (ti : Addr) (a : Str) (tx ty : Tok), ftupL[i]? = some (Value.ref ti) ∧ IsTup h ti #[.str a tx, .str nm ty] := by
  have key : PySem.Challenge.rw_dg5010_01 = PySem.Challenge.rw_dg5010_01 → (hd.heap_39 w.params).In h → IsTup h 249 ftupL ∧ (∃ (a : Str) (tx ty : Tok), IsTup h 245 #[.str a tx, .str (S "num_in_seq") ty]) ∧ (∃ (a : Str) (tx ty : Tok), IsTup h 246 #[.str a tx, .str (S "sen_num") ty]) ∧ (∃ (a : Str) (tx ty : Tok), IsTup h 247 #[.str a tx, .str (S "start_type") ty]) ∧ (∃ (a : Str) (tx ty : Tok), IsTup h 248 #[.str a tx, .str (S "active_route_id") ty]) := by
    clear KX
    k_fill
    intro _ KX
    exact ⟨tupK (n := 0) (dd := none) (sl := #[]) KX (by k_is), ⟨_, _, _, tupK (n := 0) (dd := none) (sl := #[]) KX (by k_is)⟩, ⟨_, _, _, tupK (n := 0) (dd := none) (sl := #[]) KX (by k_is)⟩, ⟨_, _, _, tupK (n := 0) (dd := none) (sl := #[]) KX (by k_is)⟩, ⟨_, _, _, tupK (n := 0) (dd := none) (sl := #[]) KX (by k_is)⟩⟩
  obtain ⟨k0, ⟨a1, x1, y1, k1⟩, ⟨a2, x2, y2, k2⟩, ⟨a3, x3, y3, k3⟩, ⟨a4, x4, y4, k4⟩⟩ := key rfl KX
  refine ⟨k0, fun i nm hi => ?_⟩
  match i, hi with
  | 0, hi => cases hi; exact ⟨245, a1, x1, y1, rfl, k1⟩
  | 1, hi => cases hi; exact ⟨246, a2, x2, y2, rfl, k2⟩
  | 2, hi => cases hi; exact ⟨247, a3, x3, y3, rfl, k3⟩
  | 3, hi => cases hi; exact ⟨248, a4, x4, y4, rfl, k4⟩
  | i + 4, hi => simp [namesL] at hi
theorem fields_base {w : World} {h : Heap} (KX : (hd.heap_39 w.params).In h) : IsTup h 99 #[] ∧ ∀ (i : Nat) (nm : Str), ([] : List Str)[i]? = some nm → ∃ (ti : Addr) (a : Str) (tx ty : Tok), (#[] : Array Value)[i]? = some (Value.ref ti) ∧ IsTup h ti #[.str a tx, .str nm ty] := by
  have key : PySem.Challenge.rw_dg5010_01 = PySem.Challenge.rw_dg5010_01 → (hd.heap_39 w.params).In h → IsTup h 99 #[] := by
    clear KX
    k_fill
    intro _ KX
    exact tupK (l := []) (n := 0) (dd := none) (sl := #[]) KX (by k_is)
  exact ⟨key rfl KX, fun i nm hi => by simp at hi⟩
end Mine

end

/-! part Wl -/
section
open PySem PySem.W PySem.Calls PyProof.Rows
local macro_rules | `(tactic| walk_at "getAttr ref") => `(tactic| (k_here; k_dflt (first
  | (refine' Mine.own_h ?k1 ?k2 ?k3 ?k4 ?k5 ?k6 ?k7 ?k8 ?k9 ?_; (case k1 => k_asm); (case k2 => k_asm); (case k3 => k_inst); (case k4 => k_is); (case k5 => k_is); (case k6 => k_is); (case k7 => k_is); (case k8 => first | assumption | k_get); (case k9 => k_handed); k_whole)
  | (refine' Mine.prop_h ?k1 ?k2 ?k3 ?k4 ?k10 ?k5 ?k6 ?k7 ?k8 ?k9 ?_; (case k1 => k_asm); (case k2 => k_asm); (case k3 => k_inst); (case k4 => k_is); (case k10 => k_is); (case k5 => k_is); (case k6 => k_is); (case k7 => k_is); (case k8 => k_is); (case k9 => k_is); k_whole; k_enter)
  | (refine' Mine.bound_h ?k1 ?k2 ?k3 ?k4 ?k5 ?k10 ?k6 ?k7 ?k8 ?k9 ?k11 ?k12 ?k13 ?_; (case k4 => k_inst); (case k1 => k_asm); (case k2 => k_asm); (case k7 => k_is); (case k3 => k_asm); (case k5 => k_is); (case k10 => k_is); (case k6 => k_is); (case k8 => k_is); (case k9 => k_is); (case k11 => k_is); (case k12 => decide +kernel); (case k13 => first | assumption | k_get); k_whole; intro q' h' F' N' l1; (try k_lt l1); (try k_sweep)))))
local macro_rules | `(tactic| walk_at "getMethod ref") => `(tactic| (k_here; k_dflt (refine' Mine.method_h ?k1 ?k2 ?k3 ?k4 ?k5 ?_; (case k1 => k_asm); (case k2 => k_asm); (case k3 => k_inst); (case k4 => k_is); (case k5 => k_is); k_whole)))
local macro_rules | `(tactic| size_fits) => `(tactic| first | ((try simp only [List.size_toArray, Array.size_push, List.push_toArray, List.length_append, List.length_cons, List.length_nil]); (simp only [PySem.sizeLine_eq]); omega) | fail "size_fits: mine")
local macro_rules | `(tactic| walk_at "my_keeps") => `(tactic| (intro z hz; (obtain ⟨i1, i2, i3, i4, i5, i6⟩ := Mine.idle_ne hz); first | rfl | ((refine Eq.trans ?_ (congrFun (by assumption : (_ : Str → Option Value) = _) z)); (try simp only [i1, i2, i3, i4, i5, i6, if_false]); done)))
local macro_rules | `(tactic| walk_at "my_expose") => `(tactic| ((have e1 := (rfl : Mine.lawScope = Mine.lawScope)); (conv at e1 => rhs; whnf); (dsimp only at e1); (conv in (Mine.turnAt _) => whnf); (rw [e1]); clear e1))
local macro_rules | `(tactic| walk_at "my_lt") => `(tactic| first | assumption | exact Mine.allLt_to (by assumption) | (refine List.forall_mem_cons.mpr ⟨by (dsimp only; omega), ?_⟩; walk_at "my_lt"))
local macro_rules | `(tactic| walk_at "my_keepsP") => `(tactic| (intro z hz hp9; (obtain ⟨i1, i2, i3, i4, i5, i6⟩ := Mine.idle_ne hz); first | rfl | ((refine Eq.trans ?_ (congrFun (by assumption : (_ : Str → Option Value) = _) z)); (try simp only [i1, i2, i3, i4, i5, i6, hp9, if_false]); done)))
local macro_rules | `(tactic| walk_at "getAttr ref") => `(tactic| (k_here; (with_reducible show wpAny _ _ (getAttr (Value.ref _) (PySem.Str.ofString "data") _) _ _ _); k_dflt (refine' Mine.data_get ?k1 ?k2 ?k3 ?k4 ?k5 ?k6 ?k7 ?_; (case k1 => k_asm); (case k2 => k_asm); (case k3 => k_asm); (case k4 => k_mem); (case k5 => k_mem); (case k6 => k_asm); (case k7 => first | assumption | (unfold Mine.IsCls; decide)); k_whole)))
local macro_rules | `(tactic| walk_at "my_len") => `(tactic| first | omega | ((try simp only [List.length_append, List.length_cons, List.length_nil, List.length_set, List.length_dropLast, List.length_drop]); omega))
local macro_rules | `(tactic| walk_at "call builtin:len") => `(tactic| (k_here; (with_reducible show wpAny _ _ (call (Value.builtin "len") [Value.ref _]) _ _ _); k_dflt (refine' Mine.len_n ?a ?b ?c ?_; (case a => k_asm); (case b => k_mem); (case c => walk_at "my_len"); k_whole)))
local macro_rules | `(tactic| walk_at "call builtin:list.append") => `(tactic| (k_here; (with_reducible show wpAny _ _ (call (Value.builtin _) [Value.ref _, _]) _ _ _); k_dflt (refine' Mine.append_n ?a ?b ?c ?d ?_; (case a => k_asm); (case b => k_asm); (case c => k_upd); (case d => walk_at "my_len"); k_whole); intro h' F' N'; (try k_sweep)))
local macro_rules | `(tactic| walk_at "call builtin:list.pop") => `(tactic| (k_here; (with_reducible show wpAny _ _ (call (Value.builtin _) [Value.ref _]) _ _ _); k_dflt (refine' Mine.pop_n ?a ?b ?c ?d ?e ?_; (case a => k_asm); (case b => k_asm); (case c => k_upd); (case d => walk_at "my_len"); (case e => walk_at "my_len"); k_whole); intro h' y' F' N'; (try k_sweep)))
local macro_rules | `(tactic| walk_at "setItem ref int") => `(tactic| (k_here; (with_reducible show wpAny _ _ (setItem (Value.ref _) (Value.int _ _) _) _ _ _); k_dflt (refine' Mine.set_n ?a ?b ?c ?d ?e ?f ?_; (case a => k_asm); (case b => k_asm); (case c => k_upd); (case d => first | omega | exact Int.fmod_nonneg_of_pos _ (by omega)); (case e => first | (refine Int.lt_of_lt_of_le (Int.fmod_lt_of_pos _ (by omega)) ?_; walk_at "my_len") | walk_at "my_len"); (case f => walk_at "my_len"); k_whole); intro h' F' N'; (try k_sweep)))
local macro_rules | `(tactic| walk_at "subscriptTail Name Slice ref ref") => `(tactic| (k_here; (with_reducible show wpAny _ _ (subscriptTail _ (PySem.Expr.Slice _ _ none _) (Value.ref _) (Value.ref _)) _ _ _); k_dflt (refine' kms_slice_lit ?F ?N ?l ?p ?q ?e ?_ ?s ?t ?z; (case F => k_asm); (case N => k_asm); (case l => exact PyProof.Rows.News.isList (by k_asm) (by k_mem)); (case p => kmk_part); (case q => kmk_part); (case e => first | exact Mine.pick_from _ | exact Mine.pick_all _); (case s => with_unfolding_all rfl); (case t => kmk_pure); (case z => ((simp only [List.size_toArray, PySem.sizeLine_eq]); omega))); intro D' h' F' N' l1; (try k_lt l1); (try dsimp only at F' N'); (try dsimp only); (try k_sweep)))
local macro_rules | `(tactic| walk_at "subscriptTail") => `(tactic| (k_here; (with_reducible show wpAny _ _ (subscriptTail _ _ (Value.ref _) (Value.int _ _)) _ _ _); k_dflt (refine' Mine.item_n ?a ?b ?c ?d ?e ?_; (case a => k_asm); (case b => k_mem); (case e => first | assumption | with_unfolding_all assumption); (case c => first | omega | exact Int.fmod_nonneg_of_pos _ (by omega)); (case d => first | omega | (refine Int.lt_trans (Int.fmod_lt_of_pos _ (by omega)) ?_; omega)); k_whole)))
local macro_rules | `(tactic| walk_at "subscriptTail Name Name ref int") => `(tactic| (k_here; (with_reducible show wpAny _ _ (subscriptTail _ _ (Value.ref _) (Value.int _ _)) _ _ _); k_dflt (refine' Mine.item_n ?a ?b ?c ?d ?e ?_; (case a => k_asm); (case b => k_mem); (case e => first | assumption | with_unfolding_all assumption); (case c => first | omega | exact Int.fmod_nonneg_of_pos _ (by omega)); (case d => first | omega | (refine Int.lt_trans (Int.fmod_lt_of_pos _ (by omega)) ?_; omega)); k_whole)))
namespace Mine

theorem wl_get {w : World} {mean : ExcName → Option Value} {mg mb : Str → Option Value} {h₀ : Heap} (KX : (hd.heap_39 w.params).In h₀) (T : Top hd.view_39 loosesW mean mg mb h₀)
  {dp un : Nat} {gd : Option (List Code)} {cn : Str} {cs : Scope} {fa : Addr} {ccd : Value} {cl : List (Str × Addr)} {outer : List Env} {A₀ : Around} {base : Heap} {L : Addr} {m : Str → Option Value} {news : List (Addr × Obj)} {s : Shared}
  {Q E : Value → Shared → Prop} {C t d a n na : Nat} {es : List DictEntry} {vs ws : List Value} {expr : Bool}
  (B : Below A₀ base outer h₀) (F : Fr h₀ L s.heap m) (N : News h₀ L s.heap news) (hk : cs.kind = .function) (hdp : dp + 3 < recursionLimit)
  (ht : (t, instObj C d) ∈ news) (hdd : (d, dictOf es n) ∈ news) (ha : (a, listOf vs.toArray na) ∈ news) (D : DictIs es a) (hv : vs.length ≤ 1000000) (hw : C = 260 ∧ ws = vs.drop 4 ∨ C = 281 ∧ ws = vs)
  (ret : ∀ D h' tk', Fr h₀ L h' m → News h₀ L h' ((D, listOf ws.toArray 0) :: news) → (∀ p ∈ news, p.1 < D) → Q (.ref D) { s with heap := h', toks := tk' }) :
  wpAny (model PySem.Challenge.rw_dg5010_01.row.prog w) (ktrTop dp un gd cn cs L fa ccd cl outer) (getAttr (.ref t) (Str.ofString "waypoint_list") expr) Q E s := by
  revert KX
  k_fill
  intro KX
  have hI := InstAt.of_news N ht hdd
  have D1 := D.data
  rcases hw with ⟨rfl, rfl⟩ | ⟨rfl, rfl⟩
  · k_dflt (refine' Mine.prop_h F KX hI ?k4 ?k10 ?k5 ?k6 ?k7 ?k8 ?k9 ?_; (case k4 => k_is); (case k10 => k_is); (case k5 => k_is); (case k6 => k_is); (case k7 => k_is); (case k8 => k_is); (case k9 => k_is); k_whole; ktr_enter)
    k_steps
    rename Fr _ _ _ _ => F9
    rename News _ _ _ _ => N9
    exact ret _ _ _ F9 N9 (by walk_at "my_lt")
  · k_dflt (refine' Mine.prop_h F KX hI ?k4 ?k10 ?k5 ?k6 ?k7 ?k8 ?k9 ?_; (case k4 => k_is); (case k10 => k_is); (case k5 => k_is); (case k6 => k_is); (case k7 => k_is); (case k8 => k_is); (case k9 => k_is); k_whole; ktr_enter)
    k_steps
    rename Fr _ _ _ _ => F9
    rename News _ _ _ _ => N9
    exact ret _ _ _ F9 N9 (by walk_at "my_lt")
end Mine

end

/-! part ObsD -/
section
open PySem PySem.W PySem.Calls PyProof.Rows
namespace Mine
noncomputable def obsBody : List Stmt := bodyOf (pick (bodyOf (turnAt 13)) 0)
section
variable {prog : Program} {w : World} {A : Around} {E : Value → Shared → Prop} {s : Shared} {h₀ : Heap} {L D : Addr} {m : Str → Option Value} {news news' : List (Addr × Obj)} {vs : List Value} {n : Nat} {t : Tok}
theorem join_n {Q : Value → Shared → Prop} {x : Str} {ys : List Str} (N : News h₀ L s.heap news) (hm : (D, listOf vs.toArray n) ∈ news) (hi : StrsAre vs ys) (hsep : x.length ≤ 64) (hok : (ys.map (·.length)).sum + ys.length * 64 ≤ 16777216)
    (h : ∀ t' k, Q (.str (Txt.join x ys) t') { s with toks := k }) : wpAny (model prog w) A (call (.builtin "str.join") [.str x t, .ref D]) Q E s :=
  join_listC (News.isList N hm) (by simpa using hi) hsep hok h
theorem add_n {Q : Value → Shared → Prop} {x y : Str} {u : Tok} (hx : x.length ≤ 64) (hy : y.length ≤ 30000) (h : ∀ t' k, Q (.str (x ++ y) t') { s with toks := k }) : wpAny (model prog w) A (binaryOp .Add (.str x t) (.str y u)) Q E s :=
  PyProof.Rows.add_str h (by rw [sizeLine_eq]; omega)
theorem join_len {ys : List Str} (h1 : (ys.map (·.length)).sum ≤ 20000) (h2 : ys.length ≤ 1000) : (Txt.join (Str.ofString ",") ys).length ≤ 30000 := by
  have h := StrLaws.join_length_le (Str.ofString ",") ys
  have e : (Str.ofString ",").length = 1 := by decide +kernel
  rw [e] at h
  show (Builtin.Str.glued (Str.ofString ",") ys).length ≤ _
  rw [StrLaws.glued_eq_join]
  omega
end
def headsL : List Str := [S "GPRTE,", S "GPR00,", S "PABC", S "GPECQ,RMC", S "IIECQ,GGA"]
theorem head_get {w : World} {A : Around} {E Q : Value → Shared → Prop} {s : Shared} {h₀ : Heap} {L : Addr} {m : Str → Option Value} {k : Int} {t : Tok} {value slice : PySem.Expr} (KX : (hd.heap_39 w.params).In h₀) (F : Fr h₀ L s.heap m) (h0 : 0 ≤ k) (h1 : k < 5)
    (h : ∀ t', Q (.str (headsL.getD k.toNat (S "")) t') s) (hs : subscripted slice false (.ref 284) (.int k t) = operate [.ref 284, .int k t] (getItem (.ref 284) (.int k t)) := by with_unfolding_all rfl) :
    wpAny (model PySem.Challenge.rw_dg5010_01.row.prog w) A (subscriptTail value slice (.ref 284) (.int k t)) Q E s := by
  revert KX
  k_fill
  intro KX
  refine' KTb.item_tup (ws := headsL) ?a ?b h0 ?c (by omega) (fun t' hk => ?d) hs
  case a => exact Fr.tup F (tupK (n := 0) (dd := none) (sl := #[]) KX (by k_is))
  case b => unfold headsL S; repeat constructor
  case c => exact h1
  case d =>
    have z := h t'
    rw [List.getD_eq_getElem?_getD, List.getElem?_eq_getElem hk, Option.getD_some] at z
    rw [List.getD_eq_getElem?_getD, List.getElem?_eq_getElem hk, Option.getD_some]
    exact z
theorem dats {news : List (Addr × Obj)} {vs : List Value} {ys : List Str} (h : StrsAre vs ys) : DatAll news vs (ys.map Dat.str) := by
  induction h with
  | nil => exact .nil
  | cons y t _ ih => exact .cons (.str y t) ih
theorem drop4 {vs : List Value} {ys : List Str} (h : StrsAre vs ys) : ∀ n : Nat, StrsAre (vs.drop n) (ys.drop n) := by
  induction h with
  | nil => intro n; simp only [List.drop_nil]; exact .nil
  | cons y t h ih => intro n; cases n with
    | zero => exact .cons y t h
    | succ n => exact ih n
def toldDat (ys : List Str) : Nat → Dat
  | 0 => .list ((ys.drop 4).map Dat.str)
  | 1 => .list (ys.map Dat.str)
  | _ => .str (S "none")
def headS (k : Nat) : Str := headsL.getD k (S "")
def plainS (k : Nat) (ys : List Str) : Str := headS k ++ Txt.join (Str.ofString ",") ys
def rowDat (k : Nat) (ys : List Str) : Dat := .list [.list (ys.map Dat.str), toldDat ys k, .str (plainS k ys)]
theorem datStr {news : List (Addr × Obj)} {x y : Str} {t : Tok} (h : x = y) : DatIn news (.str x t) (.str y) := h ▸ .str x t
theorem unr_end {h₀ h' : Heap} {L x d l I : Addr} {o1 o2 o3 it : Obj} {rest : (Str → Option Value) → List (Addr × Obj) → Prop} {s₁ : Shared} {tk : Nat} {m' : Str → Option Value} {all news : List (Addr × Obj)} (F : Fr h₀ L h' m') (N : News h₀ L h' all)
    (m1 : (x, o1) ∈ all) (m2 : (d, o2) ∈ all) (m3 : (l, o3) ∈ all) (mn : ∀ p ∈ news, p ∈ all) (hI : (I, it) ∈ all) (hn : x < I ∧ d < I ∧ l < I ∧ AllLt I news) (r : rest m' ((x, o1) :: (d, o2) :: (l, o3) :: news)) : UnrEnd h₀ L s₁ I it rest { s₁ with heap := h', toks := tk } := by
  refine UnrEnd.intro F N ((x, o1) :: (d, o2) :: (l, o3) :: news) ?_ ?_ r
  · exact List.forall_mem_cons.mpr ⟨hI, List.forall_mem_cons.mpr ⟨m1, List.forall_mem_cons.mpr ⟨m2, List.forall_mem_cons.mpr ⟨m3, mn⟩⟩⟩⟩
  · exact List.forall_mem_cons.mpr ⟨Nat.ne_of_lt hn.1, List.forall_mem_cons.mpr ⟨Nat.ne_of_lt hn.2.1, List.forall_mem_cons.mpr ⟨Nat.ne_of_lt hn.2.2.1, fun p hp => Nat.ne_of_lt (allLt_to hn.2.2.2 p hp)⟩⟩⟩
end Mine

end

/-! part Turn -/
section
open PySem PySem.W PySem.Calls PyProof.Rows
namespace Mine
/-- a turn's end: the ground may have turned -/
structure TurnEnd (Ctx : Heap → Prop) (L : Addr) (s : Shared) (I : Addr) (it : Obj) (rest : (Str → Option Value) → List (Addr × Obj) → Prop) (f : Flow) (s₂ : Shared) : Prop where
  next : f = .next
  there : ∃ g' h' tk' m' news', s₂ = { s with heap := h', toks := tk' } ∧ Ctx g' ∧ Fr g' L h' m' ∧ News g' L h' ((I, it) :: news') ∧ (∀ p ∈ news', p.1 ≠ I) ∧ rest m' news'

def RestT (prog : Program) (w : World) (A : Around) (E : Value → Shared → Prop) (env : Env) (x : Str) (body : List Stmt) (Q : Flow → Shared → Prop) (Ctx : Heap → Prop) (s : Shared) (I : Addr) (n : Nat) : Nat → Nat → (Str → Option Value) → List (Addr × Obj) → Prop
  | 0, _, m, news => ∀ g h tk, Ctx g → Fr g env.locals h m → News g env.locals h news → Q .next { s with heap := h, toks := tk }
  | k + 1, i, m, news => ∀ g t h tk, Ctx g → Fr g env.locals h (fun y => if y = x then some (.int ((0 : Int) + (i : Int)) t) else m y) → News g env.locals h ((I, itR ((0 : Int) + ((i + 1 : Nat) : Int)) ((n : Int) - ((i + 1 : Nat) : Int))) :: news) →
      wpAny (model prog w) A (execs body env) (TurnEnd Ctx env.locals s I (itR ((0 : Int) + ((i + 1 : Nat) : Int)) ((n : Int) - ((i + 1 : Nat) : Int))) (RestT prog w A E env x body Q Ctx s I n k (i + 1))) E { s with heap := h, toks := tk }

section
variable {prog : Program} {w : World} {A : Around} {s : Shared} {env : Env}

theorem loop_T {R : Result → Shared → Prop} {E : Value → Shared → Prop} {x : Str} {px : Pos} {body : List Stmt} {I : Addr} {n : Nat} {m : Str → Option Value} {news : List (Addr × Obj)} {Ctx : Heap → Prop} {g : Heap}
    (hh : A.handled = none) (hx : env.kindOf x = some .local) (hp : (env.scope.kind == .class || (env.scope.kind == .module && env.locals != env.globals)) = false)
    (hI : env.locals ≠ I) (hnone : ∀ g, Ctx g → g.get? I = none) (hst : s.heap.get? I = some (itR 0 n)) (hc : Ctx g) (F : Fr g env.locals s.heap m) (N : News g env.locals s.heap news) (off : ∀ p ∈ news, p.1 ≠ I)
    (hE : ∀ (s₁ : Shared) (Q' : Flow → Shared → Prop), wpAny (model prog w) A (execs body env) Q' E s₁ → wpAny (model prog w) A (execs body env) Q' (notedBy (model prog w) A env fun e s' => R (.error e) s') s₁)
    (h : RestT prog w A E env x body (fun f s' => R (.ok f) s') Ctx s I n n 0 m news) :
    codeAny (model prog w) A (.forLoop (.Name x px) (.ref I) body [] env) R s := by
  have W : Walks prog w A I [I] [I] n (fun i v => i < n ∧ ∃ t, v = .int ((0 : Int) + i * 1) t)
      (fun i h => IsRangeIter h I ((0 : Int) + (i : Nat) * 1) ((n : Int) - (i : Nat)) 1) := (Walks.range hh _ 0 1 n).bound
  refine codeAny_forLoop
    (fun k s' => ∃ g h' tk m' news' i, s' = { s with heap := h', toks := tk } ∧ IsRangeIter h' I ((0 : Int) + (i : Nat) * 1) ((n : Int) - (i : Nat)) 1 ∧ Ctx g ∧ Fr g env.locals h' m' ∧ News g env.locals h' news' ∧ (∀ p ∈ news', p.1 ≠ I) ∧ RestT prog w A E env x body (fun f s' => R (.ok f) s') Ctx s I n (n - i) i m' news' ∧ i ≤ n ∧ k = n + 1 - i) ?_ (n + 1)
    ⟨g, s.heap, s.toks, m, news, 0, rfl, (by show s.heap.get? I = _; rw [hst]; unfold itR; simp), hc, F, N, off, h, Nat.zero_le _, rfl⟩
  rintro k s' ⟨g, h', tk, m', news', i, rfl, hst', hc', F', N', off', hJ, hi, rfl⟩
  have next : ∀ h₁ : Heap, (∀ b o, b ∉ [I] → h'.get? b = some o → h₁.get? b = some o) → Fr g env.locals h₁ m' ∧ News g env.locals h₁ news' := fun h₁ hk₁ =>
    ⟨⟨F'.ns.at' fun o e => hk₁ _ o (by simpa using hI) e, fun b o e => hk₁ b o (by intro q; rw [List.mem_singleton.mp q, hnone g hc'] at e; cases e) (F'.keep b o e), F'.above⟩, fun p hp => ⟨hk₁ _ _ (by simpa using off' p hp) (N' p hp).1, (N' p hp).2⟩⟩
  by_cases hlt : i < n
  · refine W.item i _ _ _ hlt hst' fun v h₁ tk₁ hP hst₁ hk₁ => ?_
    obtain ⟨_, t, rfl⟩ := hP
    obtain ⟨F₁, N₁⟩ := next h₁ hk₁
    refine wpAny_assign_Name (wpAny_storeName_local hx F₁.ns (fun h₂ hn₂ hs₂ => ?_) hp)
    have F₂ := F₁.set hn₂ hs₂
    have hst₂ : h₂.get? I = some (itR ((0 : Int) + ((i + 1 : Nat) : Int)) ((n : Int) - ((i + 1 : Nat) : Int))) := by
      have q : h₁.get? I = some (itR ((0 : Int) + ((i + 1 : Nat) : Int) * 1) ((n : Int) - ((i + 1 : Nat) : Int))) := hst₁
      rw [Int.mul_one] at q
      exact (hs₂.2 I fun q => hI q.symm).trans q
    have hkk : n - i = (n - (i + 1)) + 1 := by omega
    rw [hkk] at hJ
    have e1 : (0 : Int) + (i : Int) * 1 = 0 + (i : Int) := by rw [Int.mul_one]
    rw [e1] at F₂
    have N₂ : News g env.locals h₂ ((I, itR ((0 : Int) + ((i + 1 : Nat) : Int)) ((n : Int) - ((i + 1 : Nat) : Int))) :: news') := fun p hp => by
      rcases List.mem_cons.mp hp with rfl | hp
      · exact ⟨hst₂, fun q => hI q.symm, hnone g hc'⟩
      · exact (N₁.set hs₂) p hp
    refine wpAny_mono (hE _ _ (hJ g t h₂ _ hc' F₂ N₂)) (fun f s₃ h₃ => ?_) fun _ _ e => e
    obtain ⟨rfl, g₃, h₃', tk₃, m₂, news₂, rfl, hc₃, F₃, N₃, off₃, hJ₃⟩ := h₃
    refine ⟨n + 1 - (i + 1), by omega, g₃, h₃', tk₃, m₂, news₂, i + 1, rfl, ?_, hc₃, F₃, fun p hp => N₃ p (.tail _ hp), off₃, hJ₃, hlt, rfl⟩
    have q := (N₃ _ (.head _)).1
    show h₃'.get? I = some (itR ((0 : Int) + ((i + 1 : Nat) : Int) * 1) ((n : Int) - ((i + 1 : Nat) : Int)))
    rw [Int.mul_one]
    exact q
  · have hin : i = n := by omega
    subst hin
    refine W.done _ _ _ hst' fun h₁ tk₁ hk₁ => wpAny_execs_nil ?_
    obtain ⟨F₁, N₁⟩ := next h₁ hk₁
    rw [Nat.sub_self] at hJ
    exact hJ g h₁ tk₁ hc' F₁ N₁

/-- a For over range(n), its ground turning -/
theorem for_T {E : Value → Shared → Prop} {Q : Flow → Shared → Prop} {x : Str} {px pos : Pos} {iter : PySem.Expr} {body : List Stmt} {m : Str → Option Value} {news : List (Addr × Obj)} {Ctx : Heap → Prop} {g : Heap} {n : Nat} {b : Int}
    (hh : A.handled = none) (hx : env.kindOf x = some .local) (hp : (env.scope.kind == .class || (env.scope.kind == .module && env.locals != env.globals)) = false)
    (hc : Ctx g) (hnone : ∀ g', Ctx g' → ∀ b, g.get? b = none → g'.get? b = none)
    (h : wpAny (model prog w) A (eval iter env) (fun xv s₁ => ∃ r t u v, xv = .ref r ∧ IsRange s₁.heap r 0 b 1 t u v ∧ Fr g env.locals s₁.heap m ∧ News g env.locals s₁.heap news ∧ ∀ I h', (∀ p ∈ news, p.1 < I) → RestT prog w A E env x body Q Ctx { s₁ with heap := h' } I n n 0 m news) E s)
    (hsm : Builtin.Range.small 0 b 1 = true) (hsz : Builtin.Range.rangeSize 0 b 1 = (n : Int))
    (hs : ∀ x, foldedSetIterable iter env x = pure x := by intro _; rfl)
    (hE : PassesOwn (model prog w) A env E := by passes_own) :
    wpAny (model prog w) A (exec (.For (.Name x px) iter body [] pos) env) Q E s := by
  refine wpAny_For (wpAny_mono h (fun xv s₁ h₁ => ?_) fun _ _ e => e) hs
  obtain ⟨r, t, u, v, rfl, hr, F, N, rest⟩ := h₁
  refine wpAny_pyIter_range hr hsm ?_
  have hnew := next_is_new F
  have hns : env.locals ≠ s₁.heap.objs.size := fun e => absurd F.ns.lt (e ▸ Nat.lt_irrefl _)
  have hlt : ∀ p ∈ news, p.1 < s₁.heap.objs.size := fun p hp => Heap.lt_size (N p hp).1
  refine loop_T (g := g) (news := news) (m := m) (E := E) hh hx hp hns (fun g' c => hnone g' c _ hnew) ?_ hc (F.push _) (fun p hp => ⟨Heap.get?_push_of_some _ (N p hp).1, (N p hp).2⟩) (fun p hp => Nat.ne_of_lt (hlt p hp)) (fun s₁ Q' z => wpAny_passesOwn hE z) (rest _ _ hlt)
  rw [hsz]
  exact Heap.get?_push_size _ rfl
theorem RestT.succ {E : Value → Shared → Prop} {Q : Flow → Shared → Prop} {x : Str} {body : List Stmt} {m : Str → Option Value} {news : List (Addr × Obj)} {Ctx : Heap → Prop} {I : Addr} {n k i : Nat}
    (h : ∀ g t h tk, Ctx g → Fr g env.locals h (fun y => if y = x then some (.int ((0 : Int) + (i : Int)) t) else m y) → News g env.locals h ((I, itR ((0 : Int) + ((i + 1 : Nat) : Int)) ((n : Int) - ((i + 1 : Nat) : Int))) :: news) →
      wpAny (model prog w) A (execs body env) (TurnEnd Ctx env.locals s I (itR ((0 : Int) + ((i + 1 : Nat) : Int)) ((n : Int) - ((i + 1 : Nat) : Int))) (RestT prog w A E env x body Q Ctx s I n k (i + 1))) E { s with heap := h, toks := tk }) :
    RestT prog w A E env x body Q Ctx s I n (k + 1) i m news := h
theorem RestT.zero {E : Value → Shared → Prop} {Q : Flow → Shared → Prop} {x : Str} {body : List Stmt} {m : Str → Option Value} {news : List (Addr × Obj)} {Ctx : Heap → Prop} {I : Addr} {n i : Nat}
    (h : ∀ g h tk, Ctx g → Fr g env.locals h m → News g env.locals h news → Q .next { s with heap := h, toks := tk }) : RestT prog w A E env x body Q Ctx s I n 0 i m news := h

def CtxK (K : Frag) (p : Program) (loose : List Str) (mean : ExcName → Option Value) (mg mb : Str → Option Value) (A₀ : Around) (base : Heap) (outer : List Env) (g g' : Heap) : Prop :=
  KtsTurn (outer.filterMap (·.frame)) g g' ∧ Below A₀ base outer g' ∧ K.In g' ∧ Top p loose mean mg mb g' ∧ KtsDicts (outer.filterMap (·.frame)) g'

structure RangeMade (prog : Program) (w : World) (A : Around) (E : Value → Shared → Prop) (env : Env) (x : Str) (body : List Stmt) (Q : Flow → Shared → Prop) (Ctx : Heap → Prop) (g : Heap) (m : Str → Option Value) (news : List (Addr × Obj)) (n : Nat) (b : Int) (xv : Value) (s₁ : Shared) : Prop where
  made : ∃ r t u v, xv = .ref r ∧ IsRange s₁.heap r 0 b 1 t u v ∧ Fr g env.locals s₁.heap m ∧ News g env.locals s₁.heap news ∧ ∀ I h', (∀ p ∈ news, p.1 < I) → RestT prog w A E env x body Q Ctx { s₁ with heap := h' } I n n 0 m news

theorem for_K {E : Value → Shared → Prop} {Q : Flow → Shared → Prop} {x : Str} {px pos : Pos} {iter : PySem.Expr} {body : List Stmt} {m : Str → Option Value} {news : List (Addr × Obj)} {g : Heap} {n : Nat} {b : Int}
    {K : Frag} {p : Program} {loose : List Str} {mean : ExcName → Option Value} {mg mb : Str → Option Value} {A₀ : Around} {base : Heap} {outer : List Env}
    (F : Fr g env.locals s.heap m) (N : News g env.locals s.heap news) (B : Below A₀ base outer g) (X : K.In g) (T : Top p loose mean mg mb g) (D : KtsDicts (outer.filterMap (·.frame)) g)
    (hh : A.handled = none) (hx : env.kindOf x = some .local) (hp : (env.scope.kind == .class || (env.scope.kind == .module && env.locals != env.globals)) = false)
    (hsm : Builtin.Range.small 0 b 1 = true) (hsz : Builtin.Range.rangeSize 0 b 1 = (n : Int))
    (h : wpAny (model prog w) A (eval iter env) (RangeMade prog w A E env x body Q (CtxK K p loose mean mg mb A₀ base outer g) g m news n b) E s)
    (hs : ∀ x, foldedSetIterable iter env x = pure x := by intro _; rfl)
    (hE : PassesOwn (model prog w) A env E := by passes_own) :
    wpAny (model prog w) A (exec (.For (.Name x px) iter body [] pos) env) Q E s :=
  for_T hh hx hp ⟨KtsTurn.refl, B, X, T, D⟩ (fun g' c b e => c.1.none_ b e) (wpAny_mono h (fun _ _ z => z.made) fun _ _ e => e) hsm hsz hs hE

theorem turn_end {K : Frag} {p : Program} {loose : List Str} {mean : ExcName → Option Value} {mg mb : Str → Option Value} {A₀ : Around} {base : Heap} {outer : List Env} {g g' h' : Heap} {L x d l I : Addr} {o1 o2 o3 it : Obj} {rest : (Str → Option Value) → List (Addr × Obj) → Prop} {tk : Nat} {m' : Str → Option Value} {all news : List (Addr × Obj)}
    (F : Fr g' L h' m') (N : News g' L h' all) (T : KtsTurn (outer.filterMap (·.frame)) g g') (B : Below A₀ base outer g') (X : K.In g') (Tp : Top p loose mean mg mb g') (D : KtsDicts (outer.filterMap (·.frame)) g')
    (m1 : (x, o1) ∈ all) (m2 : (d, o2) ∈ all) (m3 : (l, o3) ∈ all) (mn : ∀ p ∈ news, p ∈ all) (hI : (I, it) ∈ all) (hn : x < I ∧ d < I ∧ l < I ∧ AllLt I news) (r : rest m' ((x, o1) :: (d, o2) :: (l, o3) :: news)) : TurnEnd (CtxK K p loose mean mg mb A₀ base outer g) L s I it rest .next { s with heap := h', toks := tk } := by
  refine ⟨rfl, g', h', tk, m', (x, o1) :: (d, o2) :: (l, o3) :: news, rfl, ⟨T, B, X, Tp, D⟩, F, fun q hq => N q ?_, ?_, r⟩
  · exact List.forall_mem_cons.mpr ⟨hI, List.forall_mem_cons.mpr ⟨m1, List.forall_mem_cons.mpr ⟨m2, List.forall_mem_cons.mpr ⟨m3, mn⟩⟩⟩⟩ q hq
  · exact List.forall_mem_cons.mpr ⟨Nat.ne_of_lt hn.1, List.forall_mem_cons.mpr ⟨Nat.ne_of_lt hn.2.1, List.forall_mem_cons.mpr ⟨Nat.ne_of_lt hn.2.2.1, fun p hp => Nat.ne_of_lt (allLt_to hn.2.2.2 p hp)⟩⟩⟩
theorem findObj_none {K : Frag} {C : Addr} {name : Str} {es : List DictEntry} {n : Nat} (hh : hasDictIn K C = true) (ha : findIn K (.ref C) name = some none) (hc : copiedNames.contains name = false) (hl : getL name es = some none) :
    findObj K C (some (dictOf es n)) name = some .missing := by
  obtain ⟨cd, hc', hd⟩ := any_some hh
  unfold findObj
  have ho : ownOf cd (some (dictOf es n)) name = some none := by unfold PySem.W.ownOf; rw [if_pos hd]; exact hl
  rw [hc', Option.bind_some, ha, Option.bind_some]
  simp only [Option.bind_some, ho, hc, Bool.false_and, Bool.false_eq_true, if_false]
/-- a missing attribute, its class with a __getattr__ -/
theorem miss_h {Q : Value → Shared → Prop} {E : Value → Shared → Prop} {K : Frag} {x C f L : Addr} {ox od : Obj} {name : Str} {expr : Bool} {h₀ : Heap} {m : Str → Option Value} (F : Fr h₀ L s.heap m) (X₀ : K.In h₀) (I : InstAt s.heap x ox C (some od))
    (hga : findIn K (.ref C) "__getattribute__" = some (some (.builtin "object.__getattribute__"))) (hf : findObj K C (some od) name = some .missing) (hk : findIn K (.ref C) "__getattr__" = some (some (.ref f))) (ht : typeIn K (.ref f) = some (.type "function"))
    (h : wpAny (model prog w) A.in1 (call (.ref f) [.ref x, .str name s.toks]) (fun v s' => wpAny (model prog w) A (handedOut v) Q E s') (fun e s' => wpAny (model prog w) A (noteIf true (.ref x) (.str name s.toks) e) (fun _ s'' => E e s'') E s') { s with toks := s.toks + 1 }) :
    wpAny (model prog w) A (getAttr (.ref x) name expr) Q E s := by
  have X := X₀.keeps F.keep
  refine get_open X I hga ?_
  obtain ⟨hh', gg, d, t, os⟩ := s
  have L0 := I.type (M := model prog w)
  have L1 := looks_find (M := model prog w) X I hf
  have L2 := looks_findIn (M := model prog w) X hk
  have L3 := bind_fn (M := model prog w) X (.ref x) ht
  refine wpAny_bind (wpAny_pure (wpAny_bind (L0.at (wpAny_bind (L1.at (wpAny_bind (L2.at ?_)))))))
  show wpAny _ _ (Builtin.ObjectAttr.byHook (.ref x) (.str name t) (.ref f)) _ _ _
  unfold Builtin.ObjectAttr.byHook
  refine wpAny_bind (L3.at ?_)
  exact wpAny_bind (wpAny_mono h (fun v s' z => wpAny_bind (wpAny_rule (wpAny_pure z))) fun _ _ z => z)
end
end Mine

end

/-! part Exc1 -/
section
open PySem PySem.W PySem.Calls PyProof.Rows
namespace Mine
theorem ae_not : (Value.type "AttributeError" == Value.type "type") = false := by decide +kernel
theorem ae_made : Bind.madeBy (.type "AttributeError") = pure (some "Exception.__new__") := by kernel_rfl
theorem ae_owner : isSubtype (.type "AttributeError") (.type (("Exception.__new__" : String).dropRight 8)) = pure true := by rw [isSubtype_type]; kernel_rfl
theorem ae_here : Bind.madeHere "BaseException.__new__" (.type "AttributeError") = pure () := by kernel_rfl
theorem ae_plain : plainId "Exception.__new__" = true := by decide +kernel
theorem ae_ends : ("Exception.__new__" : String).endsWith ".__new__" = true := by decide +kernel
theorem ae_newEntry : entryFor table "Exception.__new__" = some Builtin.«BaseException.__new__» := entryFor_alias (id' := "BaseException.__new__") (by kernel_rfl) (by first | rfl | (unfold String.splitOn; simp +decide [String.splitOnAux])) (by decide +kernel) (by kernel_rfl)
theorem ae_newCheck (v : Value) : checkBuiltinCall "Exception.__new__" ⟨[.type "AttributeError", v], []⟩ = pure () := by kernel_rfl
theorem ae_typeCall (v : Value) : checkTypeCall "AttributeError" ⟨[v], []⟩ = pure () := by kernel_rfl
theorem ae_mro : mroOf (.type "AttributeError") = pure [.type "AttributeError", .type "Exception", .type "BaseException", .type "object"] := by rw [mroOf_type]; kernel_rfl
theorem ae_init : Slot "AttributeError" "__init__" "AttributeError.__init__" := .of (owner := "AttributeError") (n := "__init__") (by rw [typeLookup_type, builtinLookup_eq_fast]; kernel_rfl) (by decide +kernel) (by decide +kernel) (by decide +kernel)
    (by first | exact .inl (by decide +kernel) | exact .inr (by decide +kernel)) (by rw [isSubtype_type]; kernel_rfl)
theorem ae_initEntry : entryFor table "AttributeError.__init__" = some Builtin.«AttributeError.__init__» := entryFor_of_tree (by kernel_rfl)
theorem ae_args (a b : Value) : argsOk "AttributeError.__init__" ⟨[a, b], []⟩ := by unfold argsOk; kernel_rfl
theorem ae_canNew : ((Manifest.find? "AttributeError").bind (·.mro.findSome? fun t => (Manifest.find? t).bind fun b => if b.noNew then some true else if b.attrs.any (·.1 == "__new__") then some false else none)).getD false = false := by decide +kernel
theorem ae_base : isSubtype (.type "AttributeError") (.type "BaseException") = pure true := by rw [isSubtype_type]; kernel_rfl
theorem ae_meta : (Value.type ((Manifest.find? "AttributeError").elim "type" fun x => x.metatype) == Value.type "type") = true := by decide +kernel
abbrev aeVs (t : Addr) (c : Value) : Array Value := #[.ref t, .none, c, .none, .bool false, .none, rawInt 0, rawInt 0]
structure AttrNew (h h' : Heap) (e : Addr) (c : Value) : Prop where
  keeps : ∀ b o, h.get? b = some o → h'.get? b = some o
  new : h.get? e = none
  there : ∃ t, h'.get? e = some { cls := .type "AttributeError", data := .fields (aeVs t c) }
section
variable {prog : Program} {w : World} {A : Around} {E : Value → Shared → Prop} {s : Shared}
theorem new_attr {v : Value} {Q : Value → Shared → Prop}
    (h : Q (.ref (s.heap.push { cls := .type "tuple", data := .seq #[v] }).objs.size) { s with heap := (s.heap.push { cls := .type "tuple", data := .seq #[v] }).push { cls := .type "AttributeError", data := .fields (aeVs s.heap.objs.size .none) } }) :
    wpAny (model prog w) A (call (.builtin "Exception.__new__") [.type "AttributeError", v]) Q E s := by
  refine call_builtin_at ae_plain ae_newEntry (ae_newCheck v) ?_
  unfold Builtin.«BaseException.__new__»
  refine PyProof.Rows.wpAt_bind (wpAt_owner rfl ae_ends (PyProof.Rows.wpAt_of_any ?_))
  dsimp only
  refine wpAny_bind (m := isType _) (wpAny_of_eq (a := true) rfl ?_)
  simp only [Bool.not_true, Bool.false_eq_true, if_false]
  refine wpAny_bind (wpAny_of_eq (a := true) ?own0 ?_)
  case own0 => exact ae_owner
  simp only [Bool.not_true, Bool.false_eq_true, if_false]
  refine wpAny_bind (wpAny_of_eq ae_here ?_)
  refine wpAny_bind (wpAny_of_eq (a := 2) ?own ?_)
  case own =>
    show (do
      if ← isSubtype (.type "AttributeError") (.type "AttributeError") then return 2
      if ← isSubtype (.type "AttributeError") (.type "NameError") then return 1
      return 0 : Sem Nat) = pure 2
    simp only [sub_AttributeError, pure_bind, if_true]
  unfold newTuple
  refine wpAny_bind (wpAny_newObj_type (wpAny_bind (wpAny_newObj_type (wpAny_pure ⟨_, rfl, ?_⟩) (by size_fits))) (by size_fits))
  exact h
theorem put_ref {e : Addr} {ob : Obj} {vs : Array Value} {i : Nat} {t0 : Addr} {v : Value} {Q : Unit → Shared → Prop} (he : s.heap.get? e = some ob) (hd : ob.data = .fields vs) (h0 : vs[i]? = some (.ref t0)) (hi : i < vs.size)
    (h : ∀ h', h'.get? e = some (ob.mapFields (·.setIfInBounds i v)) → (∀ b o, b ≠ e → s.heap.get? b = some o → h'.get? b = some o) → Q () { s with heap := h' }) : wpAny (model prog w) A (Builtin.Exceptions.excPut (.ref e) i v) Q E s := by
  unfold Builtin.Exceptions.excPut
  refine wpAny_bind (wpAny_field he hd h0 (wpAny_bind (wpAny_setField he hd hi ?_)))
  exact wpAny_letGo (h _ (Heap.get?_update_self _ he (Obj.isFreed_of_fields (Obj.data_mapFields hd _))) fun b o hb k => (Heap.get?_update_other _ _ (Ne.symm hb)).trans k)
theorem put_int {e : Addr} {ob : Obj} {vs : Array Value} {i : Nat} {n : Int} {t : Tok} {v : Value} {Q : Unit → Shared → Prop} (he : s.heap.get? e = some ob) (hd : ob.data = .fields vs) (h0 : vs[i]? = some (.int n t)) (hi : i < vs.size)
    (h : ∀ h', h'.get? e = some (ob.mapFields (·.setIfInBounds i v)) → (∀ b o, b ≠ e → s.heap.get? b = some o → h'.get? b = some o) → Q () { s with heap := h' }) : wpAny (model prog w) A (Builtin.Exceptions.excPut (.ref e) i v) Q E s := by
  unfold Builtin.Exceptions.excPut
  refine wpAny_bind (wpAny_field he hd h0 (wpAny_bind (wpAny_setField he hd hi ?_)))
  exact wpAny_pure (h _ (Heap.get?_update_self _ he (Obj.isFreed_of_fields (Obj.data_mapFields hd _))) fun b o hb k => (Heap.get?_update_other _ _ (Ne.symm hb)).trans k)
theorem fields_of {e : Addr} {ob : Obj} {vs : Array Value} {Q : Array Value → Shared → Prop} (he : s.heap.get? e = some ob) (hd : ob.data = .fields vs) (h : Q vs s) : wpAny (model prog w) A (fieldsOf (.ref e)) Q E s := by
  unfold fieldsOf
  dsimp only
  refine wpAny_bind (wpAny_load he ?_)
  rw [hd]
  exact wpAny_pure h
theorem init_attr {e : Addr} {t0 : Addr} {v : Value} {Q : Value → Shared → Prop} (he : s.heap.get? e = some { cls := .type "AttributeError", data := .fields (aeVs t0 .none) })
    (h : ∀ h', (∀ b o, b ≠ e → s.heap.get? b = some o → h'.get? b = some o) → h'.get? e = some { cls := .type "AttributeError", data := .fields (aeVs s.heap.objs.size .none) } → Q .none { s with heap := h' }) :
    wpAny (model prog w) A (call (.builtin "AttributeError.__init__") [.ref e, v]) Q E s := by
  have hT : s.TypeIs (.ref e) "AttributeError" := ⟨_, he, rfl⟩
  refine wpAny_call_entry ae_init hT ae_initEntry ?_ (ae_args _ _)
  unfold Builtin.«AttributeError.__init__» Builtin.Exceptions.excInitWithMembers
  dsimp only
  unfold newTuple
  refine wpAny_bind (wpAny_newObj_type ?_ (by size_fits))
  have he1 := Heap.get?_push_of_some (h := s.heap) { cls := .type "tuple", data := .seq [v].toArray } he
  have h1 : ∀ b o, s.heap.get? b = some o → (s.heap.push { cls := .type "tuple", data := .seq [v].toArray }).get? b = some o := fun b o k => Heap.get?_push_of_some _ k
  revert he1 h1
  generalize (s.heap.push { cls := .type "tuple", data := .seq [v].toArray }) = H1
  intro he1 h1
  refine wpAny_bind (put_ref he1 rfl rfl (by simp) fun H2 he2 hk2 => ?_)
  refine wpAny_bind (wpAny_of_eq (a := [rawInt 0, rawInt 0]) rfl ?_)
  unfold Builtin.Exceptions.excSetOwn
  refine wpAny_bind ?_
  refine wpAny_bind (fields_of he2 rfl ?_)
  rw [if_neg (by simp)]
  simp only [List.zipIdx_cons, List.zipIdx_nil, List.forIn_cons, List.forIn_nil]
  refine wpAny_bind (wpAny_bind (wpAny_bind (put_int he2 rfl rfl (by simp) fun H3 he3 hk3 => wpAny_pure ?_)))
  refine wpAny_bind (wpAny_bind (put_int he3 rfl rfl (by simp) fun H4 he4 hk4 => wpAny_pure ?_))
  refine wpAny_pure (wpAny_pure (wpAny_pure ⟨_, rfl, h H4 (fun b o hb k => hk4 b o hb (hk3 b o hb (hk2 b o hb (h1 b o k)))) ?_⟩))
  exact he4
theorem call_attr {v : Value} {Q : Value → Shared → Prop} (h : ∀ h' e, AttrNew s.heap h' e .none → Q (.ref e) { s with heap := h' }) :
    wpAny (model prog w) A (call (.type "AttributeError") [v]) Q E s := by
  refine wpAny_call (codeAny_of_tree ?_)
  show wpAny _ _ (callAny (.type "AttributeError") ⟨[v], []⟩) _ _ s
  simp only [callAny]
  refine wpAny_pure ⟨Code.quiet_builtin _ (by decide +kernel), codeAny_builtin entry_type_call ?_⟩
  rw [Around.under_plain (weight_type_call "AttributeError" _ _) (by first | rfl | kernel_rfl | decide +kernel)]
  unfold Builtin.«type.__call__»
  dsimp only
  rw [if_neg (by rw [ae_not]; exact Bool.false_ne_true), if_neg (by rw [ae_canNew]; exact Bool.false_ne_true)]
  refine wpAny_bind (wpAny_of_eq (ae_typeCall v) (wpAny_bind (wpAny_of_eq ae_mro ?_)))
  rw [if_neg (by decide)]
  refine wpAny_bind (wpAny_of_eq ae_made ?_)
  dsimp only
  refine wpAny_bind (wpAny_pure (wpAny_bind (wpAny_holding (new_attr ?_))))
  refine wpAny_bind (wpAny_isInstance (T := "AttributeError") ⟨_, Heap.get?_push_size _ rfl, rfl⟩ sub_AttributeError ?_)
  simp only [Bool.not_true, Bool.false_eq_true, if_false]
  refine wpAny_bind (wpAny_holding (wpAny_callSpecial?_slot (name := Str.ofString "__init__") (T := "AttributeError") ⟨_, Heap.get?_push_size _ rfl, rfl⟩ ae_init
    (init_attr (Heap.get?_push_size _ rfl) fun h' hk he => ?_)))
  dsimp only
  rw [if_neg (by simp)]
  refine wpAny_pure (h h' _ ⟨fun b o hb => hk b o ?_ ?_, ?_, _, he⟩)
  · refine Nat.ne_of_lt (Nat.lt_of_lt_of_le (Heap.lt_size hb) ?_)
    rw [Heap.size_push]
    exact Nat.le_succ _
  · exact Heap.get?_push_of_some _ (Heap.get?_push_of_some _ hb)
  · refine Heap.get?_none_of_le ?_
    rw [Heap.size_push]
    exact Nat.le_succ _
end
structure OnNext (h : Heap) (e1 : Addr) (k : Prop) : Prop where
  shape : ∃ ob vs, h.get? e1 = some ob ∧ ob.data = .fields vs ∧ vs[2]? = some .none
  next : k
section
variable {prog : Program} {w : World} {A : Around} {E : Value → Shared → Prop} {s : Shared} {env : Env}
theorem unchain {e2 e1 : Value} {x : Addr} {ob : Obj} {vs : Array Value} {Q : Value → Shared → Prop} (hx : e1 = .ref x) (he : s.heap.get? x = some ob) (hd : ob.data = .fields vs) (h2 : vs[2]? = some .none) (h : Q .none s) :
    wpAny (model prog w) A (runValue (.builtin "proto.unchain" ⟨[e2, e1, e1, .bool false], []⟩)) Q E s := by
  subst hx
  refine wpAny_runValue (codeAny_builtin (b := Builtin.«proto.unchain») (entryFor_of_tree (by kernel_rfl)) ?_)
  unfold Builtin.«proto.unchain»
  dsimp only
  refine wpAny_bind (wpAny_field he hd h2 ?_)
  rw [if_pos (by rfl)]
  exact wpAny_pure h
theorem raiseNew_on {e1 e2 : Addr} {t : Addr} {ob : Obj} {vs : Array Value} {Q : Flow → Shared → Prop} (hh : A.handled = some (.ref e1)) (hne : e1 ≠ e2) (he1 : s.heap.get? e1 = some ob) (hd : ob.data = .fields vs) (h2 : vs[2]? = some .none)
    (he2 : s.heap.get? e2 = some { cls := .type "AttributeError", data := .fields (aeVs t .none) })
    (h : ∀ h', (∀ b o, b ≠ e2 → s.heap.get? b = some o → h'.get? b = some o) → h'.get? e2 = some { cls := .type "AttributeError", data := .fields (aeVs t (.ref e1)) } → E (.ref e2) { s with heap := h' }) :
    wpAny (model prog w) A (raiseNew (.ref e2) : Sem Flow) Q E s := by
  unfold raiseNew
  refine wpAny_bind (wpAny_handled ?_)
  rw [hh]
  dsimp only
  rw [if_pos (by simpa using hne)]
  refine wpAny_bind (wpAny_holding (unchain rfl he1 hd h2 (wpAny_bind ?_)))
  unfold updateField
  refine wpAny_bind (wpAny_load he2 ?_)
  dsimp only
  rw [if_pos (by simp)]
  refine wpAny_update he2 (wpAny_throw (h _ (fun b o hb k => (Heap.get?_update_other _ _ (Ne.symm hb)).trans k) (Heap.get?_update_self _ he2 (Obj.isFreed_of_fields (Obj.data_mapFields rfl _)))))
theorem Raise_on {e1 : Addr} {x : Str} {np cpos pos : Pos} {arg : PySem.Expr} {Q : Flow → Shared → Prop} (hh : A.handled = some (.ref e1)) 
    (h : wpAny (model prog w) A (eval (.Name x np) env) (fun f s₁ => f = .type "AttributeError" ∧ wpAny (model prog w) A (eval arg env) (fun v s₂ => OnNext s₂.heap e1 (∀ h' e, AttrNew s₂.heap h' e (.ref e1) → E (.ref e) { s₂ with heap := h' })) E s₁) E s)
    (he : starEach [arg] env = [(false, eval arg env)] := by rfl) :
    wpAny (model prog w) A (exec (.Raise (some (.Call (.Name x np) [arg] [] cpos)) none pos) env) Q E s := by
  show wpAny (model prog w) A (do standAt pos; raiseStmt env (some (do let v ← eval (.Call (.Name x np) [arg] [] cpos) env; standAt pos; pure v)) none) Q E s
  refine wpAny_bind (wpAny_standAt ?_)
  unfold raiseStmt
  dsimp only
  refine wpAny_bind (wpAny_bind (wpAny_Call_ofName (wpAny_mono h (fun f s₁ h₁ => ?_) fun _ _ x => x)))
  obtain ⟨rfl, h₁⟩ := h₁
  refine callWith_type1 (spliced_more (wpAny_mono h₁ (fun v s₂ h₂ => ?_) fun _ _ x => x) he) he
  refine spliced_none ?_
  obtain ⟨⟨ob, vs, k1, k2, k3⟩, h₃⟩ := h₂
  refine call_attr fun H2 e2 hn => ?_
  obtain ⟨t, ht⟩ := hn.there
  refine wpAny_bind (wpAny_standAt (wpAny_pure ?_))
  have hT : ({ s₂ with heap := H2 } : Shared).TypeIs (.ref e2) "AttributeError" := ⟨_, ht, rfl⟩
  have hnt : ∀ {Q' : Bool → Shared → Prop}, Q' false { s₂ with heap := H2 } → wpAny (model prog w) A (isType (.ref e2)) Q' E { s₂ with heap := H2 } := by
    intro Q' hq
    simp only [isType, loadHead]
    exact wpAny_bind (wpAny_loadPart ht (wpAny_pure hq))
  refine wpAny_bind (wpAny_pure ?_)
  dsimp only
  refine wpAny_bind (wpAny_holding ?_)
  unfold excFromValue isExcClass
  refine wpAny_bind (wpAny_bind (hnt ?_))
  simp only [Bool.false_eq_true, if_false]
  refine wpAny_pure ?_
  simp only [Bool.false_eq_true, if_false]
  refine wpAny_bind (wpAny_isInstance hT ae_base ?_)
  simp only [if_true]
  refine wpAny_pure ?_
  refine wpAny_bind (hnt ?_)
  simp only [Bool.false_eq_true, if_false]
  unfold raisedInstance
  refine wpAny_bind (wpAny_bind (wpAny_typeOf hT (wpAny_bind (m := typeOf (.type "AttributeError")) (wpAny_pure ?_))))
  rw [if_pos ae_meta]
  refine wpAny_pure ?_
  unfold setFlight
  refine wpAny_bind (wpAny_bind (wpAny_field ht rfl (x := .none) (by rfl) ?_))
  rw [if_neg (by decide)]
  refine wpAny_pure ?_
  have hne : e1 ≠ e2 := fun q => by
    have := hn.new
    rw [← q, k1] at this
    cases this
  refine raiseNew_on hh hne (hn.keeps _ _ k1) k2 k3 ht fun h' hk he' => h₃ h' e2 ⟨fun b o k => hk b o (fun q => ?_) (hn.keeps b o k), hn.new, t, he'⟩
  have := hn.new
  rw [← q, k] at this
  cases this
end
end Mine

end

/-! part Exc2 -/
section
open PySem PySem.W PySem.Calls PyProof.Rows
namespace Mine
/-- an exception in flight, its record known but for the entry -/
def Sh (h B : Heap) (e : Addr) (cls : Value) (vs : Array Value) (fl : Value) : Prop :=
  ∃ oe T oT ts, h.get? e = some oe ∧ oe.cls = cls ∧ oe.data = .fields (vs.setIfInBounds 1 (.ref T)) ∧ B.get? T = none ∧ T ≠ e ∧ h.get? T = some oT ∧ oT.data = .fields ts ∧ ts[3]? = some fl
theorem Sh.flying {h B : Heap} {l : List Env} {e : Addr} {cls : Value} {vs : Array Value} {a0 : Value} (x : Sh h B e cls vs .none) (h0 : vs[0]? = some a0) (h1 : 1 < vs.size) (st : B.StaysIn h) (hn : B.get? e = none) (fr : h.FunFrames B l) : Heap.FlyingW B l e cls a0 h := by
  obtain ⟨oe, T, oT, ts, q1, q2, q3, q4, q5, q6, q7, q8⟩ := x
  exact ⟨st, hn, fr, oe, _, T, oT, ts, q1, ⟨q2, by rw [Array.getElem?_setIfInBounds_ne (by decide)]; exact h0⟩, q3, by simp [h1], q4, q5, q6, q7, q8⟩
section
variable {M : Model} {A : Around} {E : Value → Shared → Prop} {s : Shared}
theorem note_new {B : Heap} {env : Env} {outer : List Env} {L e : Addr} {oe : Obj} {vs : Array Value} {Q : Unit → Shared → Prop}
    (hfr : A.frames = some (env :: outer)) (hl : s.heap.FunFrames B (env :: outer)) (hf : env.frame = some L) (he : s.heap.get? e = some oe) (hkb : B.StaysIn s.heap) (hen : B.get? e = none) (hd : oe.data = .fields vs) (h1 : vs[1]? = some .none)
    (h : ∀ h', B.StaysIn h' → h'.FunFrames B (env :: outer) → Sh h' B e oe.cls vs (rawInt L) → s.heap.UpToSlots h' → Q () { s with heap := h' }) : wpAny M A (noteFrame (.ref e) env) Q E s := by
  have hsz : 1 < vs.size := (Array.getElem?_eq_some_iff.mp h1).1
  unfold noteFrame
  simp only [hf]
  refine wpAny_bind (wpAny_field he hd h1 ?_)
  rw [if_neg (by decide)]
  have off : e ∉ (env :: outer).filterMap (·.frame) := fun hm => by
    obtain ⟨_, o, ho, hnf⟩ := hl.mem hm
    rw [he] at ho
    cases ho
    exact hnf vs hd
  refine wpAny_bind (wpAny_frameOf_fun hfr hl hf fun H1 hs1 => ?_)
  refine wpAny_bind (wpAny_entryPlaceOf fun pl hpl => ?_)
  unfold EntryCells.newEntry newFields
  refine wpAny_bind (wpAny_newObj_type ?_ (hpl.sizeOk5 _ _ _ _ _))
  have k1 : H1.get? e = some oe := (hs1.2.1 e off).trans he
  have st1 : B.StaysIn H1 := fun b o q => (hs1.2.1 b fun hm => by rw [(hl.mem hm).1] at q; cases q).trans (hkb b o q)
  have hne : H1.objs.size ≠ e := Nat.ne_of_gt (Heap.lt_size k1)
  have up1 : ∀ b o, s.heap.get? b = some o → (∀ ws, o.data ≠ .fields ws) → ∃ sl, H1.get? b = some { o with slots := sl } := fun b o q _ => hs1.2.2 b o q
  generalize hE : ({ cls := .type "traceback", dict := none, data := .fields ([.none, .ref L, .none, rawInt L, .none] ++ (if pl.isEmpty then List.replicate 6 Value.none else pl)).toArray } : Obj) = ent
  have hent : ∃ ts, ent.data = .fields ts ∧ ts[3]? = some (rawInt L) := by
    subst hE
    exact ⟨_, rfl, by first | (simp; done) | (rcases hpl with rfl | ⟨_, _, _, _, _, _, _, rfl⟩ <;> simp)⟩
  have hfree : ent.isFreed = false := by
    obtain ⟨ts, hts, _⟩ := hent
    exact Obj.isFreed_of_fields hts
  have k2 := Heap.get?_push_of_some (h := H1) ent k1
  refine wpAny_setField k2 hd hsz ?_
  have other : ∀ b o, b ≠ e → H1.get? b = some o → ((H1.push ent).update e (Obj.mapFields (·.setIfInBounds 1 (.ref H1.objs.size)))).get? b = some o := fun b o hb q => by
    rw [Heap.get?_update_other _ _ (Ne.symm hb)]
    exact Heap.get?_push_of_some _ q
  have nf : ∀ b o, s.heap.get? b = some o → (∀ ws, o.data ≠ .fields ws) → b ≠ e := fun b o q hn z => by
    rw [z, he] at q
    cases q
    exact hn vs hd
  have slots : s.heap.UpToSlots ((H1.push ent).update e (Obj.mapFields (·.setIfInBounds 1 (.ref H1.objs.size)))) := fun b o q hn => by
    obtain ⟨sl, hsl⟩ := up1 b o q hn
    exact ⟨sl, other b _ (nf b o q hn) hsl⟩
  refine h _ (fun b o q => other b o (fun z => by rw [z, hen] at q; cases q) (st1 b o q)) (hl.of_keeps fun b o q hn => ?_) ?_ slots
  · obtain ⟨sl, hsl⟩ := slots b o q hn
    exact ⟨_, hsl, rfl⟩
  · obtain ⟨ts, hts, h3⟩ := hent
    refine ⟨_, H1.objs.size, ent, ts, Heap.get?_update_self _ k2 (Obj.isFreed_of_fields (Obj.data_mapFields hd _)), Obj.cls_mapFields _ _, Obj.data_mapFields hd _, st1.fresh, hne, ?_, hts, h3⟩
    rw [Heap.get?_update_other _ _ (Ne.symm hne)]
    exact Heap.get?_push_size _ hfree
theorem flight_none {B : Heap} {l : List Env} {e : Addr} {cls fl : Value} {vs : Array Value} {Q : Unit → Shared → Prop} (hkb : B.StaysIn s.heap) (hl : s.heap.FunFrames B l) (hS : Sh s.heap B e cls vs fl) (hsz : 1 < vs.size)
    (h : ∀ h', B.StaysIn h' → h'.FunFrames B l → Sh h' B e cls vs .none → s.heap.UpToSlots h' → Q () { s with heap := h' }) : wpAny M A (setFlight (.ref e) none) Q E s := by
  obtain ⟨oe, T, oT, ts, q1, q2, q3, q4, q5, q6, q7, q8⟩ := hS
  have h3 : 3 < ts.size := (Array.getElem?_eq_some_iff.mp q8).1
  unfold setFlight
  refine wpAny_bind (wpAny_field q1 q3 (x := .ref T) (by simp [hsz]) ?_)
  rw [if_pos (show (Value.ref T != Value.none) = true from by simp)]
  refine wpAny_setField q6 q7 h3 ?_
  have other : ∀ b, b ≠ T → (s.heap.update T (Obj.mapFields (·.setIfInBounds 3 ((none : Option Addr).elim Value.none fun f => rawInt f)))).get? b = s.heap.get? b := fun b hb => Heap.get?_update_other _ _ (Ne.symm hb)
  have slots : s.heap.UpToSlots (s.heap.update T (Obj.mapFields (·.setIfInBounds 3 ((none : Option Addr).elim Value.none fun f => rawInt f)))) := fun b o q hn => ⟨o.slots, (other b fun z => by
    rw [z, q6] at q
    cases q
    exact hn ts q7).trans q⟩
  refine h _ (fun b o q => (other b fun z => by rw [z, q4] at q; cases q).trans (hkb b o q)) (hl.of_keeps fun b o q hn => ?_) ?_ slots
  · obtain ⟨sl, hsl⟩ := slots b o q hn
    exact ⟨_, hsl, rfl⟩
  · exact ⟨oe, T, _, _, (other e (Ne.symm q5)).trans q1, q2, q3, q4, q5, Heap.get?_update_self _ q6 (Obj.isFreed_of_fields (Obj.data_mapFields q7 _)), Obj.data_mapFields q7 _, by simp [h3]⟩
end
/-- the ground under an exception made in a helper's own frame -/
structure Grd (base g : Heap) (env : Env) (outer : List Env) (news : List (Addr × Obj)) (B h : Heap) : Prop where
  st : base.StaysIn B
  sg : ∀ b o, g.get? b = some o → b ∉ outer.filterMap (·.frame) → B.get? b = some o
  nw : ∀ q ∈ news, B.get? q.1 = some q.2 ∧ g.get? q.1 = none ∧ base.get? q.1 = none
  inn : B.StaysIn h
  fr : h.FunFrames B (env :: outer)
  up : g.UpToSlots h
theorem Grd.keeps {base g B h h' : Heap} {env : Env} {outer : List Env} {news : List (Addr × Obj)} (G : Grd base g env outer news B h) (k : ∀ b o, h.get? b = some o → h'.get? b = some o) : Grd base g env outer news B h' :=
  ⟨G.st, G.sg, G.nw, fun b o q => k b o (G.inn b o q), G.fr.of_keeps fun b o q _ => ⟨o, k b o q, rfl⟩, G.up.trans (Heap.UpToSlots.of_keeps k)⟩
section
variable {prog : Program} {w : World} {A₀ : Around} {E : Value → Shared → Prop} {s' : Shared} {base g h : Heap} {outer : List Env} {L a e : Addr} {m : Str → Option Value} {name : Str} {scope : Scope} {cd : Value}
  {b₀ : Stmt} {suite : List Stmt} {pos np : Pos} {rest : List ExceptHandler} {Q : Flow → Shared → Prop} {news : List (Addr × Obj)} {KF : Frag} {p : Program} {loose : List Str} {mean : ExcName → Option Value} {mg mb : Str → Option Value} {x : Str} {X T' : String}
theorem caught_own0 (hx : Heap.NewExc h s'.heap e X) (F : Fr g L h m) (N : News g L h news) (K : Below A₀ base outer g) (XB : KF.In base) (TB : Top p loose mean mg mb base)
    (ex : nsIn KF mainGlobals x = some none) (hv : bootBuiltins x = some (.type T')) (hn' : x ≠ "__name__")
    (hexc : isSubtype (.type T') (.type "BaseException") = pure true) (hnt : isSubtype (.type ((Manifest.find? T').elim "type" fun y => y.metatype)) (.type "tuple") = pure false) (hsub : isSubtype (.type X) (.type T') = pure true)
    (k : ∀ h' g' B, Grd base g (envOf name scope L a cd) outer news B h' → Fr g' L h' m → Below A₀ base outer g' → KF.In g' → Top p loose mean mg mb g' → (∃ ob vs, h'.get? e = some ob ∧ ob.data = .fields vs ∧ vs[2]? = some .none) →
      wpAny (model prog w) ((A₀.deeper (envOf name scope L a cd)).mark (some (.ref e))) (execs (b₀ :: suite) (envOf name scope L a cd)) Q E { s' with heap := h' })
    (hk : scope.kind = .function := by rfl) (hx' : (envOf name scope L a cd).kindOf x = some .globalImplicit := by rfl) (hd : (x == ("__debug__" : Str)) = false := by decide)
    (hE : PassesOwnAt (model prog w) ((A₀.deeper (envOf name scope L a cd)).mark (some (.ref e))) (A₀.deeper (envOf name scope L a cd)) (envOf name scope L a cd) E := by passes_own) :
    wpAny (model prog w) (A₀.deeper (envOf name scope L a cd)) (noteFrame (.ref e) (envOf name scope L a cd))
      (fun _ s₂ => wpAny (model prog w) (A₀.deeper (envOf name scope L a cd)) (setFlight (.ref e) none) (fun _ s₃ =>
        wpAny (model prog w) (A₀.deeper (envOf name scope L a cd)) (handleBy (.ref e) (envOf name scope L a cd) (.ExceptHandler (some (.Name x np)) none (b₀ :: suite) pos :: rest)) Q E s₃) E s₂) E s' := by
  have K' := K.push (name := name) (a := a) (cd := cd) F hk
  have hin : ∀ env ∈ (envOf name scope L a cd :: outer), ∀ b, env.frame = some b → b ∈ (envOf name scope L a cd :: outer).filterMap (·.frame) := fun env he b hb => List.mem_filterMap.mpr ⟨env, he, hb⟩
  obtain ⟨B, hB⟩ : ∃ B, B = hideAll h ((envOf name scope L a cd :: outer).filterMap (·.frame)) := ⟨_, rfl⟩
  have Bh : ∀ b o, B.get? b = some o → h.get? b = some o := fun b o q => of_hideAll _ (hB ▸ q)
  have hBg : ∀ b o, h.get? b = some o → b ∉ (envOf name scope L a cd :: outer).filterMap (·.frame) → B.get? b = some o := fun b o q hn => hB ▸ hideAll_get _ q hn
  have frB : h.FunFrames B (envOf name scope L a cd :: outer) := hB ▸ funFrames_hide K'.frames hin
  have G0 : Grd base g (envOf name scope L a cd) outer news B s'.heap := by
    refine ⟨fun b o q => hBg b o (K'.stays b o q) fun hm => ?_, fun b o q hn => hBg b o (F.keep b o q) fun hm => ?_, fun q hq => ⟨hBg _ _ (N q hq).1 fun hm => ?_, (N q hq).2.2, fresh_of_stays K.stays (N q hq).2.2⟩, fun b o q => hx.keeps b o (Bh b o q), frB.of_keeps fun b o q _ => ⟨o, hx.keeps b o q, rfl⟩, (Heap.UpToSlots.of_keeps F.keep).trans (Heap.UpToSlots.of_keeps hx.keeps)⟩
    · rw [(K'.frames.mem hm).1] at q
      cases q
    · rcases kts_mem hm with z | z
      · rw [z, kts_self F] at q
        cases q
      · exact hn z
    · rcases kts_mem hm with z | z
      · exact (N q hq).2.1 z
      · obtain ⟨o, ho, _⟩ := (K.frames.mem z).2
        rw [(N q hq).2.2] at ho
        cases ho
  obtain ⟨ob, tp, he, hcls, hdat⟩ := hx.there
  have hen : B.get? e = none := by
    cases q : B.get? e with
    | none => rfl
    | some o => have := Bh _ _ q; rw [hx.new] at this; cases this
  refine note_new (Around.frames_deeper K.stack) G0.fr rfl he G0.inn hen hdat rfl fun h1 i1 f1 S1 u1 => ?_
  rw [hcls] at S1
  refine flight_none i1 f1 S1 (by simp) fun h2 i2 f2 S2 u2 => ?_
  have up2 : h.UpToSlots h2 := (Heap.UpToSlots.of_keeps hx.keeps).trans (u1.trans u2)
  obtain ⟨g₅, T₅, F₅, K₅⟩ := kts_ground (h₅ := h2) K F hBg i2 up2
  have X₅ : KF.In g₅ := XB.keeps K₅.stays
  have P₅ : TopRead p loose mg mb g₅ := topRead_of (TB.keeps K₅.stays)
  have ty : ∃ ob, h2.get? e = some ob ∧ ob.cls = .type X := by
    obtain ⟨oe, _, _, _, q1, q2, _⟩ := S2
    exact ⟨oe, q1, q2⟩
  refine wpAny_handleBy_builtin (X := X) (T := T') (b := true) hexc hnt hsub (name_B F₅ X₅ P₅ ex hv hn' ⟨rfl, ty, ?_⟩ hk hx' hd)
  refine flight_none i2 f2 S2 (by simp) fun h3 i3 f3 S3 u3 => ?_
  obtain ⟨g₆, T₆, F₆, K₆⟩ := kts_ground (h₅ := h3) K F hBg i3 (up2.trans u3)
  obtain ⟨oe, T, _, _, q1, q2, q3, _⟩ := S3
  exact wpAny_passesOwnAt hE (k h3 g₆ B ⟨G0.st, G0.sg, G0.nw, i3, f3, G0.up.trans (u1.trans (u2.trans u3))⟩ F₆ K₆ (XB.keeps K₆.stays) (TB.keeps K₆.stays) ⟨oe, _, q1, q3, by rfl⟩)
end
/-- an AttributeError that has left its frame -/
structure Gone (base g : Heap) (outer : List Env) (e : Addr) (news : List (Addr × Obj)) (B h : Heap) : Prop where
  raised : RaisedSN base g outer e (.type "AttributeError") news h
  up : g.UpToSlots h
  shape : ∃ vs, Sh h B e (.type "AttributeError") vs .none ∧ vs.size = 8 ∧ vs[6]? = some (rawInt 0) ∧ vs[7]? = some (rawInt 0)
section
variable {M : Model} {A₀ : Around} {E : Value → Shared → Prop} {s' : Shared} {base g B h : Heap} {outer : List Env} {L a e : Addr} {name : Str} {scope : Scope} {cd c : Value} {news : List (Addr × Obj)} {Q : Unit → Shared → Prop}
theorem ae_notTuple : isSubtype (.type ((Manifest.find? "AttributeError").elim "type" fun y => y.metatype)) (.type "tuple") = pure false := by rw [isSubtype_type]; kernel_rfl
theorem leave_attr (K : A₀.frames = some outer) (G : Grd base g (envOf name scope L a cd) outer news B h) (hx : AttrNew h s'.heap e c)
    (k : ∀ h', Gone base g outer e news B h' → Q () { s' with heap := h' }) : wpAny M (A₀.deeper (envOf name scope L a cd)) (leaving (envOf name scope L a cd) (.ref e)) Q E s' := by
  have G1 := G.keeps hx.keeps
  obtain ⟨t, ht⟩ := hx.there
  have hen : B.get? e = none := by
    cases q : B.get? e with
    | none => rfl
    | some o => have := G.inn _ _ q; rw [hx.new] at this; cases this
  unfold leaving
  refine wpAny_bind (note_new (Around.frames_deeper K) G1.fr rfl ht G1.inn hen rfl rfl fun h1 i1 f1 S1 u1 => ?_)
  refine flight_none i1 f1 S1 (by simp) fun h2 i2 f2 S2 u2 => ?_
  exact k h2 ⟨⟨B, .ref t, G.st, G.sg, G.nw, S2.flying rfl (by simp) i2 hen f2.2.2⟩, G1.up.trans (u1.trans u2), _, S2, rfl, rfl, rfl⟩
theorem note_if {o nm : Value} (hG : Gone base g outer e news B s'.heap) (k : ∀ h', RaisedSN base g outer e (.type "AttributeError") news h' → RaisedN base outer e (.type "AttributeError") news h' → g.UpToSlots h' → Q () { s' with heap := h' }) :
    wpAny M A₀ (noteIf true o nm (.ref e)) Q E s' := by
  obtain ⟨⟨B', a0, st, sg, nw, fl⟩, up, vs, S, z0, z6, z7⟩ := hG
  obtain ⟨oe, T, oT, ts, q1, q2, q3, q4, q5, q6, q7, q8⟩ := S
  show wpAny M A₀ (noteAttr (.ref e) o nm) Q E s'
  unfold noteAttr lacksNameAndObj
  dsimp only
  have sz : (vs.setIfInBounds 1 (.ref T)).size = 8 := by simpa using z0
  have w6 : (vs.setIfInBounds 1 (.ref T))[6]? = some (rawInt 0) := by rw [Array.getElem?_setIfInBounds_ne (by decide)]; exact z6
  have w7 : (vs.setIfInBounds 1 (.ref T))[7]? = some (rawInt 0) := by rw [Array.getElem?_setIfInBounds_ne (by decide)]; exact z7
  generalize hW : vs.setIfInBounds 1 (.ref T) = W at q3 sz w6 w7
  refine wpAny_bind (wpAny_bind (wpAny_isInstance (T := "AttributeError") ⟨oe, q1, q2⟩ sub_AttributeError ?_))
  rw [if_neg (by simp)]
  refine wpAny_bind (wpAny_load q1 ?_)
  rw [q3]
  dsimp only
  rw [if_neg (by rw [w6, w7]; simp [rawInt])]
  rw [if_neg (by rw [w6, w7]; simp [rawInt, doubtfulMember])]
  refine wpAny_pure ?_
  rw [if_pos rfl]
  refine wpAny_bind (wpAny_rule ?_)
  refine wpAny_bind (wpAny_typeOf ⟨oe, q1, q2⟩ ?_)
  dsimp only
  refine wpAny_layMembers q1 q3 ?_
  have other : ∀ b, b ≠ e → (s'.heap.update e (Obj.mapFields fun vs => vs.extract 0 6 ++ #[nm, o])).get? b = s'.heap.get? b := fun b hb => Heap.get?_update_other _ _ (Ne.symm hb)
  have slots : s'.heap.UpToSlots (s'.heap.update e (Obj.mapFields fun vs => vs.extract 0 6 ++ #[nm, o])) := fun b ob q hn => ⟨ob.slots, (other b fun z => by
    rw [z, q1] at q
    cases q
    exact hn _ q3).trans q⟩
  obtain ⟨i1, i2, i3, oe', vs', T', oT', ts', p1, p2, p3, p4, p5, p6, p7, p8, p9⟩ := fl
  have eo : oe' = oe := Option.some.inj (p1.symm.trans q1)
  subst eo
  have ev : vs' = W := by have := p3.symm.trans q3; injection this
  subst ev
  have low : ∀ i, i < 6 → (vs'.extract 0 6 ++ #[nm, o])[i]? = vs'[i]? := fun i hi => by
    have hb : i < (vs'.extract 0 6).size := by rw [Array.size_extract, sz]; omega
    rw [Array.getElem?_append_left hb, Array.getElem?_eq_getElem hb, Array.getElem_extract, Array.getElem?_eq_getElem (by omega)]
    congr 2
    omega
  have R : RaisedSN base g outer e (.type "AttributeError") news (s'.heap.update e (Obj.mapFields fun vs => vs.extract 0 6 ++ #[nm, o])) := by
    refine ⟨B', a0, st, sg, nw, fun b ob q => (other b fun z => by rw [z, i2] at q; cases q).trans (i1 b ob q), i2, i3.of_keeps fun b ob q hn => ?_, _, _, T', oT', ts', Heap.get?_update_self _ q1 (Obj.isFreed_of_fields (Obj.data_mapFields q3 _)), ⟨(Obj.cls_mapFields _ _).trans q2, ?_⟩, Obj.data_mapFields q3 _, ?_, p5, p6, (other _ p6).trans p7, p8, p9⟩
    · obtain ⟨sl, hsl⟩ := slots b ob q hn
      exact ⟨_, hsl, rfl⟩
    · exact (low 0 (by decide)).trans p2.2
    · exact (low 1 (by decide)).trans p4
  exact k _ R R.toN (up.trans slots)
end
end Mine

end

/-! part Miss -/
section
open PySem PySem.W PySem.Calls PyProof.Rows
local macro_rules | `(tactic| walk_at "getAttr ref") => `(tactic| (k_here; k_dflt (first
  | (refine' Mine.own_h ?k1 ?k2 ?k3 ?k4 ?k5 ?k6 ?k7 ?k8 ?k9 ?_; (case k1 => k_asm); (case k2 => k_asm); (case k3 => k_inst); (case k4 => k_is); (case k5 => k_is); (case k6 => k_is); (case k7 => k_is); (case k8 => first | assumption | k_get); (case k9 => k_handed); k_whole)
  | (refine' Mine.prop_h ?k1 ?k2 ?k3 ?k4 ?k10 ?k5 ?k6 ?k7 ?k8 ?k9 ?_; (case k1 => k_asm); (case k2 => k_asm); (case k3 => k_inst); (case k4 => k_is); (case k10 => k_is); (case k5 => k_is); (case k6 => k_is); (case k7 => k_is); (case k8 => k_is); (case k9 => k_is); k_whole; k_enter)
  | (refine' Mine.bound_h ?k1 ?k2 ?k3 ?k4 ?k5 ?k10 ?k6 ?k7 ?k8 ?k9 ?k11 ?k12 ?k13 ?_; (case k4 => k_inst); (case k1 => k_asm); (case k2 => k_asm); (case k7 => k_is); (case k3 => k_asm); (case k5 => k_is); (case k10 => k_is); (case k6 => k_is); (case k8 => k_is); (case k9 => k_is); (case k11 => k_is); (case k12 => decide +kernel); (case k13 => first | assumption | k_get); k_whole; intro q' h' F' N' l1; (try k_lt l1); (try k_sweep)))))
local macro_rules | `(tactic| walk_at "getMethod ref") => `(tactic| (k_here; k_dflt (refine' Mine.method_h ?k1 ?k2 ?k3 ?k4 ?k5 ?_; (case k1 => k_asm); (case k2 => k_asm); (case k3 => k_inst); (case k4 => k_is); (case k5 => k_is); k_whole)))
local macro_rules | `(tactic| size_fits) => `(tactic| first | ((try simp only [List.size_toArray, Array.size_push, List.push_toArray, List.length_append, List.length_cons, List.length_nil]); (simp only [PySem.sizeLine_eq]); omega) | fail "size_fits: mine")
local macro_rules | `(tactic| walk_at "my_keeps") => `(tactic| (intro z hz; (obtain ⟨i1, i2, i3, i4, i5, i6⟩ := Mine.idle_ne hz); first | rfl | ((refine Eq.trans ?_ (congrFun (by assumption : (_ : Str → Option Value) = _) z)); (try simp only [i1, i2, i3, i4, i5, i6, if_false]); done)))
local macro_rules | `(tactic| walk_at "my_expose") => `(tactic| ((have e1 := (rfl : Mine.lawScope = Mine.lawScope)); (conv at e1 => rhs; whnf); (dsimp only at e1); (conv in (Mine.turnAt _) => whnf); (rw [e1]); clear e1))
local macro_rules | `(tactic| walk_at "my_lt") => `(tactic| first | assumption | exact Mine.allLt_to (by assumption) | (refine List.forall_mem_cons.mpr ⟨by (dsimp only; omega), ?_⟩; walk_at "my_lt"))
local macro_rules | `(tactic| walk_at "my_keepsP") => `(tactic| (intro z hz hp9; (obtain ⟨i1, i2, i3, i4, i5, i6⟩ := Mine.idle_ne hz); first | rfl | ((refine Eq.trans ?_ (congrFun (by assumption : (_ : Str → Option Value) = _) z)); (try simp only [i1, i2, i3, i4, i5, i6, hp9, if_false]); done)))
local macro_rules | `(tactic| walk_at "getAttr ref") => `(tactic| (k_here; (with_reducible show wpAny _ _ (getAttr (Value.ref _) (PySem.Str.ofString "data") _) _ _ _); k_dflt (refine' Mine.data_get ?k1 ?k2 ?k3 ?k4 ?k5 ?k6 ?k7 ?_; (case k1 => k_asm); (case k2 => k_asm); (case k3 => k_asm); (case k4 => k_mem); (case k5 => k_mem); (case k6 => k_asm); (case k7 => first | assumption | (unfold Mine.IsCls; decide)); k_whole)))
local macro_rules | `(tactic| walk_at "my_len") => `(tactic| first | omega | ((try simp only [List.length_append, List.length_cons, List.length_nil, List.length_set, List.length_dropLast, List.length_drop]); omega))
local macro_rules | `(tactic| walk_at "call builtin:len") => `(tactic| (k_here; (with_reducible show wpAny _ _ (call (Value.builtin "len") [Value.ref _]) _ _ _); k_dflt (refine' Mine.len_n ?a ?b ?c ?_; (case a => k_asm); (case b => k_mem); (case c => walk_at "my_len"); k_whole)))
local macro_rules | `(tactic| walk_at "call builtin:list.append") => `(tactic| (k_here; (with_reducible show wpAny _ _ (call (Value.builtin _) [Value.ref _, _]) _ _ _); k_dflt (refine' Mine.append_n ?a ?b ?c ?d ?_; (case a => k_asm); (case b => k_asm); (case c => k_upd); (case d => walk_at "my_len"); k_whole); intro h' F' N'; (try k_sweep)))
local macro_rules | `(tactic| walk_at "call builtin:list.pop") => `(tactic| (k_here; (with_reducible show wpAny _ _ (call (Value.builtin _) [Value.ref _]) _ _ _); k_dflt (refine' Mine.pop_n ?a ?b ?c ?d ?e ?_; (case a => k_asm); (case b => k_asm); (case c => k_upd); (case d => walk_at "my_len"); (case e => walk_at "my_len"); k_whole); intro h' y' F' N'; (try k_sweep)))
local macro_rules | `(tactic| walk_at "setItem ref int") => `(tactic| (k_here; (with_reducible show wpAny _ _ (setItem (Value.ref _) (Value.int _ _) _) _ _ _); k_dflt (refine' Mine.set_n ?a ?b ?c ?d ?e ?f ?_; (case a => k_asm); (case b => k_asm); (case c => k_upd); (case d => first | omega | exact Int.fmod_nonneg_of_pos _ (by omega)); (case e => first | (refine Int.lt_of_lt_of_le (Int.fmod_lt_of_pos _ (by omega)) ?_; walk_at "my_len") | walk_at "my_len"); (case f => walk_at "my_len"); k_whole); intro h' F' N'; (try k_sweep)))
local macro_rules | `(tactic| walk_at "subscriptTail Name Slice ref ref") => `(tactic| (k_here; (with_reducible show wpAny _ _ (subscriptTail _ (PySem.Expr.Slice _ _ none _) (Value.ref _) (Value.ref _)) _ _ _); k_dflt (refine' kms_slice_lit ?F ?N ?l ?p ?q ?e ?_ ?s ?t ?z; (case F => k_asm); (case N => k_asm); (case l => exact PyProof.Rows.News.isList (by k_asm) (by k_mem)); (case p => kmk_part); (case q => kmk_part); (case e => first | exact Mine.pick_from _ | exact Mine.pick_all _); (case s => with_unfolding_all rfl); (case t => kmk_pure); (case z => ((simp only [List.size_toArray, PySem.sizeLine_eq]); omega))); intro D' h' F' N' l1; (try k_lt l1); (try dsimp only at F' N'); (try dsimp only); (try k_sweep)))
local macro_rules | `(tactic| walk_at "subscriptTail") => `(tactic| (k_here; (with_reducible show wpAny _ _ (subscriptTail _ _ (Value.ref _) (Value.int _ _)) _ _ _); k_dflt (refine' Mine.item_n ?a ?b ?c ?d ?e ?_; (case a => k_asm); (case b => k_mem); (case e => first | assumption | with_unfolding_all assumption); (case c => first | omega | exact Int.fmod_nonneg_of_pos _ (by omega)); (case d => first | omega | (refine Int.lt_trans (Int.fmod_lt_of_pos _ (by omega)) ?_; omega)); k_whole)))
local macro_rules | `(tactic| walk_at "subscriptTail Name Name ref int") => `(tactic| (k_here; (with_reducible show wpAny _ _ (subscriptTail _ _ (Value.ref _) (Value.int _ _)) _ _ _); k_dflt (refine' Mine.item_n ?a ?b ?c ?d ?e ?_; (case a => k_asm); (case b => k_mem); (case e => first | assumption | with_unfolding_all assumption); (case c => first | omega | exact Int.fmod_nonneg_of_pos _ (by omega)); (case d => first | omega | (refine Int.lt_trans (Int.fmod_lt_of_pos _ (by omega)) ?_; omega)); k_whole)))
local macro_rules | `(tactic| walk_at "getAttr ref") => `(tactic| (k_here; (with_reducible show wpAny _ _ (getAttr (Value.ref _) (PySem.Str.ofString "waypoint_list") _) _ _ _); k_dflt (refine' Mine.wl_get ?k1 ?k2 ?B ?F ?N ?hk ?hd ?t ?d ?a ?D ?v ?w ?_; (case k1 => k_asm); (case k2 => k_asm); (case B => k_asm); (case F => k_asm); (case N => k_asm); (case hk => first | rfl | assumption); (case hd => first | decide | omega | ktr_room); (case t => k_mem); (case d => k_mem); (case D => k_asm); (case a => k_mem); (case v => walk_at "my_len"); (case w => assumption)); intro D' h' tk' F' N' l1; (try k_lt l1); (try dsimp only at F' N'); (try dsimp only); (try k_sweep)))
local macro_rules | `(tactic| walk_at "eval DictComp") => `(tactic| (k_here; with_unfolding_all refine' Mine.dictcomp_k ?a ?b ?c ?d ?e ?_; (case a => with_unfolding_all rfl); (case b => with_unfolding_all rfl); (case c => decide); (case d => (intro _; rfl)); (case e => rfl); (try dsimp only)))
local macro_rules | `(tactic| walk_at "call type:enumerate") => `(tactic| (k_here; (first
  | ((with_reducible show wpAny _ _ (call (Value.type "enumerate") [Value.ref 249]) _ _ _); (with_unfolding_all refine' Mine.comp_call (names := Mine.namesL) ?hh ?F ?N (Mine.fields_rte ?K).1 ?l ?z Mine.namesL_nodup (Mine.fields_rte ?K).2 ?c ?k ?f ?g ?n ?o ?p ?_))
  | ((with_reducible show wpAny _ _ (call (Value.type "enumerate") [Value.ref 99]) _ _ _); (with_unfolding_all refine' Mine.comp_call (names := []) ?hh ?F ?N (Mine.fields_base ?K).1 ?l ?z List.nodup_nil (Mine.fields_base ?K).2 ?c ?k ?f ?g ?n ?o ?p ?_))); (case K => k_asm); (case F => k_asm); (case N => k_asm); (case hh => with_unfolding_all rfl); (case l => rfl); (case z => decide); (case c => decide); (case k => rfl); (case f => with_unfolding_all rfl); (case g => with_unfolding_all rfl); (case n => decide); (case o => decide); (case p => decide); intro D' kvs' h' tk' hlt' F' N' hd' hkv'; (try k_sweep)))
local macro_rules | `(tactic| walk_at "subscriptTail") => `(tactic| (k_here; (with_reducible show wpAny _ _ (subscriptTail _ _ (Value.ref _) (Value.str _ _)) _ _ _); (rename Mine.Kvs _ _ => hkv9); (rename Heap.DictOf _ _ _ _ => hd9); (obtain ⟨t9, hv9⟩ := Mine.Kvs.valueAt hkv9 Mine.namesL_nodup (by assumption)); k_dflt (refine' Mine.item_kvs hd9 hv9 ?_; k_whole); clear hv9 hkv9 hd9))
local macro_rules | `(tactic| walk_at "setItem ref int") => `(tactic| (k_here; (with_reducible show wpAny _ _ (setItem (Value.ref _) (Value.int _ _) _) _ _ _); k_dflt (refine' Mine.setItem_oob ?a ?b ?c ?d ?e ?_; (case a => with_unfolding_all rfl); (case b => exact PyProof.Rows.News.isList (by k_asm) (by k_mem)); (case c => omega); (case d => omega); (case e => ((simp only [List.size_toArray]); omega)); k_whole); intro h' tk' e' hexc'))
local macro_rules | `(tactic| walk_at "call builtin:str.join") => `(tactic| (k_here; (with_reducible show wpAny _ _ (call (Value.builtin _) [Value.str _ _, Value.ref _]) _ _ _); k_dflt (refine' Mine.join_n ?a ?b ?c ?d ?e ?_; (case a => k_asm); (case b => k_mem); (case c => assumption); (case d => decide); (case e => assumption); k_whole); intro t9 k9))
local macro_rules | `(tactic| walk_at "binaryOp Add str str") => `(tactic| (k_here; (with_reducible show wpAny _ _ (binaryOp Operator.Add (Value.str _ _) (Value.str _ _)) _ _ _); k_dflt (refine' Mine.add_n ?a ?b ?_; (case a => decide +kernel); (case b => assumption); k_whole); intro t9 k9))
local macro_rules | `(tactic| walk_at "subscriptTail Name Name ref int") => `(tactic| (k_here; (with_reducible show wpAny _ _ (subscriptTail _ _ (Value.ref 284) (Value.int _ _)) _ _ _); k_dflt (refine' Mine.head_get ?a ?b ?c ?d ?_; (case a => k_asm); (case b => k_asm); (case c => decide); (case d => decide); k_whole); intro t9))
local macro_rules | `(tactic| walk_at "call ref") => `(tactic| (k_here; (with_reducible show wpAny _ _ (call (Value.ref 314) _) _ _ _); k_dflt (refine wpAny_call ?_; kts_go)))
local macro_rules | `(tactic| walk_at "exec Raise some none") => `(tactic| (k_here; (with_reducible show wpAny _ _ (exec (Stmt.Raise (some (Expr.Name ("NotImplementedError" : Str) _)) none _) _) _ _ _); (with_reducible rename Fr _ _ _ _ => kF); k_dflt (refine' Raise_classB ?hh excClass_NotImplementedError ?hself ?hx ?_; (case hh => rfl); (case hself => (rw [isSubtype_type]; kernel_rfl)); (case hx => (refine' name_B kF ?k1 ?k2 ?k3 ?k4 ?k5 ?_; (case k1 => k_asm); (case k2 => k_asm); (case k3 => k_is); (case k4 => boot_by_name); (case k5 => decide); exact ⟨rfl, rfl⟩))); intro h' e' hexc'))
local macro_rules | `(tactic| walk_at "exec For Name Call cons nil") => `(tactic| (k_here; (with_reducible show wpAny _ _ (exec (Stmt.For (Expr.Name ("way" : Str) _) _ _ _ _) _) _ _ _); (with_unfolding_all refine' Mine.for_K (n := 3) (b := 3) ?F ?N ?B ?X ?T ?D ?k1 ?k2 ?k3 ?k4 ?k5 ?_; (case F => k_asm); (case N => k_asm); (case B => k_asm); (case X => assumption); (case T => assumption); (case D => assumption); (case k1 => rfl); (case k2 => rfl); (case k3 => rfl); (case k4 => decide); (case k5 => rfl))))
local macro_rules | `(tactic| walk_at "RangeMade") => `(tactic| (refine' ⟨_, _, _, _, rfl, ?a, ?b, ?c, ?_⟩; (case a => assumption); (case b => k_asm); (case c => k_asm); intro I' h' l1; (try k_lt l1)))
local macro_rules | `(tactic| walk_at "RestT") => `(tactic| ((with_unfolding_all first | (refine Mine.RestT.succ ?_; intro g' t' h' tk' hC' F' N') | (refine Mine.RestT.zero ?_; intro g' h' tk' hC' F' N')); (obtain ⟨kT', kB', kX', kP', kD'⟩ := hC'); (try dsimp only)))
local macro_rules | `(tactic| walk_at "TurnEnd") => `(tactic| (k_dflt (refine' Mine.turn_end (o1 := instObj 155 _) (o2 := dictOf [] 0) (o3 := listOf _ _) ?F ?N ?T ?B ?X ?P ?D ?m1 ?m2 ?m3 ?mn ?hI ?hn ?_; (case F => k_asm); (case N => k_asm); (case T => first | assumption | exact KtsTurn.refl); (case B => assumption); (case X => assumption); (case P => assumption); (case D => assumption); (case m1 => k_mem); (case m2 => k_mem); (case m3 => k_mem); (case hn => assumption); (case mn => (intro p9 hp9; (repeat (first | exact hp9 | refine List.Mem.tail _ ?_)))); (case hI => k_mem); k_whole)))
local macro_rules | `(tactic| walk_at "subscriptTail Name Name ref str") => `(tactic| (k_here; (with_reducible show wpAny _ _ (subscriptTail _ _ (Value.ref _) (Value.str _ _)) _ _ _); (rename Mine.Kvs [] _ => hkv9); k_dflt (refine' Mine.item_miss (ft := 99) ?a hkv9 ?c ?d ?e ?_; (case a => assumption); (case c => assumption); (case d => decide); (case e => with_unfolding_all rfl); k_whole); intro h' e' hexc'; clear hkv9))
local macro_rules | `(tactic| walk_at "getAttr ref") => `(tactic| (k_here; (with_reducible show wpAny _ _ (getAttr (Value.ref _) ("data" : Str) _) _ _ _); k_dflt (refine' Mine.miss_h (C := 155) (f := 125) ?k1 ?k2 ?k3 ?k4 ?k5 ?k6 ?k7 ?_; (case k3 => k_inst); (case k1 => k_asm); (case k2 => k_asm); (case k4 => k_is); (case k5 => (refine Mine.findObj_none ?h1 ?h2 ?h3 ?h4; (case h1 => k_is); (case h2 => k_is); (case h3 => decide +kernel); (case h4 => rfl))); (case k6 => k_is); (case k7 => k_is); k_whole)))
local macro_rules | `(tactic| walk_at "call ref") => `(tactic| (k_here; (with_reducible show wpAny _ _ (call (Value.ref 125) _) _ _ _); k_dflt (refine wpAny_call ?_; refine' code_defS ?k1 ?k2 ?k3 ?k4 ?k5 ?XB ?TB ?D ?T0 ?kA ?k6 ?k7 ?k8 ?k9 ?kB ?_ ?cK ?c2 ?c3 ?c4 ?c5; (case kA => exact rfl); (case k2 => k_asm); (case k1 => k_asm); (case XB => assumption); (case TB => assumption); (case D => assumption); (case T0 => first | assumption | exact KtsTurn.refl); (case k3 => k_asm); (case k4 => k_asm); (case k5 => k_asm); (case k6 => k_is); (case k7 => k_is); (case k8 => exact Nat.lt_of_le_of_lt (Nat.le_add_right _ _) (by assumption)); (case k9 => exact BindsTo.of_eq rfl); (case kB => exact locs rfl); (case cK => assumption); (case c2 => exact rfl); (case c3 => exact rfl); (case c4 => exact rfl); (case c5 => decide); k_whole; intro g' L' h' FG' F' N' B' X' T' D'; (try dsimp only); (try k_fold))))
local macro_rules | `(tactic| walk_at "noteFrame ref") => `(tactic| (k_here; (with_reducible show wpAny _ _ (noteFrame _ _) (fun _ s₂ => wpAny _ _ (setFlight _ none) (fun _ s₃ => wpAny _ _ (handleBy _ _ (ExceptHandler.ExceptHandler (some (Expr.Name ("KeyError" : Str) _)) none _ _ :: _)) _ _ s₃) _ s₂) _ _); k_dflt (refine' Mine.caught_own0 (X := "KeyError") (T' := "KeyError") ?hx ?F ?N ?K ?XB ?TB ?ex PyProof.Rows.Boot.«KeyError» ?hn kr_isExc_KeyError kr_notTuple_KeyError ?hs ?_; (case hx => assumption); (case F => assumption); (case N => k_asm); (case K => assumption); (case XB => assumption); (case TB => assumption); (case hs => kts_sub); (case ex => k_is); (case hn => decide); k_whole); intro h' g' B' G9 F' K' X' P' S9))
local macro_rules | `(tactic| walk_at "exec Raise some none") => `(tactic| (k_here; (with_reducible show wpAny _ _ (exec (Stmt.Raise (some (Expr.Call (Expr.Name ("AttributeError" : Str) _) _ _ _)) none _) _) _ _ _); k_dflt (refine' Mine.Raise_on ?hh ?_; (case hh => rfl); k_whole)))
local macro_rules | `(tactic| walk_at "OnNext") => `(tactic| (refine ⟨by assumption, ?_⟩; intro h' e' A9))
local macro_rules | `(tactic| walk_at "leaving ref") => `(tactic| (k_here; (with_reducible rename Mine.AttrNew _ _ _ _ => kA9); k_dflt (refine' Mine.leave_attr ?K ?G kA9 ?_; (case G => assumption); (case K => exact Below.stack (by assumption)); k_whole); intro h' G9))
local macro_rules | `(tactic| walk_at "noteIf") => `(tactic| (k_here; k_dflt (refine' Mine.note_if ?G ?_; (case G => assumption); k_whole); intro h' S' R' U'))
namespace Mine
structure Halt (p : Prop) : Prop where
  out : p
/-- b.data of the bare sentence: an AttributeError -/
theorem data_miss {w : World} {mean : ExcName → Option Value} {mg mb : Str → Option Value} {base g : Heap} (KX : (hd.heap_39 w.params).In base) (T : Top hd.view_39 loosesW mean mg mb base)
  {dp un : Nat} {gd : Option (List Code)} {cn : Str} {cs : Scope} {fa : Addr} {ccd : Value} {outer : List Env} {A₀ : Around} {L : Addr} {m : Str → Option Value} {news : List (Addr × Obj)} {s : Shared}
  {Q E : Value → Shared → Prop} {x d n : Nat} {expr : Bool}
  (X : (hd.heap_39 w.params).In g) (P : Top hd.view_39 loosesW mean mg mb g) (B : Below A₀ base outer g) (D : KtsDicts (outer.filterMap (·.frame)) g) (F : Fr g L s.heap m) (N : News g L s.heap news) (hk : cs.kind = .function) (hdp : dp + 3 < recursionLimit)
  (hx : (x, instObj 155 d) ∈ news) (hdd : (d, dictOf [] n) ∈ news)
  (ret : ∀ e G h' tk, Fr g L G m → RaisedSN base G (envOf cn cs L fa ccd :: outer) e (.type "AttributeError") news h' → RaisedN base (envOf cn cs L fa ccd :: outer) e (.type "AttributeError") news h' → G.UpToSlots h' → E (.ref e) { s with heap := h', toks := tk }) :
  wpAny (model PySem.Challenge.rw_dg5010_01.row.prog w) ({ handled := none, depth := dp, frames := some (envOf cn cs L fa ccd :: outer), guards := gd, units := un } : Around) (getAttr (.ref x) (Str.ofString "data") expr) Q E s := by
  revert KX X
  k_fill
  intro KX X
  k_steps
  rename RaisedSN _ _ _ _ _ _ _ => S9
  rename RaisedN _ _ _ _ _ _ => R9
  rename Heap.UpToSlots _ _ => U9
  exact ret _ _ _ _ (by assumption) S9 R9 U9
end Mine

end

/-! part Rz -/
section
open PySem PySem.W PySem.Calls PyProof.Rows
local macro_rules | `(tactic| walk_at "getAttr ref") => `(tactic| (k_here; k_dflt (first
  | (refine' Mine.own_h ?k1 ?k2 ?k3 ?k4 ?k5 ?k6 ?k7 ?k8 ?k9 ?_; (case k1 => k_asm); (case k2 => k_asm); (case k3 => k_inst); (case k4 => k_is); (case k5 => k_is); (case k6 => k_is); (case k7 => k_is); (case k8 => first | assumption | k_get); (case k9 => k_handed); k_whole)
  | (refine' Mine.prop_h ?k1 ?k2 ?k3 ?k4 ?k10 ?k5 ?k6 ?k7 ?k8 ?k9 ?_; (case k1 => k_asm); (case k2 => k_asm); (case k3 => k_inst); (case k4 => k_is); (case k10 => k_is); (case k5 => k_is); (case k6 => k_is); (case k7 => k_is); (case k8 => k_is); (case k9 => k_is); k_whole; k_enter)
  | (refine' Mine.bound_h ?k1 ?k2 ?k3 ?k4 ?k5 ?k10 ?k6 ?k7 ?k8 ?k9 ?k11 ?k12 ?k13 ?_; (case k4 => k_inst); (case k1 => k_asm); (case k2 => k_asm); (case k7 => k_is); (case k3 => k_asm); (case k5 => k_is); (case k10 => k_is); (case k6 => k_is); (case k8 => k_is); (case k9 => k_is); (case k11 => k_is); (case k12 => decide +kernel); (case k13 => first | assumption | k_get); k_whole; intro q' h' F' N' l1; (try k_lt l1); (try k_sweep)))))
local macro_rules | `(tactic| walk_at "getMethod ref") => `(tactic| (k_here; k_dflt (refine' Mine.method_h ?k1 ?k2 ?k3 ?k4 ?k5 ?_; (case k1 => k_asm); (case k2 => k_asm); (case k3 => k_inst); (case k4 => k_is); (case k5 => k_is); k_whole)))
local macro_rules | `(tactic| size_fits) => `(tactic| first | ((try simp only [List.size_toArray, Array.size_push, List.push_toArray, List.length_append, List.length_cons, List.length_nil]); (simp only [PySem.sizeLine_eq]); omega) | fail "size_fits: mine")
local macro_rules | `(tactic| walk_at "my_keeps") => `(tactic| (intro z hz; (obtain ⟨i1, i2, i3, i4, i5, i6⟩ := Mine.idle_ne hz); first | rfl | ((refine Eq.trans ?_ (congrFun (by assumption : (_ : Str → Option Value) = _) z)); (try simp only [i1, i2, i3, i4, i5, i6, if_false]); done)))
local macro_rules | `(tactic| walk_at "my_expose") => `(tactic| ((have e1 := (rfl : Mine.lawScope = Mine.lawScope)); (conv at e1 => rhs; whnf); (dsimp only at e1); (conv in (Mine.turnAt _) => whnf); (rw [e1]); clear e1))
local macro_rules | `(tactic| walk_at "my_lt") => `(tactic| first | assumption | exact Mine.allLt_to (by assumption) | (refine List.forall_mem_cons.mpr ⟨by (dsimp only; omega), ?_⟩; walk_at "my_lt"))
local macro_rules | `(tactic| walk_at "my_keepsP") => `(tactic| (intro z hz hp9; (obtain ⟨i1, i2, i3, i4, i5, i6⟩ := Mine.idle_ne hz); first | rfl | ((refine Eq.trans ?_ (congrFun (by assumption : (_ : Str → Option Value) = _) z)); (try simp only [i1, i2, i3, i4, i5, i6, hp9, if_false]); done)))
local macro_rules | `(tactic| walk_at "getAttr ref") => `(tactic| (k_here; (with_reducible show wpAny _ _ (getAttr (Value.ref _) (PySem.Str.ofString "data") _) _ _ _); k_dflt (refine' Mine.data_get ?k1 ?k2 ?k3 ?k4 ?k5 ?k6 ?k7 ?_; (case k1 => k_asm); (case k2 => k_asm); (case k3 => k_asm); (case k4 => k_mem); (case k5 => k_mem); (case k6 => k_asm); (case k7 => first | assumption | (unfold Mine.IsCls; decide)); k_whole)))
local macro_rules | `(tactic| walk_at "my_len") => `(tactic| first | omega | ((try simp only [List.length_append, List.length_cons, List.length_nil, List.length_set, List.length_dropLast, List.length_drop]); omega))
local macro_rules | `(tactic| walk_at "call builtin:len") => `(tactic| (k_here; (with_reducible show wpAny _ _ (call (Value.builtin "len") [Value.ref _]) _ _ _); k_dflt (refine' Mine.len_n ?a ?b ?c ?_; (case a => k_asm); (case b => k_mem); (case c => walk_at "my_len"); k_whole)))
local macro_rules | `(tactic| walk_at "call builtin:list.append") => `(tactic| (k_here; (with_reducible show wpAny _ _ (call (Value.builtin _) [Value.ref _, _]) _ _ _); k_dflt (refine' Mine.append_n ?a ?b ?c ?d ?_; (case a => k_asm); (case b => k_asm); (case c => k_upd); (case d => walk_at "my_len"); k_whole); intro h' F' N'; (try k_sweep)))
local macro_rules | `(tactic| walk_at "call builtin:list.pop") => `(tactic| (k_here; (with_reducible show wpAny _ _ (call (Value.builtin _) [Value.ref _]) _ _ _); k_dflt (refine' Mine.pop_n ?a ?b ?c ?d ?e ?_; (case a => k_asm); (case b => k_asm); (case c => k_upd); (case d => walk_at "my_len"); (case e => walk_at "my_len"); k_whole); intro h' y' F' N'; (try k_sweep)))
local macro_rules | `(tactic| walk_at "setItem ref int") => `(tactic| (k_here; (with_reducible show wpAny _ _ (setItem (Value.ref _) (Value.int _ _) _) _ _ _); k_dflt (refine' Mine.set_n ?a ?b ?c ?d ?e ?f ?_; (case a => k_asm); (case b => k_asm); (case c => k_upd); (case d => first | omega | exact Int.fmod_nonneg_of_pos _ (by omega)); (case e => first | (refine Int.lt_of_lt_of_le (Int.fmod_lt_of_pos _ (by omega)) ?_; walk_at "my_len") | walk_at "my_len"); (case f => walk_at "my_len"); k_whole); intro h' F' N'; (try k_sweep)))
local macro_rules | `(tactic| walk_at "subscriptTail Name Slice ref ref") => `(tactic| (k_here; (with_reducible show wpAny _ _ (subscriptTail _ (PySem.Expr.Slice _ _ none _) (Value.ref _) (Value.ref _)) _ _ _); k_dflt (refine' kms_slice_lit ?F ?N ?l ?p ?q ?e ?_ ?s ?t ?z; (case F => k_asm); (case N => k_asm); (case l => exact PyProof.Rows.News.isList (by k_asm) (by k_mem)); (case p => kmk_part); (case q => kmk_part); (case e => first | exact Mine.pick_from _ | exact Mine.pick_all _); (case s => with_unfolding_all rfl); (case t => kmk_pure); (case z => ((simp only [List.size_toArray, PySem.sizeLine_eq]); omega))); intro D' h' F' N' l1; (try k_lt l1); (try dsimp only at F' N'); (try dsimp only); (try k_sweep)))
local macro_rules | `(tactic| walk_at "subscriptTail") => `(tactic| (k_here; (with_reducible show wpAny _ _ (subscriptTail _ _ (Value.ref _) (Value.int _ _)) _ _ _); k_dflt (refine' Mine.item_n ?a ?b ?c ?d ?e ?_; (case a => k_asm); (case b => k_mem); (case e => first | assumption | with_unfolding_all assumption); (case c => first | omega | exact Int.fmod_nonneg_of_pos _ (by omega)); (case d => first | omega | (refine Int.lt_trans (Int.fmod_lt_of_pos _ (by omega)) ?_; omega)); k_whole)))
local macro_rules | `(tactic| walk_at "subscriptTail Name Name ref int") => `(tactic| (k_here; (with_reducible show wpAny _ _ (subscriptTail _ _ (Value.ref _) (Value.int _ _)) _ _ _); k_dflt (refine' Mine.item_n ?a ?b ?c ?d ?e ?_; (case a => k_asm); (case b => k_mem); (case e => first | assumption | with_unfolding_all assumption); (case c => first | omega | exact Int.fmod_nonneg_of_pos _ (by omega)); (case d => first | omega | (refine Int.lt_trans (Int.fmod_lt_of_pos _ (by omega)) ?_; omega)); k_whole)))
local macro_rules | `(tactic| walk_at "getAttr ref") => `(tactic| (k_here; (with_reducible show wpAny _ _ (getAttr (Value.ref _) (PySem.Str.ofString "waypoint_list") _) _ _ _); k_dflt (refine' Mine.wl_get ?k1 ?k2 ?B ?F ?N ?hk ?hd ?t ?d ?a ?D ?v ?w ?_; (case k1 => k_asm); (case k2 => k_asm); (case B => k_asm); (case F => k_asm); (case N => k_asm); (case hk => first | rfl | assumption); (case hd => first | decide | omega | ktr_room); (case t => k_mem); (case d => k_mem); (case D => k_asm); (case a => k_mem); (case v => walk_at "my_len"); (case w => assumption)); intro D' h' tk' F' N' l1; (try k_lt l1); (try dsimp only at F' N'); (try dsimp only); (try k_sweep)))
local macro_rules | `(tactic| walk_at "eval DictComp") => `(tactic| (k_here; with_unfolding_all refine' Mine.dictcomp_k ?a ?b ?c ?d ?e ?_; (case a => with_unfolding_all rfl); (case b => with_unfolding_all rfl); (case c => decide); (case d => (intro _; rfl)); (case e => rfl); (try dsimp only)))
local macro_rules | `(tactic| walk_at "call type:enumerate") => `(tactic| (k_here; (first
  | ((with_reducible show wpAny _ _ (call (Value.type "enumerate") [Value.ref 249]) _ _ _); (with_unfolding_all refine' Mine.comp_call (names := Mine.namesL) ?hh ?F ?N (Mine.fields_rte ?K).1 ?l ?z Mine.namesL_nodup (Mine.fields_rte ?K).2 ?c ?k ?f ?g ?n ?o ?p ?_))
  | ((with_reducible show wpAny _ _ (call (Value.type "enumerate") [Value.ref 99]) _ _ _); (with_unfolding_all refine' Mine.comp_call (names := []) ?hh ?F ?N (Mine.fields_base ?K).1 ?l ?z List.nodup_nil (Mine.fields_base ?K).2 ?c ?k ?f ?g ?n ?o ?p ?_))); (case K => k_asm); (case F => k_asm); (case N => k_asm); (case hh => with_unfolding_all rfl); (case l => rfl); (case z => decide); (case c => decide); (case k => rfl); (case f => with_unfolding_all rfl); (case g => with_unfolding_all rfl); (case n => decide); (case o => decide); (case p => decide); intro D' kvs' h' tk' hlt' F' N' hd' hkv'; (try k_sweep)))
local macro_rules | `(tactic| walk_at "subscriptTail") => `(tactic| (k_here; (with_reducible show wpAny _ _ (subscriptTail _ _ (Value.ref _) (Value.str _ _)) _ _ _); (rename Mine.Kvs _ _ => hkv9); (rename Heap.DictOf _ _ _ _ => hd9); (obtain ⟨t9, hv9⟩ := Mine.Kvs.valueAt hkv9 Mine.namesL_nodup (by assumption)); k_dflt (refine' Mine.item_kvs hd9 hv9 ?_; k_whole); clear hv9 hkv9 hd9))
local macro_rules | `(tactic| walk_at "setItem ref int") => `(tactic| (k_here; (with_reducible show wpAny _ _ (setItem (Value.ref _) (Value.int _ _) _) _ _ _); k_dflt (refine' Mine.setItem_oob ?a ?b ?c ?d ?e ?_; (case a => with_unfolding_all rfl); (case b => exact PyProof.Rows.News.isList (by k_asm) (by k_mem)); (case c => omega); (case d => omega); (case e => ((simp only [List.size_toArray]); omega)); k_whole); intro h' tk' e' hexc'))
local macro_rules | `(tactic| walk_at "call builtin:str.join") => `(tactic| (k_here; (with_reducible show wpAny _ _ (call (Value.builtin _) [Value.str _ _, Value.ref _]) _ _ _); k_dflt (refine' Mine.join_n ?a ?b ?c ?d ?e ?_; (case a => k_asm); (case b => k_mem); (case c => assumption); (case d => decide); (case e => assumption); k_whole); intro t9 k9))
local macro_rules | `(tactic| walk_at "binaryOp Add str str") => `(tactic| (k_here; (with_reducible show wpAny _ _ (binaryOp Operator.Add (Value.str _ _) (Value.str _ _)) _ _ _); k_dflt (refine' Mine.add_n ?a ?b ?_; (case a => decide +kernel); (case b => assumption); k_whole); intro t9 k9))
local macro_rules | `(tactic| walk_at "subscriptTail Name Name ref int") => `(tactic| (k_here; (with_reducible show wpAny _ _ (subscriptTail _ _ (Value.ref 284) (Value.int _ _)) _ _ _); k_dflt (refine' Mine.head_get ?a ?b ?c ?d ?_; (case a => k_asm); (case b => k_asm); (case c => decide); (case d => decide); k_whole); intro t9))
local macro_rules | `(tactic| walk_at "call ref") => `(tactic| (k_here; (with_reducible show wpAny _ _ (call (Value.ref 314) _) _ _ _); k_dflt (refine wpAny_call ?_; kts_go)))
local macro_rules | `(tactic| walk_at "exec Raise some none") => `(tactic| (k_here; (with_reducible show wpAny _ _ (exec (Stmt.Raise (some (Expr.Name ("NotImplementedError" : Str) _)) none _) _) _ _ _); (with_reducible rename Fr _ _ _ _ => kF); k_dflt (refine' Raise_classB ?hh excClass_NotImplementedError ?hself ?hx ?_; (case hh => rfl); (case hself => (rw [isSubtype_type]; kernel_rfl)); (case hx => (refine' name_B kF ?k1 ?k2 ?k3 ?k4 ?k5 ?_; (case k1 => k_asm); (case k2 => k_asm); (case k3 => k_is); (case k4 => boot_by_name); (case k5 => decide); exact ⟨rfl, rfl⟩))); intro h' e' hexc'))
local macro_rules | `(tactic| walk_at "exec For Name Call cons nil") => `(tactic| (k_here; (with_reducible show wpAny _ _ (exec (Stmt.For (Expr.Name ("way" : Str) _) _ _ _ _) _) _ _ _); (with_unfolding_all refine' Mine.for_K (n := 3) (b := 3) ?F ?N ?B ?X ?T ?D ?k1 ?k2 ?k3 ?k4 ?k5 ?_; (case F => k_asm); (case N => k_asm); (case B => k_asm); (case X => assumption); (case T => assumption); (case D => assumption); (case k1 => rfl); (case k2 => rfl); (case k3 => rfl); (case k4 => decide); (case k5 => rfl))))
local macro_rules | `(tactic| walk_at "RangeMade") => `(tactic| (refine' ⟨_, _, _, _, rfl, ?a, ?b, ?c, ?_⟩; (case a => assumption); (case b => k_asm); (case c => k_asm); intro I' h' l1; (try k_lt l1)))
local macro_rules | `(tactic| walk_at "RestT") => `(tactic| ((with_unfolding_all first | (refine Mine.RestT.succ ?_; intro g' t' h' tk' hC' F' N') | (refine Mine.RestT.zero ?_; intro g' h' tk' hC' F' N')); (obtain ⟨kT', kB', kX', kP', kD'⟩ := hC'); (try dsimp only)))
local macro_rules | `(tactic| walk_at "TurnEnd") => `(tactic| (k_dflt (refine' Mine.turn_end (o1 := instObj 155 _) (o2 := dictOf [] 0) (o3 := listOf _ _) ?F ?N ?T ?B ?X ?P ?D ?m1 ?m2 ?m3 ?mn ?hI ?hn ?_; (case F => k_asm); (case N => k_asm); (case T => first | assumption | exact KtsTurn.refl); (case B => assumption); (case X => assumption); (case P => assumption); (case D => assumption); (case m1 => k_mem); (case m2 => k_mem); (case m3 => k_mem); (case hn => assumption); (case mn => (intro p9 hp9; (repeat (first | exact hp9 | refine List.Mem.tail _ ?_)))); (case hI => k_mem); k_whole)))
local macro_rules | `(tactic| walk_at "subscriptTail Name Name ref str") => `(tactic| (k_here; (with_reducible show wpAny _ _ (subscriptTail _ _ (Value.ref _) (Value.str _ _)) _ _ _); (rename Mine.Kvs [] _ => hkv9); k_dflt (refine' Mine.item_miss (ft := 99) ?a hkv9 ?c ?d ?e ?_; (case a => assumption); (case c => assumption); (case d => decide); (case e => with_unfolding_all rfl); k_whole); intro h' e' hexc'; clear hkv9))
local macro_rules | `(tactic| walk_at "getAttr ref") => `(tactic| (k_here; (with_reducible show wpAny _ _ (getAttr (Value.ref _) ("data" : Str) _) _ _ _); k_dflt (refine' Mine.miss_h (C := 155) (f := 125) ?k1 ?k2 ?k3 ?k4 ?k5 ?k6 ?k7 ?_; (case k3 => k_inst); (case k1 => k_asm); (case k2 => k_asm); (case k4 => k_is); (case k5 => (refine Mine.findObj_none ?h1 ?h2 ?h3 ?h4; (case h1 => k_is); (case h2 => k_is); (case h3 => decide +kernel); (case h4 => rfl))); (case k6 => k_is); (case k7 => k_is); k_whole)))
namespace Mine
theorem sn_tl {base G h : Heap} {l : List Env} {e : Addr} {cls : Value} {p : Addr × Obj} {news : List (Addr × Obj)} (R : RaisedSN base G l e cls (p :: news) h) : RaisedSN base G l e cls news h :=
  let ⟨B, a0, a, b, c, d⟩ := R
  ⟨B, a0, a, b, fun q hq => c q (.tail _ hq), d⟩
theorem idf_raise {w : World} {mean : ExcName → Option Value} {mg mb : Str → Option Value} {base g : Heap} (KX : (hd.heap_39 w.params).In base) (T : Top hd.view_39 loosesW mean mg mb base)
  {dp un : Nat} {gd : Option (List Code)} {cn : Str} {cs : Scope} {fa : Addr} {ccd : Value} {outer : List Env} {A₀ : Around} {L : Addr} {m : Str → Option Value} {news : List (Addr × Obj)} {s : Shared}
  {R : Result → Shared → Prop} {x d n : Nat} 
  (X : (hd.heap_39 w.params).In g) (P : Top hd.view_39 loosesW mean mg mb g) (B : Below A₀ base outer g) (D : KtsDicts (outer.filterMap (·.frame)) g) (F : Fr g L s.heap m) (N : News g L s.heap news) (hk : cs.kind = .function) (hdp : dp + 3 < recursionLimit)
  (hx : (x, instObj 155 d) ∈ news) (hdd : (d, dictOf [] n) ∈ news)
  (ret : ∀ e G h' tk, Fr g L G m → RaisedSN base G (envOf cn cs L fa ccd :: outer) e (.type "NotImplementedError") news h' → RaisedN base (envOf cn cs L fa ccd :: outer) e (.type "NotImplementedError") news h' → G.UpToSlots h' → R (.error (.ref e)) { s with heap := h', toks := tk }) :
  codeAny (model PySem.Challenge.rw_dg5010_01.row.prog w) ({ handled := none, depth := dp, frames := some (envOf cn cs L fa ccd :: outer), guards := gd, units := un } : Around) (.call (.ref 137) ⟨[.ref x], []⟩) R s := by
  revert KX X
  k_fill
  intro KX X
  refine' code_defS ?k1 ?k2 ?k3 ?k4 ?k5 ?XB ?TB ?D ?T0 ?kA ?k6 ?k7 ?k8 ?k9 ?kB ?_ ?cK ?c2 ?c3 ?c4 ?c5; (case kA => exact rfl); (case k2 => k_asm); (case k1 => assumption); (case D => assumption); (case XB => assumption); (case TB => assumption); (case T0 => first | assumption | exact KtsTurn.refl); (case k3 => k_asm); (case k4 => k_asm); (case k5 => k_asm); (case k6 => k_is); (case k7 => k_is); (case k8 => exact Nat.lt_of_le_of_lt (Nat.le_add_right _ _) (by assumption)); (case k9 => first | exact binds_K (by k_in) rfl (by k_is) rfl rfl rfl | exact BindsTo.of_eq rfl); (case kB => exact locs rfl); (case cK => assumption); (case c2 => exact rfl); (case c3 => exact rfl); (case c4 => exact rfl); (case c5 => decide); intro g' L' h' FG' F' N' B' X' T' D'; (try dsimp only)
  k_steps
  rename RaisedSN _ _ _ _ _ _ _ => S9
  rename RaisedN _ _ _ _ _ _ => R9
  rename Heap.UpToSlots _ _ => U9
  first
    | exact ret _ _ _ _ (by assumption) S9 R9 U9
    | exact ret _ _ _ _ (by assumption) (sn_tl S9) (sn_tl S9).toN U9

local macro_rules | `(tactic| walk_at "call ref") => `(tactic| (k_here; (with_reducible show wpAny _ _ (call (Value.ref _) []) _ _ _); k_dflt (refine' call_meth (f := Value.ref 137) ?k1 ?k2 ?_; (case k1 => k_asm); (case k2 => k_mem); (refine' Mine.idf_raise ?KX ?T ?X ?P ?B ?D ?F ?N ?hk ?hdp ?hx ?hdd ?_; (case F => k_asm); (case N => k_asm); (case B => assumption); (case D => assumption); (case KX => assumption); (case T => assumption); (case X => k_asm); (case P => k_asm); (case hk => first | rfl | assumption); (case hdp => first | decide | ktr_room); (case hx => first | k_mem | (repeat (first | assumption | refine List.Mem.tail _ ?_))); (case hdd => first | k_mem | (repeat (first | assumption | refine List.Mem.tail _ ?_))))); intro e' G' h' tk' FG' S' R' U'; (try dsimp only)))
theorem ren_raise {w : World} {mean : ExcName → Option Value} {mg mb : Str → Option Value} {base g : Heap} (KX : (hd.heap_39 w.params).In base) (T : Top hd.view_39 loosesW mean mg mb base)
  {dp un : Nat} {gd : Option (List Code)} {cn : Str} {cs : Scope} {fa : Addr} {ccd : Value} {outer : List Env} {A₀ : Around} {L : Addr} {m : Str → Option Value} {news : List (Addr × Obj)} {s : Shared}
  {R : Result → Shared → Prop} {x d n : Nat} 
  (X : (hd.heap_39 w.params).In g) (P : Top hd.view_39 loosesW mean mg mb g) (B : Below A₀ base outer g) (D : KtsDicts (outer.filterMap (·.frame)) g) (F : Fr g L s.heap m) (N : News g L s.heap news) (hk : cs.kind = .function) (hdp : dp + 5 < recursionLimit)
  (hx : (x, instObj 155 d) ∈ news) (hdd : (d, dictOf [] n) ∈ news)
  (ret : ∀ e G h' tk, Fr g L G m → RaisedSN base G (envOf cn cs L fa ccd :: outer) e (.type "NotImplementedError") news h' → RaisedN base (envOf cn cs L fa ccd :: outer) e (.type "NotImplementedError") news h' → G.UpToSlots h' → R (.error (.ref e)) { s with heap := h', toks := tk }) :
  codeAny (model PySem.Challenge.rw_dg5010_01.row.prog w) ({ handled := none, depth := dp, frames := some (envOf cn cs L fa ccd :: outer), guards := gd, units := un } : Around) (.call (.ref 145) ⟨[.ref x], []⟩) R s := by
  revert KX X
  k_fill
  intro KX X
  refine' code_defS ?k1 ?k2 ?k3 ?k4 ?k5 ?XB ?TB ?D ?T0 ?kA ?k6 ?k7 ?k8 ?k9 ?kB ?_ ?cK ?c2 ?c3 ?c4 ?c5; (case kA => exact rfl); (case k2 => k_asm); (case k1 => assumption); (case D => assumption); (case XB => assumption); (case TB => assumption); (case T0 => first | assumption | exact KtsTurn.refl); (case k3 => k_asm); (case k4 => k_asm); (case k5 => k_asm); (case k6 => k_is); (case k7 => k_is); (case k8 => exact Nat.lt_of_le_of_lt (Nat.le_add_right _ _) (by assumption)); (case k9 => first | exact binds_K (by k_in) rfl (by k_is) rfl rfl rfl | exact BindsTo.of_eq rfl); (case kB => exact locs rfl); (case cK => assumption); (case c2 => exact rfl); (case c3 => exact rfl); (case c4 => exact rfl); (case c5 => decide); intro g' L' h' FG' F' N' B' X' T' D'; (try dsimp only)
  k_steps
  rename RaisedSN _ _ _ _ _ _ _ => S9
  rename RaisedN _ _ _ _ _ _ => R9
  rename Heap.UpToSlots _ _ => U9
  first
    | exact ret _ _ _ _ (by assumption) S9 R9 U9
    | exact ret _ _ _ _ (by assumption) (sn_tl S9) (sn_tl S9).toN U9

local macro_rules | `(tactic| walk_at "call ref") => `(tactic| (k_here; (with_reducible show wpAny _ _ (call (Value.ref _) []) _ _ _); k_dflt (refine' call_meth (f := Value.ref 145) ?k1 ?k2 ?_; (case k1 => k_asm); (case k2 => k_mem); (refine' Mine.ren_raise ?KX ?T ?X ?P ?B ?D ?F ?N ?hk ?hdp ?hx ?hdd ?_; (case F => k_asm); (case N => k_asm); (case B => assumption); (case D => assumption); (case KX => assumption); (case T => assumption); (case X => k_asm); (case P => k_asm); (case hk => first | rfl | assumption); (case hdp => first | decide | ktr_room); (case hx => first | k_mem | (repeat (first | assumption | refine List.Mem.tail _ ?_))); (case hdd => first | k_mem | (repeat (first | assumption | refine List.Mem.tail _ ?_))))); intro e' G' h' tk' FG' S' R' U'; (try dsimp only)))
theorem str_raise {w : World} {mean : ExcName → Option Value} {mg mb : Str → Option Value} {base g : Heap} (KX : (hd.heap_39 w.params).In base) (T : Top hd.view_39 loosesW mean mg mb base)
  {dp un : Nat} {gd : Option (List Code)} {cn : Str} {cs : Scope} {fa : Addr} {ccd : Value} {outer : List Env} {A₀ : Around} {L : Addr} {m : Str → Option Value} {news : List (Addr × Obj)} {s : Shared}
  {R : Result → Shared → Prop} {x d n : Nat} 
  (X : (hd.heap_39 w.params).In g) (P : Top hd.view_39 loosesW mean mg mb g) (B : Below A₀ base outer g) (D : KtsDicts (outer.filterMap (·.frame)) g) (F : Fr g L s.heap m) (N : News g L s.heap news) (hk : cs.kind = .function) (hdp : dp + 8 < recursionLimit)
  (hx : (x, instObj 155 d) ∈ news) (hdd : (d, dictOf [] n) ∈ news)
  (ret : ∀ e G h' tk, Fr g L G m → RaisedSN base G (envOf cn cs L fa ccd :: outer) e (.type "NotImplementedError") news h' → RaisedN base (envOf cn cs L fa ccd :: outer) e (.type "NotImplementedError") news h' → G.UpToSlots h' → R (.error (.ref e)) { s with heap := h', toks := tk }) :
  codeAny (model PySem.Challenge.rw_dg5010_01.row.prog w) ({ handled := none, depth := dp, frames := some (envOf cn cs L fa ccd :: outer), guards := gd, units := un } : Around) (.call (.ref 152) ⟨[.ref x], []⟩) R s := by
  revert KX X
  k_fill
  intro KX X
  refine' code_defS ?k1 ?k2 ?k3 ?k4 ?k5 ?XB ?TB ?D ?T0 ?kA ?k6 ?k7 ?k8 ?k9 ?kB ?_ ?cK ?c2 ?c3 ?c4 ?c5; (case kA => exact rfl); (case k2 => k_asm); (case k1 => assumption); (case D => assumption); (case XB => assumption); (case TB => assumption); (case T0 => first | assumption | exact KtsTurn.refl); (case k3 => k_asm); (case k4 => k_asm); (case k5 => k_asm); (case k6 => k_is); (case k7 => k_is); (case k8 => exact Nat.lt_of_le_of_lt (Nat.le_add_right _ _) (by assumption)); (case k9 => first | exact binds_K (by k_in) rfl (by k_is) rfl rfl rfl | exact BindsTo.of_eq rfl); (case kB => exact locs rfl); (case cK => assumption); (case c2 => exact rfl); (case c3 => exact rfl); (case c4 => exact rfl); (case c5 => decide); intro g' L' h' FG' F' N' B' X' T' D'; (try dsimp only)
  k_steps
  rename RaisedSN _ _ _ _ _ _ _ => S9
  rename RaisedN _ _ _ _ _ _ => R9
  rename Heap.UpToSlots _ _ => U9
  first
    | exact ret _ _ _ _ (by assumption) S9 R9 U9
    | exact ret _ _ _ _ (by assumption) (sn_tl S9) (sn_tl S9).toN U9

local macro_rules | `(tactic| walk_at "call ref") => `(tactic| (k_here; (with_reducible show wpAny _ _ (call (Value.ref _) []) _ _ _); k_dflt (refine' call_meth (f := Value.ref 152) ?k1 ?k2 ?_; (case k1 => k_asm); (case k2 => k_mem); (refine' Mine.str_raise ?KX ?T ?X ?P ?B ?D ?F ?N ?hk ?hdp ?hx ?hdd ?_; (case F => k_asm); (case N => k_asm); (case B => assumption); (case D => assumption); (case KX => assumption); (case T => assumption); (case X => k_asm); (case P => k_asm); (case hk => first | rfl | assumption); (case hdp => first | decide | ktr_room); (case hx => first | k_mem | (repeat (first | assumption | refine List.Mem.tail _ ?_))); (case hdd => first | k_mem | (repeat (first | assumption | refine List.Mem.tail _ ?_))))); intro e' G' h' tk' FG' S' R' U'; (try dsimp only)))
theorem set_raise {w : World} {mean : ExcName → Option Value} {mg mb : Str → Option Value} {base g : Heap} (KX : (hd.heap_39 w.params).In base) (T : Top hd.view_39 loosesW mean mg mb base)
  {dp un : Nat} {gd : Option (List Code)} {cn : Str} {cs : Scope} {fa : Addr} {ccd : Value} {outer : List Env} {A₀ : Around} {L : Addr} {m : Str → Option Value} {news : List (Addr × Obj)} {s : Shared}
  {R : Result → Shared → Prop} {x d n : Nat} {t1 t2 : Tok}
  (X : (hd.heap_39 w.params).In g) (P : Top hd.view_39 loosesW mean mg mb g) (B : Below A₀ base outer g) (D : KtsDicts (outer.filterMap (·.frame)) g) (F : Fr g L s.heap m) (N : News g L s.heap news) (hk : cs.kind = .function) (hdp : dp + 3 < recursionLimit)
  (hx : (x, instObj 155 d) ∈ news) (hdd : (d, dictOf [] n) ∈ news)
  (ret : ∀ e G h' tk, Fr g L G m → RaisedSN base G (envOf cn cs L fa ccd :: outer) e (.type "KeyError") news h' → RaisedN base (envOf cn cs L fa ccd :: outer) e (.type "KeyError") news h' → G.UpToSlots h' → R (.error (.ref e)) { s with heap := h', toks := tk }) :
  codeAny (model PySem.Challenge.rw_dg5010_01.row.prog w) ({ handled := none, depth := dp, frames := some (envOf cn cs L fa ccd :: outer), guards := gd, units := un } : Around) (.call (.ref 130) ⟨[.ref x, .str (Str.ofString "talker") t1, .int 1 t2], []⟩) R s := by
  revert KX X
  k_fill
  intro KX X
  refine' code_defS ?k1 ?k2 ?k3 ?k4 ?k5 ?XB ?TB ?D ?T0 ?kA ?k6 ?k7 ?k8 ?k9 ?kB ?_ ?cK ?c2 ?c3 ?c4 ?c5; (case kA => exact rfl); (case k2 => k_asm); (case k1 => assumption); (case D => assumption); (case XB => assumption); (case TB => assumption); (case T0 => first | assumption | exact KtsTurn.refl); (case k3 => k_asm); (case k4 => k_asm); (case k5 => k_asm); (case k6 => k_is); (case k7 => k_is); (case k8 => exact Nat.lt_of_le_of_lt (Nat.le_add_right _ _) (by assumption)); (case k9 => first | exact binds_K (by k_in) rfl (by k_is) rfl rfl rfl | exact BindsTo.of_eq rfl); (case kB => exact locs rfl); (case cK => assumption); (case c2 => exact rfl); (case c3 => exact rfl); (case c4 => exact rfl); (case c5 => decide); intro g' L' h' FG' F' N' B' X' T' D'; (try dsimp only)
  k_steps
  rename RaisedSN _ _ _ _ _ _ _ => S9
  rename RaisedN _ _ _ _ _ _ => R9
  rename Heap.UpToSlots _ _ => U9
  first
    | exact ret _ _ _ _ (by assumption) S9 R9 U9
    | exact ret _ _ _ _ (by assumption) (sn_tl S9) (sn_tl S9).toN U9

local macro_rules | `(tactic| walk_at "call ref") => `(tactic| (k_here; (with_reducible show wpAny _ _ (call (Value.ref _) [Value.str _ _, Value.int _ _]) _ _ _); k_dflt (refine' call_meth (f := Value.ref 130) ?k1 ?k2 ?_; (case k1 => k_asm); (case k2 => k_mem); (refine' Mine.set_raise ?KX ?T ?X ?P ?B ?D ?F ?N ?hk ?hdp ?hx ?hdd ?_; (case F => k_asm); (case N => k_asm); (case B => assumption); (case D => assumption); (case KX => assumption); (case T => assumption); (case X => k_asm); (case P => k_asm); (case hk => first | rfl | assumption); (case hdp => first | decide | ktr_room); (case hx => first | k_mem | (repeat (first | assumption | refine List.Mem.tail _ ?_))); (case hdd => first | k_mem | (repeat (first | assumption | refine List.Mem.tail _ ?_))))); intro e' G' h' tk' FG' S' R' U'; (try dsimp only)))
end Mine

end

/-! part LowD -/
section
open PySem PySem.W PySem.Calls PyProof.Rows
namespace Mine
def Low (x : Str) : Prop := ∀ c ∈ x.cps.toList, c < 128
end Mine

end

/-! part Red -/
section
open PySem PySem.W PySem.Calls PyProof.Rows
open Sem (wp)
namespace Mine
theorem plain_reduce : plainId "_functools.reduce" = true := by decide +kernel
theorem plain_reduce_loop : plainId "_functools.reduce.loop" = true := by decide +kernel
theorem entry_reduce : entryFor table "_functools.reduce" = some Builtin.«_functools.reduce» := entryFor_of_tree (by kernel_rfl)
theorem entry_reduce_loop : entryFor table "_functools.reduce.loop" = some Builtin.«_functools.reduce.loop» := entryFor_of_tree (by kernel_rfl)
def foldV (val : Nat → Int) (op : Int → Int → Int) : Nat → Int
  | 0 => 0
  | j + 1 => op (foldV val op j) (val j)
theorem kind_reduce : builtinKind "_functools.reduce" = none := by decide +kernel
theorem args_reduce (a b c : Value) : argsOk "_functools.reduce" ⟨[a, b, c], []⟩ := by unfold argsOk; kernel_rfl
section
variable {prog : Program} {w : World} {A : Around} {R : Result → Shared → Prop} {I : Addr} {fp wr : List Addr} {n : Nat} {P : Nat → Value → Prop} {St : Nat → Heap → Prop}
theorem reduce_loop (W : Walks prog w A.in1 I fp wr n P St) (val : Nat → Int) (op : Int → Int → Int) (f : Value) (hval : ∀ i v, P i v → ∃ t, v = .int (val i) t)
    (hop : ∀ (i : Nat) (a b : Int) (t u : Tok) (s : Shared) (Q : Value → Shared → Prop) (E : Value → Shared → Prop), i < n → a = foldV val op i → b = val i → (∀ t' tk, Q (.int (op a b) t') { s with toks := tk }) → wpAny (model prog w) A.in1 (call f [.int a t, .int b u]) Q E s)
    (p own : Addr) (hp : p ∉ fp) (ho : own ∉ fp) (hne : own ≠ p) (xs : Array Value) (hxs : xs.getD 0 .none = f) :
    ∀ (k i : Nat) (s : Shared) (tA : Tok) (ys : Array Value) (c c' : Nat), ys.size = 2 → n - i = k → i ≤ n → St i s.heap → s.heap.get? p = some { cls := .type "tuple", data := .seq ys c } → s.heap.get? own = some { cls := .type "tuple", data := .seq xs c' } →
      (∀ h' tk t', (∀ b o, b ∉ p :: wr → s.heap.get? b = some o → h'.get? b = some o) → R (.ok (.ret (.int (foldV val op n) t'))) { s with heap := h', toks := tk }) →
      codeAny (model prog w) A (.builtin "_functools.reduce.loop" ⟨[.ref p, .ref I, .ref own, .int (foldV val op i) tA], []⟩) R s := by
  intro k
  induction k with
  | zero =>
    intro i s tA ys c c' hys hk hi hst hP hO hR
    have hin : i = n := by omega
    subst hin
    refine codeAny_builtin entry_reduce_loop ?_
    rw [Around.under_plainId plain_reduce_loop _]
    show wpAny _ A.in1 (seqItems? (.ref own) >>= _) _ _ s
    refine wpAny_bind (wpAny_seqItems hO rfl ?_)
    refine wpAny_bind (W.done s _ _ hst fun h' tk hm => ?_)
    exact wpAny_pure (hR h' tk tA fun b o hb e => hm b o (fun q => hb (.tail _ q)) e)
  | succ k ih =>
    intro i s tA ys c c' hys hk hi hst hP hO hR
    have hlt : i < n := by omega
    have hpw : p ∉ wr := fun q => hp (W.sub _ q)
    have how : own ∉ wr := fun q => ho (W.sub _ q)
    refine codeAny_builtin entry_reduce_loop ?_
    rw [Around.under_plainId plain_reduce_loop _]
    show wpAny _ A.in1 (seqItems? (.ref own) >>= _) _ _ s
    refine wpAny_bind (wpAny_seqItems hO rfl ?_)
    refine wpAny_bind (W.item i s _ _ hlt hst fun v h' tk hPv hst' hm => ?_)
    obtain ⟨t, rfl⟩ := hval i v hPv
    have hP' := hm p _ hpw hP
    have hO' := hm own _ how hO
    show wpAny _ A.in1 (seqItems? (.ref p) >>= _) _ _ _
    refine wpAny_bind (wpAny_seqItems hP' rfl ?_)
    show wpAny _ A.in1 (updateSeq p _ >>= _) _ _ _
    refine wpAny_bind (wpAny_updateSeq hP' rfl ?_ (hz := by rw [sizeLine_eq]; omega) (_hz' := by simp only [Array.size_setIfInBounds]; rw [sizeLine_eq]; omega))
    have h1 := Heap.get?_update_self (Obj.mapSeq (·.setIfInBounds 0 (Value.int (foldV val op i) tA))) hP' rfl
    refine wpAny_bind (wpAny_letGo ?_)
    refine wpAny_bind (wpAny_updateSeq h1 rfl ?_ (hz := by simp only [Array.size_setIfInBounds]; rw [sizeLine_eq]; omega) (_hz' := by simp only [Array.size_setIfInBounds]; rw [sizeLine_eq]; omega))
    have h2 := Heap.get?_update_self (Obj.mapSeq (·.setIfInBounds 1 (Value.int (val i) t))) h1 rfl
    refine wpAny_bind (wpAny_letGo ?_)
    rw [show (some xs).getD #[] = xs from rfl, hxs]
    refine wpAny_bind (hop i _ _ tA t _ _ _ hlt rfl rfl fun t' tk' => ?_)
    have other : ∀ b o, b ≠ p → h'.get? b = some o → ((h'.update p (Obj.mapSeq (·.setIfInBounds 0 (Value.int (foldV val op i) tA)))).update p (Obj.mapSeq (·.setIfInBounds 1 (Value.int (val i) t)))).get? b = some o := fun b o hb e => by
      rw [Heap.get?_update_other _ _ (Ne.symm hb), Heap.get?_update_other _ _ (Ne.symm hb)]
      exact e
    refine wpAny_pure ⟨plainId_quiet plain_reduce_loop _, ih (i + 1) _ t' _ _ _ (by simpa using hys) (by omega) hlt (W.frame _ _ _ hst' fun b hb o e => other b o (fun q => hp (q ▸ hb)) e) h2 (other _ _ hne hO') fun h'' tk'' t'' hm'' => ?_⟩
    refine hR h'' tk'' t'' fun b o hb e => hm'' b o hb (other b o (fun q => hb (q ▸ List.mem_cons_self)) (hm b o (fun q => hb (.tail _ q)) e))
theorem call_reduce {E : Value → Shared → Prop} {s : Shared} {Q : Value → Shared → Prop} {t0 : Tok} (W : Walks prog w A.in1 I fp wr n P St) (val : Nat → Int) (op : Int → Int → Int) (f : Value) (hval : ∀ i v, P i v → ∃ t, v = .int (val i) t)
    (hop : ∀ (i : Nat) (a b : Int) (t u : Tok) (s : Shared) (Q : Value → Shared → Prop) (E : Value → Shared → Prop), i < n → a = foldV val op i → b = val i → (∀ t' tk, Q (.int (op a b) t') { s with toks := tk }) → wpAny (model prog w) A.in1 (call f [.int a t, .int b u]) Q E s)
    (hst : St 0 s.heap) (hfp : ∀ b ∈ fp, b < s.heap.objs.size)
    (h : ∀ h' tk t', (∀ b o, b ∉ wr → s.heap.get? b = some o → h'.get? b = some o) → Q (.int (foldV val op n) t') { s with heap := h', toks := tk }) :
    wpAny (model prog w) A (call (.builtin "_functools.reduce") [f, .ref I, .int 0 t0]) Q E s := by
  refine call_function_tree kind_reduce plain_reduce entry_reduce (args_reduce _ _ _) ?_
  unfold Builtin.«_functools.reduce»
  refine wpAny_bind (wpAny_of_eq (show someArgs "reduce" 2 3 ⟨[f, .ref I, .int 0 t0], []⟩ = pure [f, .ref I, .int 0 t0] from rfl) ?_)
  show wpAny _ A.in1 (tryCatch (pyIter (.ref I)) _ >>= _) _ _ _
  refine wpAny_bind (wpAny_tryCatch (W.self 0 _ _ _ hst ?_))
  refine wpAny_bind (wpAny_holding ?_)
  unfold newTuple
  refine wpAny_newObj_type ?_
  refine wpAny_bind (wpAny_holding (wpAny_newObj_type ?_))
  have hsz : (s.heap.push { cls := Value.type "tuple", data := Data.seq #[rawInt 0, rawInt 0] }).objs.size = s.heap.objs.size + 1 := Heap.size_push ..
  have hpf : s.heap.objs.size ∉ fp := fun q => Nat.lt_irrefl _ (hfp _ q)
  have hof : (s.heap.push { cls := Value.type "tuple", data := Data.seq #[rawInt 0, rawInt 0] }).objs.size ∉ fp := fun q => by
    have := hfp _ q
    rw [hsz] at this
    exact Nat.lt_irrefl _ (Nat.lt_of_succ_lt this)
  have hne : (s.heap.push { cls := Value.type "tuple", data := Data.seq #[rawInt 0, rawInt 0] }).objs.size ≠ s.heap.objs.size := by rw [hsz]; exact Nat.succ_ne_self _
  have up : ∀ b o, s.heap.get? b = some o → ((s.heap.push { cls := Value.type "tuple", data := Data.seq #[rawInt 0, rawInt 0] }).push { cls := Value.type "tuple", data := Data.seq #[f, Value.ref I, Value.int 0 t0] }).get? b = some o := fun b o e => Heap.get?_push_of_some _ (Heap.get?_push_of_some _ e)
  refine wpAny_pure ⟨plainId_quiet plain_reduce_loop _, reduce_loop W val op f hval hop s.heap.objs.size _ hpf hof hne #[f, Value.ref I, Value.int 0 t0] rfl n 0 _ t0 #[rawInt 0, rawInt 0] _ _ rfl rfl (Nat.zero_le _) (W.frame _ _ _ hst fun b _ o e => up b o e) (Heap.get?_push_of_some _ (Heap.get?_push_size _ rfl)) (Heap.get?_push_size _ rfl) fun h' tk t' hm => ?_⟩
  refine h h' tk t' fun b o hb e => hm b o ?_ (up b o e)
  intro q
  rcases List.mem_cons.mp q with q | q
  · exact absurd (Heap.lt_size e) (by rw [q]; exact Nat.lt_irrefl _)
  · exact hb q
end
end Mine

end

/-! part MapW -/
section
open PySem PySem.W PySem.Calls PyProof.Rows
open Sem (wp)
namespace Mine
theorem slot_map_iter : Slot "map" "__iter__" "map.__iter__" :=
  .of (owner := "map") (n := "__iter__") (by rw [typeLookup_type, builtinLookup_eq_fast]; kernel_rfl) (by decide +kernel) (by decide +kernel) (by decide +kernel)
    (by first | exact .inl (by decide +kernel) | exact .inr (by decide +kernel)) (by rw [isSubtype_type]; kernel_rfl)
theorem slot_map_next : Slot "map" "__next__" "map.__next__" :=
  .of (owner := "map") (n := "__next__") (by rw [typeLookup_type, builtinLookup_eq_fast]; kernel_rfl) (by decide +kernel) (by decide +kernel) (by decide +kernel)
    (by first | exact .inl (by decide +kernel) | exact .inr (by decide +kernel)) (by rw [isSubtype_type]; kernel_rfl)
theorem entry_map_iter : entryFor table "map.__iter__" = some Builtin.«dict_keyiterator.__iter__» :=
  entryFor_alias (id' := "dict_keyiterator.__iter__") (by kernel_rfl) (by first | rfl | decide +kernel | (unfold String.splitOn; simp +decide [String.splitOnAux])) (by decide +kernel) (by kernel_rfl)
theorem entry_map_next : entryFor table "map.__next__" = some Builtin.«map.__next__» := entryFor_of_tree (by kernel_rfl)
theorem entry_map_new : entryFor table "map.__new__" = some Builtin.«map.__new__» := entryFor_of_tree (by kernel_rfl)
theorem args_map_iter (a : Value) : argsOk "map.__iter__" ⟨[a], []⟩ := by unfold argsOk; kernel_rfl
theorem args_map_next (a : Value) : argsOk "map.__next__" ⟨[a], []⟩ := by unfold argsOk; kernel_rfl
theorem mro_map : mroOf (.type "map") = pure [.type "map", .type "object"] := by rw [mroOf_type]; kernel_rfl
theorem lookup_map_new : typeLookup (.type "map") "__new__" = pure (some (.builtin "map.__new__")) := by rw [typeLookup_type, builtinLookup_eq_fast]; kernel_rfl
theorem entry_xor : entryFor table "_operator.xor" = some Builtin.«_operator.xor» := entryFor_of_tree (by kernel_rfl)
theorem kind_xor : builtinKind "_operator.xor" = none := by decide +kernel
theorem plain_xor : plainId "_operator.xor" = true := by decide +kernel
theorem args_xor (a b : Value) : argsOk "_operator.xor" ⟨[a, b], []⟩ := by unfold argsOk; kernel_rfl
abbrev IsMap (h : Heap) (z T : Addr) (f : Value) : Prop := h.get? z = some { cls := .type "map", data := .fields #[.ref T, f] }
abbrev IsOne (h : Heap) (T : Addr) (a : Value) : Prop := h.get? T = some { cls := .type "tuple", data := .seq #[a] }
section
variable {prog : Program} {w : World} {A : Around} {E : Value → Shared → Prop} {s : Shared}
theorem map_next_body {z T I : Addr} {x : Str} {t : Tok} {i c : Nat} {Q : Fin → Shared → Prop} (hz : IsMap s.heap z T (.builtin "ord")) (hT : IsOne s.heap T (.ref I)) (hit : s.heap.IsStrIter I "str_ascii_iterator" x t i) (hx : x.cps[i]? = some c) (hzI : z ≠ I)
    (hQ : ∀ h' tk t', h'.IsStrIter I "str_ascii_iterator" x t (i + 1) → Heap.SameBut I s.heap h' → Q (.done (.ret (.int c t'))) { s with heap := h', toks := tk }) :
    wpAny (model prog w) A (Builtin.«map.__next__» ⟨[.ref z], []⟩) Q E s := by
  unfold Builtin.«map.__next__»
  refine wpAny_bind (wpAny_of_eq (show slotArgs "__next__" 0 ⟨[.ref z], []⟩ = pure (.ref z, []) from rfl) ?_)
  refine wpAny_bind (wpAny_field hz rfl rfl ?_)
  refine wpAny_bind (wpAny_seqItems hT rfl ?_)
  show wpAny _ _ (forIn (#[Value.ref I] : Array Value) #[] _ >>= _) _ _ _
  rw [← Array.forIn_toList]
  simp only [List.forIn_cons, List.forIn_nil]
  refine wpAny_bind (wpAny_bind (wpAny_bind (wpAny_holding (wpAny_nextOf_ascii_item hit hx fun h' hit' hs' => ?_))))
  refine wpAny_pure (wpAny_pure ?_)
  have hz' : IsMap h' z T (.builtin "ord") := hs'.extBut _ _ hzI hz
  refine wpAny_bind (wpAny_field hz' rfl rfl ?_)
  refine wpAny_bind (wpAny_holding (P.ord_of_char ?_))
  refine wpAny_bind (wpAny_letGo ?_)
  exact wpAny_pure (hQ h' _ _ hit' hs')
theorem map_next_end {z T I : Addr} {x : Str} {t : Tok} {i : Nat} {Q : Fin → Shared → Prop} (hh : A.handled = none) (hz : IsMap s.heap z T (.builtin "ord")) (hT : IsOne s.heap T (.ref I)) (hit : s.heap.IsStrIter I "str_ascii_iterator" x t i) (hx : x.cps[i]? = none)
    (hE : ∀ h' e, Heap.ExtBut I s.heap h' → (∃ o, h'.get? e = some o ∧ o.cls = .type "StopIteration") → E (.ref e) { s with heap := h' }) :
    wpAny (model prog w) A (Builtin.«map.__next__» ⟨[.ref z], []⟩) Q E s := by
  unfold Builtin.«map.__next__»
  refine wpAny_bind (wpAny_of_eq (show slotArgs "__next__" 0 ⟨[.ref z], []⟩ = pure (.ref z, []) from rfl) ?_)
  refine wpAny_bind (wpAny_field hz rfl rfl ?_)
  refine wpAny_bind (wpAny_seqItems hT rfl ?_)
  show wpAny _ _ (forIn (#[Value.ref I] : Array Value) #[] _ >>= _) _ _ _
  rw [← Array.forIn_toList]
  simp only [List.forIn_cons, List.forIn_nil]
  exact wpAny_bind (wpAny_bind (wpAny_bind (wpAny_holding (wpAny_nextOf_ascii_end hh hit hx hE))))

theorem map_walk (hh : A.handled = none) {z T I : Addr} (hzT : T ≠ I) (hzI : z ≠ I) (x : Str) (t : Tok) :
    Walks prog w A z [z, T, I] [I] x.cps.size (fun i v => ∃ c u, x.cps[i]? = some c ∧ v = .int (c : Int) u) (fun i h => IsMap h z T (.builtin "ord") ∧ IsOne h T (.ref I) ∧ h.IsStrIter I "str_ascii_iterator" x t i) where
  sub := fun b hb => by simp at hb ⊢; exact .inr (.inr hb)
  frame := fun i h h' st hk => by
    obtain ⟨a, b, c⟩ := st
    exact ⟨hk z (by simp) _ a, hk T (by simp) _ b, let ⟨o, ho, r⟩ := c; ⟨o, hk I (by simp) o ho, r⟩⟩
  item := fun i s Q E hi st hQ => by
    obtain ⟨a, b, c⟩ := st
    have hT : s.TypeIs (.ref z) "map" := ⟨_, a, rfl⟩
    unfold pyNext
    refine wpAny_bind (wpAny_attempt (wpAny_callSpecial?_slot (name := Str.ofString "__next__") hT slot_map_next
      (wpAny_call_entry slot_map_next hT entry_map_next (map_next_body a b c (c := x.cps[i]) (by simp [hi]) hzI fun h' tk t' hit' hs' => ?_) (args_map_next _))))
    refine ⟨_, rfl, wpAny_pure (hQ _ h' tk ⟨_, _, by simp [hi], rfl⟩ ⟨hs'.extBut _ _ hzI a, hs'.extBut _ _ hzT b, hit'⟩ fun b o hb e => hs'.extBut b o (fun q => hb (by simp [q])) e)⟩
  done := fun s Q E st hQ => by
    obtain ⟨a, b, c⟩ := st
    have hT : s.TypeIs (.ref z) "map" := ⟨_, a, rfl⟩
    unfold pyNext
    refine wpAny_bind (wpAny_attempt (wpAny_callSpecial?_slot (name := Str.ofString "__next__") hT slot_map_next
      (wpAny_call_entry slot_map_next hT entry_map_next (map_next_end hh a b c (by simp) fun h' e hk he => ?_) (args_map_next _))))
    obtain ⟨o, ho, hc⟩ := he
    refine wpAny_bind (wpAny_isInstance (T := "StopIteration") (b := true) ⟨o, ho, hc⟩ isSubtype_stop ?_)
    exact wpAny_pure (hQ _ s.toks fun b o hb e => hk b o (fun q => hb (by simp [q])) e)
  self := fun i s Q E st hQ => by
    have hT : s.TypeIs (.ref z) "map" := ⟨_, st.1, rfl⟩
    refine wpAny_pyIter_slot hT slot_map_iter (wpAny_call_entry slot_map_iter hT entry_map_iter ?_ (args_map_iter _))
    show wpAny _ _ (ret (.ref z)) _ _ s
    exact wpAny_pure ⟨_, rfl, "map", _, hT, slot_map_next.lookup, hQ⟩
theorem xor_call {a b : Int} {t u : Tok} {Q : Value → Shared → Prop} (h : ∀ t' tk, Q (.int (Builtin.bitXor a b) t') { s with toks := tk }) : wpAny (model prog w) A (call (.builtin "_operator.xor") [.int a t, .int b u]) Q E s := by
  refine call_function_tree kind_xor plain_xor entry_xor (args_xor _ _) ?_
  unfold Builtin.«_operator.xor»
  refine wpAny_bind (wpAny_of_eq (show _ = (pure (Value.int a t, Value.int b u) : Sem (Value × Value)) from rfl) ?_)
  exact wpAny_bind (PyProof.Rows.xor_int (wpAny_pure (h _ _)))
end
theorem slot_map_init : Slot "map" "__init__" "object.__init__" :=
  .of (owner := "object") (n := "__init__") (by rw [typeLookup_type, builtinLookup_eq_fast]; kernel_rfl) (by decide +kernel) (by decide +kernel) (by decide +kernel)
    (by first | exact .inl (by decide +kernel) | exact .inr (by decide +kernel)) (by rw [isSubtype_type]; kernel_rfl)
theorem called_map : TypeCalled "map" "map.__new__" "object.__init__" :=
  ⟨by decide +kernel, by decide +kernel, ⟨_, _, mro_map⟩, madeBy_type mro_map lookup_map_new (by decide +kernel), by decide +kernel, by rw [isSubtype_type]; kernel_rfl, slot_map_init⟩
theorem typeCall_map (a b : Value) : checkTypeCall "map" ⟨[a, b], []⟩ = pure () := by kernel_rfl
theorem newCall_map (a b : Value) : checkBuiltinCall "map.__new__" ⟨[.type "map", a, b], []⟩ = pure () := by kernel_rfl
theorem sub_map : isSubtype (.type "map") (.type "map") = pure true := by rw [isSubtype_type]; kernel_rfl
end Mine

end

/-! part MapC -/
section
open PySem PySem.W PySem.Calls PyProof.Rows
open Sem (wp)
namespace Mine
abbrev mapA (h : Heap) (x : Str) (t : Tok) : Heap := h.push { cls := .type "str_ascii_iterator", data := .fields #[.str x t, .int 0 0] }
abbrev mapB (h : Heap) (x : Str) (t : Tok) : Heap := (mapA h x t).push { cls := .type "tuple", data := .seq #[.ref h.objs.size] }
abbrev mapZ (h : Heap) (x : Str) (t : Tok) (f : Value) : Heap := (mapB h x t).push { cls := .type "map", data := .fields #[.ref (mapA h x t).objs.size, f] }
theorem low_all {x : Str} (h : Low x) : x.cps.all (· < 128) = true := by
  rw [Array.all_eq_true_iff_forall_mem]
  intro c hc
  simpa using h c (by simpa using hc)
theorem meets_map_new (x : Str) (t : Tok) (f : Value) (hx : Low x) : Meets (Builtin.«map.__new__» ⟨[.type "map", f, .str x t], []⟩) (fun _ R s =>
    R (.ok (.ret (.ref (mapB s.heap x t).objs.size))) { s with heap := mapZ s.heap x t f }) :=
  .of_wp fun prog w A R s h => by
    have hl := low_all hx
    unfold Builtin.«map.__new__» Builtin.SmallTypes.newClass Builtin.SmallTypes.refuseKeywords Builtin.SmallTypes.iterAll newTuple Builtin.SmallTypes.newRecord
    dsimp only
    refine wpAny_bind (wpAny_bind (m := isType _) (wpAny_of_eq (a := true) rfl ?_))
    rw [if_neg (by simp)]
    refine wpAny_bind (wpAny_of_eq sub_map ?_)
    rw [if_neg (by simp)]
    refine wpAny_pure ?_
    dsimp only
    refine wpAny_bind (wpAny_of_eq (a := ()) rfl ?_)
    rw [if_neg (by simp)]
    simp only [List.drop_succ_cons, List.drop_zero, List.forIn_cons, List.forIn_nil]
    refine wpAny_bind (wpAny_bind (wpAny_bind (wpAny_bind (wpAny_holding (wpAny_pyIter_ascii hl (wpAny_pure ?_))))))
    refine wpAny_pure (wpAny_pure ?_)
    refine wpAny_bind (wpAny_newObj_type ?_ (by show (1 : Nat) ≤ sizeLine; rw [sizeLine_eq]; decide))
    refine wpAny_bind (wpAny_newObj_type (wpAny_pure ⟨_, rfl, h⟩) (by size_fits))
/-- the map object at I + 2, its tuple, its iterator, all fresh -/
structure MapAt (h : Heap) (I : Nat) (x : Str) : Prop where
  there : ∃ t, IsMap h (I + 2) (I + 1) (.builtin "ord") ∧ IsOne h (I + 1) (.ref I) ∧ h.IsStrIter I "str_ascii_iterator" x t 0
  lt : I + 3 ≤ h.objs.size
def xorAt (x : Str) (i : Nat) : Int := (x.cps.getD i 0 : Nat)
def xorOf (x : Str) : Int := foldV (xorAt x) Builtin.bitXor x.cps.size
section
variable {prog : Program} {w : World} {A : Around} {E : Value → Shared → Prop} {s : Shared} {h₀ : Heap} {L : Addr} {m : Str → Option Value} {news : List (Addr × Obj)} {x : Str} {t : Tok}
theorem map_k {Q : Value → Shared → Prop} (F : Fr h₀ L s.heap m) (N : News h₀ L s.heap news) (hx : Low x)
    (h : ∀ (I : Nat) h', Fr h₀ L h' m → News h₀ L h' news → MapAt h' I x → (∀ p ∈ news, p.1 < I) → L < I → h₀.get? I = none → Q (.ref (I + 2)) { s with heap := h' }) :
    wpAny (model prog w) A (call (.type "map") [.builtin "ord", .str x t]) Q E s := by
  refine callType_new called_map (by decide) (typeCall_map _ _) (newCall_map _ _) (fun obj => PySem.F.args_object_init_3 obj _ _) entry_map_new (meets_map_new x t (.builtin "ord") hx) ?_
  have z1 : (mapA s.heap x t).objs.size = s.heap.objs.size + 1 := Heap.size_push ..
  have z2 : (mapB s.heap x t).objs.size = s.heap.objs.size + 2 := by rw [Heap.size_push, z1]
  have z3 : (mapZ s.heap x t (.builtin "ord")).objs.size = s.heap.objs.size + 3 := by rw [Heap.size_push, z2]
  have g3 : (mapZ s.heap x t (.builtin "ord")).get? (mapB s.heap x t).objs.size = some _ := Heap.get?_push_size _ rfl
  have g2 : (mapZ s.heap x t (.builtin "ord")).get? (mapA s.heap x t).objs.size = some _ := Heap.get?_push_of_some _ (Heap.get?_push_size _ rfl)
  have g1 : (mapZ s.heap x t (.builtin "ord")).get? s.heap.objs.size = some _ := Heap.get?_push_of_some _ (Heap.get?_push_of_some _ (Heap.get?_push_size _ rfl))
  rw [z2] at g3
  rw [z1] at g2 g3
  have keep : ∀ b o, s.heap.get? b = some o → (mapZ s.heap x t (.builtin "ord")).get? b = some o := fun b o e => Heap.get?_push_of_some _ (Heap.get?_push_of_some _ (Heap.get?_push_of_some _ e))
  show _ ∧ _
  rw [z2]
  exact ⟨⟨_, g3, rfl⟩, h s.heap.objs.size _ (F.keeps keep) (fun p hp => ⟨keep _ _ (N p hp).1, (N p hp).2⟩) ⟨⟨t, g3, g2, ⟨_, g1, rfl, rfl⟩⟩, Nat.le_of_eq z3.symm⟩ (fun p hp => Heap.lt_size (N p hp).1) F.ns.lt (next_is_new F)⟩
theorem reduce_k {Q : Value → Shared → Prop} {I : Nat} (hh : A.in1.handled = none) (F : Fr h₀ L s.heap m) (N : News h₀ L s.heap news) (M : MapAt s.heap I x) (hlt : ∀ p ∈ news, p.1 < I) (hL : L < I) (hb : h₀.get? I = none)
    (h : ∀ h' tk t', Fr h₀ L h' m → News h₀ L h' news → Q (.int (xorOf x) t') { s with heap := h', toks := tk }) :
    wpAny (model prog w) A (call (.builtin "_functools.reduce") [.builtin "_operator.xor", .ref (I + 2), .int 0 t]) Q E s := by
  obtain ⟨⟨u, a, b, c⟩, hz⟩ := M
  refine call_reduce (map_walk hh (z := I + 2) (T := I + 1) (I := I) (Nat.succ_ne_self I) (Nat.ne_of_gt (Nat.lt_add_of_pos_right (by decide))) x u) (xorAt x) Builtin.bitXor (.builtin "_operator.xor") ?v ?op ⟨a, b, c⟩ ?fp ?q
  case v =>
    rintro i v ⟨c, u, hc, rfl⟩
    refine ⟨u, ?_⟩
    unfold xorAt
    have : x.cps.getD i 0 = c := by
      rw [Array.getD_eq_getD_getElem?, hc]; rfl
    rw [this]
  case op => exact fun i a b t u s Q E _ _ _ k => xor_call k
  case fp =>
    intro b hb
    simp only [List.mem_cons, List.not_mem_nil, or_false] at hb
    rcases hb with rfl | rfl | rfl
    · exact Nat.lt_of_lt_of_le (Nat.lt_succ_self _) hz
    · exact Nat.lt_of_lt_of_le (Nat.lt_succ_of_lt (Nat.lt_succ_self _)) hz
    · exact Nat.lt_of_lt_of_le (Nat.lt_succ_of_lt (Nat.lt_succ_of_lt (Nat.lt_succ_self _))) hz
  case q =>
    intro h' tk t' hk
    have kp : ∀ b o, b ≠ I → s.heap.get? b = some o → h'.get? b = some o := fun b o hn e => hk b o (by simpa using hn) e
    refine h h' tk t' ⟨F.ns.at fun o e => kp _ o (Nat.ne_of_lt hL) e, fun b o e => kp b o (fun q => by rw [q, hb] at e; cases e) (F.keep b o e), F.above⟩ fun p hp => ⟨kp _ _ (Nat.ne_of_lt (hlt p hp)) (N p hp).1, (N p hp).2⟩
end
theorem xor_bound {a b : Int} (ha : 0 ≤ a ∧ a < 128) (hb : 0 ≤ b ∧ b < 128) : 0 ≤ Builtin.bitXor a b ∧ Builtin.bitXor a b < 128 := by
  obtain ⟨x, rfl⟩ := Int.eq_ofNat_of_zero_le ha.1
  obtain ⟨y, rfl⟩ := Int.eq_ofNat_of_zero_le hb.1
  have h1 : Builtin.bitAnd (x : Int) (y : Int) = ((x &&& y : Nat) : Int) := by
    unfold Builtin.bitAnd
    simp
  have h2 : Builtin.bitOr (x : Int) (y : Int) = ((x ||| y : Nat) : Int) := by
    have nn : ∀ z : Int, Builtin.bitNot (Builtin.bitNot z) = z := fun z => by unfold Builtin.bitNot; omega
    have n1 : ∀ z : Nat, decide (0 ≤ Builtin.bitNot (z : Int)) = false := fun z => decide_eq_false (by unfold Builtin.bitNot; omega)
    unfold Builtin.bitOr Builtin.bitAnd
    rw [n1, n1]
    dsimp only
    rw [nn, nn, nn]
    rfl
  have h3 : Builtin.bitXor (x : Int) (y : Int) = ((x ||| y : Nat) : Int) - ((x &&& y : Nat) : Int) := by
    unfold Builtin.bitXor
    rw [h1, h2]
  have h4 : x ||| y < 2 ^ 7 := Nat.or_lt_two_pow (by omega) (by omega)
  have h5 : x &&& y ≤ x := Nat.and_le_left
  have h6 : x ≤ x ||| y := Nat.left_le_or
  omega
theorem xor_fold {x : Str} (hx : Low x) : ∀ n, n ≤ x.cps.size → 0 ≤ foldV (xorAt x) Builtin.bitXor n ∧ foldV (xorAt x) Builtin.bitXor n < 128
  | 0, _ => ⟨Int.le_refl _, by show (0 : Int) < 128; decide⟩
  | n + 1, h => by
    refine xor_bound (xor_fold hx n (by omega)) ⟨Int.natCast_nonneg _, ?_⟩
    have := hx (x.cps.getD n 0) (by rw [Array.getD_eq_getD_getElem?, Array.getElem?_eq_getElem (by omega)]; simp)
    unfold xorAt
    omega
theorem xor_low {x : Str} (hx : Low x) : 0 ≤ xorOf x ∧ xorOf x < 128 := xor_fold hx _ (Nat.le_refl _)
theorem xor_signs (x : Str) : ∀ n, n ≤ x.cps.size → foldV (xorAt x) Builtin.bitXor n = ((signs x).take n).foldl (fun a (c : Str) => Builtin.bitXor a ((c.cps.getD 0 0 : Nat) : Int)) 0
  | 0, _ => rfl
  | n + 1, h => by
    have e : (signs x)[n]? = some ⟨#[x.cps[n]]⟩ := by
      unfold signs
      rw [List.getElem?_map]
      simp [show n < x.cps.size from h]
    rw [List.take_add_one, e, Option.toList_some, List.foldl_append, ← xor_signs x n (by omega)]
    show Builtin.bitXor _ _ = Builtin.bitXor _ _
    congr 1
    unfold xorAt
    rw [Array.getD_eq_getD_getElem?, Array.getElem?_eq_getElem h]
    rfl
theorem xor_signs_all (x : Str) : (signs x).foldl (fun a (c : Str) => Builtin.bitXor a ((c.cps.getD 0 0 : Nat) : Int)) 0 = xorOf x := by
  have h := xor_signs x x.cps.size (Nat.le_refl _)
  unfold xorOf
  rw [h, List.take_of_length_le]
  exact Nat.le_of_eq (signs_length x)
end Mine

end

/-! part Pct -/
section
open PySem PySem.W PySem.Calls PyProof.Rows
open PySem.Builtin PySem.Builtin.Str
namespace Mine
def hexDig (n : Nat) : Nat := if n < 10 then 48 + n else 55 + n
def hexOf (n : Nat) : Str := ⟨#[hexDig (n / 16), hexDig (n % 16)]⟩
def pctF : Percent := { zero := true, width := some 2, type := 88 }
theorem pct_text : ∀ n, n < 128 → (match percentField pctF true (percentInt pctF false ((Nat.toDigits 16 n).map Char.toNat)) with | none => percentInt pctF false ((Nat.toDigits 16 n).map Char.toNat) | some t => t) = [hexDig (n / 16), hexDig (n % 16)] := by
  decide +kernel
theorem pct_end {M : Model} {A : Around} {E : Value → Shared → Prop} {s : Shared} {β : Type} {Q : β → Shared → Prop} {n : Nat} {b : Bool} (hn : n < 128) (hb : b = false) {T : List Nat → Option Value → Sem β}
    (h : wpAny M A (T [hexDig (n / 16), hexDig (n % 16)] none) Q E s) : wpAny M A (match percentField pctF true (percentInt pctF b ((Nat.toDigits 16 n).map Char.toNat)) with | none => T (percentInt pctF b ((Nat.toDigits 16 n).map Char.toNat)) none | some laid => T laid none) Q E s := by
  subst hb
  have e := pct_text n hn
  revert e
  cases percentField pctF true (percentInt pctF false ((Nat.toDigits 16 n).map Char.toNat)) with
  | none => intro e; dsimp only at e ⊢; rw [e]; exact h
  | some l => intro e; dsimp only at e ⊢; rw [e]; exact h
theorem mod_hex {prog : Program} {w : World} {A : Around} {E : Value → Shared → Prop} {s : Shared} {n : Int} {t u : Tok} {Q : Value → Shared → Prop} (h0 : 0 ≤ n) (h1 : n < 128)
    (h : ∀ t' k, Q (.str (Str.ofString "*" ++ hexOf n.toNat) t') { s with toks := k }) : wpAny (model prog w) A (binaryOp .Mod (.str (Str.ofString "*%02X") t) (.int n u)) Q E s := by
  refine KPc.mod_lit (X' := ⟨#[42, 37, 48, 50, 88]⟩) (T := Str.ofString "*" ++ hexOf n.toNat) (by decide +kernel) (shown (N := 2 ^ 1920) (by omega) (by omega) (Int.le_refl _)) (fun g1 g2 => ?_) h
  apply KPc.meets_of
  intro prog w A s Q E hQ
  rw [KPc.entry_is]
  unfold Builtin.Str.percentFormat
  refine wpAny_bind (wpAny_isInstance (typeIs_int _ _ _) F.sub_int_tuple ?_)
  refine wpAny_bind (wpAny_of_eq (a := none) rfl ?_)
  refine wpAny_bind (wpAny_of_eq (KPc.fills _ _) ?_)
  kpc_if
  refine wpAny_bind (wpAny_pure ?_)
  refine wpAny_bind ?_
  rw [KPc.range_list]
  refine KPc.start ?_
  intro w' g'
  refine KPc.turn ?_
  kpc_check
  (repeat kpc_if)
  (refine wpAny_pure ?_; kpc_piece)
  refine KPc.turn ?_
  kpc_check
  (repeat kpc_if)
  refine wpAny_bind ?_
  refine wpAny_holding ?_
  (repeat kpc_if)
  refine wpAny_bind (wpAny_of_eq (a := n) rfl ?_)
  (repeat kpc_if)
  refine wpAny_bind (wpAny_of_eq (a := (Nat.toDigits 16 n.natAbs).map Char.toNat) rfl ?_)
  refine wpAny_pure ?_
  have hneg : decide (n < 0) = false := decide_eq_false (by omega)
  dsimp only
  change wpAny _ _ (match percentField pctF true (percentInt pctF (decide (n < 0)) ((Nat.toDigits 16 n.natAbs).map Char.toNat)) with | none => pure (ForInStep.yield ([], Writer.add _ ⟨(percentInt pctF (decide (n < 0)) ((Nat.toDigits 16 n.natAbs).map Char.toNat)).toArray⟩ none, [])) | some laid => pure (ForInStep.yield ([], Writer.add _ ⟨laid.toArray⟩ none, []))) _ _ _
  refine pct_end (n := n.natAbs) (T := fun text o => pure (ForInStep.yield ([], Writer.add _ ⟨text.toArray⟩ o, []))) (by omega) hneg ?_
  have e9 : n.natAbs = n.toNat := by omega
  refine wpAny_pure ?_
  refine KPc.after_add (y := hexOf n.toNat) (by kpc_g) (by rw [e9]; rfl) (KPc.obj_none rfl) ?_
  intro w2 g2
  have hN : 0 + (Str.ofString "*").length + (hexOf n.toNat).length ≤ 16777216 := by
    have e1 : (Str.ofString "*").length = 1 := by decide +kernel
    have e2 : (hexOf n.toNat).length = 2 := rfl
    omega
  refine KPc.turn ?_
  refine wpAny_ite (KPc.ite_no (KPc.short_good g2 hN) ?_)
  (repeat kpc_if)
  refine wpAny_pure ?_
  kpc_if
  exact KPc.finish_ok g2 hN rfl hQ
end Mine

end

/-! part LowB -/
section
open PySem PySem.W PySem.Calls PyProof.Rows
namespace Mine
theorem low_app {x y : Str} (h : Low x) (k : Low y) : Low (x ++ y) := by
  intro c hc
  rw [Str.cps_append, Array.toList_append] at hc
  rcases List.mem_append.mp hc with hc | hc
  · exact h c hc
  · exact k c hc
def clsOf : Nat → Nat
  | 0 => 260
  | 1 => 281
  | 2 => 235
  | _ => 209
theorem clsOf_is (k : Nat) : IsCls (clsOf k) := by
  match k with
  | 0 => exact .inl rfl
  | 1 => exact .inr (.inl rfl)
  | 2 => exact .inr (.inr (.inl rfl))
  | _ + 3 => exact .inr (.inr (.inr rfl))
theorem hex_len (n : Nat) : (hexOf n).length ≤ 2 := Nat.le_refl _
theorem len_app {x y : Str} {a b : Nat} (h : x.length ≤ a) (k : y.length ≤ b) : (x ++ y).length ≤ a + b := by
  rw [Str.length_append]
  omega
section
variable {prog : Program} {w : World} {A : Around} {E : Value → Shared → Prop} {s : Shared} {Q : Value → Shared → Prop} {x y : Str} {t u : Tok}
theorem add_m (hx : (x ++ y).length ≤ 40000) (h : ∀ t' k, Q (.str (x ++ y) t') { s with toks := k }) : wpAny (model prog w) A (binaryOp .Add (.str x t) (.str y u)) Q E s :=
  PyProof.Rows.add_str h (by rw [Str.length_append] at hx; rw [sizeLine_eq]; omega)
theorem iadd_m (hx : (x ++ y).length ≤ 40000) (h : ∀ t' k, Q (.str (x ++ y) t') { s with toks := k }) : wpAny (model prog w) A (inplaceOp .Add (.str x t) (.str y u)) Q E s :=
  PyProof.Rows.iadd_str h (by rw [Str.length_append] at hx; rw [sizeLine_eq]; omega)
end
def idfOf : Nat → Nat
  | 0 => 180
  | 1 => 180
  | 2 => 232
  | _ => 206
theorem head_len (n : Nat) : (headsL.getD n (S "")).length ≤ 9 := by
  have q : ∀ n, n < 5 → (headsL.getD n (S "")).length ≤ 9 := by decide +kernel
  by_cases h : n < 5
  · exact q n h
  · rw [List.getD_eq_getElem?_getD, List.getElem?_eq_none (by show headsL.length ≤ n; exact Nat.le_of_not_lt h)]
    decide +kernel
theorem head_low (n : Nat) : Low (headsL.getD n (S "")) := by
  have q : ∀ n, n < 5 → Low (headsL.getD n (S "")) := by unfold Low; decide +kernel
  by_cases h : n < 5
  · exact q n h
  · rw [List.getD_eq_getElem?_getD, List.getElem?_eq_none (by show headsL.length ≤ n; exact Nat.le_of_not_lt h)]
    unfold Low
    decide +kernel
theorem headS_len (n : Nat) : (headS n).length ≤ 9 := head_len n
theorem headS_low (n : Nat) : Low (headS n) := head_low n
end Mine

end

/-! part Ren -/
section
open PySem PySem.W PySem.Calls PyProof.Rows
local macro_rules | `(tactic| walk_at "getAttr ref") => `(tactic| (k_here; k_dflt (first
  | (refine' Mine.own_h ?k1 ?k2 ?k3 ?k4 ?k5 ?k6 ?k7 ?k8 ?k9 ?_; (case k1 => k_asm); (case k2 => k_asm); (case k3 => k_inst); (case k4 => k_is); (case k5 => k_is); (case k6 => k_is); (case k7 => k_is); (case k8 => first | assumption | k_get); (case k9 => k_handed); k_whole)
  | (refine' Mine.prop_h ?k1 ?k2 ?k3 ?k4 ?k10 ?k5 ?k6 ?k7 ?k8 ?k9 ?_; (case k1 => k_asm); (case k2 => k_asm); (case k3 => k_inst); (case k4 => k_is); (case k10 => k_is); (case k5 => k_is); (case k6 => k_is); (case k7 => k_is); (case k8 => k_is); (case k9 => k_is); k_whole; k_enter)
  | (refine' Mine.bound_h ?k1 ?k2 ?k3 ?k4 ?k5 ?k10 ?k6 ?k7 ?k8 ?k9 ?k11 ?k12 ?k13 ?_; (case k4 => k_inst); (case k1 => k_asm); (case k2 => k_asm); (case k7 => k_is); (case k3 => k_asm); (case k5 => k_is); (case k10 => k_is); (case k6 => k_is); (case k8 => k_is); (case k9 => k_is); (case k11 => k_is); (case k12 => decide +kernel); (case k13 => first | assumption | k_get); k_whole; intro q' h' F' N' l1; (try k_lt l1); (try k_sweep)))))
local macro_rules | `(tactic| walk_at "getMethod ref") => `(tactic| (k_here; k_dflt (refine' Mine.method_h ?k1 ?k2 ?k3 ?k4 ?k5 ?_; (case k1 => k_asm); (case k2 => k_asm); (case k3 => k_inst); (case k4 => k_is); (case k5 => k_is); k_whole)))
local macro_rules | `(tactic| size_fits) => `(tactic| first | ((try simp only [List.size_toArray, Array.size_push, List.push_toArray, List.length_append, List.length_cons, List.length_nil]); (simp only [PySem.sizeLine_eq]); omega) | fail "size_fits: mine")
local macro_rules | `(tactic| walk_at "my_keeps") => `(tactic| (intro z hz; (obtain ⟨i1, i2, i3, i4, i5, i6⟩ := Mine.idle_ne hz); first | rfl | ((refine Eq.trans ?_ (congrFun (by assumption : (_ : Str → Option Value) = _) z)); (try simp only [i1, i2, i3, i4, i5, i6, if_false]); done)))
local macro_rules | `(tactic| walk_at "my_expose") => `(tactic| ((have e1 := (rfl : Mine.lawScope = Mine.lawScope)); (conv at e1 => rhs; whnf); (dsimp only at e1); (conv in (Mine.turnAt _) => whnf); (rw [e1]); clear e1))
local macro_rules | `(tactic| walk_at "my_lt") => `(tactic| first | assumption | exact Mine.allLt_to (by assumption) | (refine List.forall_mem_cons.mpr ⟨by (dsimp only; omega), ?_⟩; walk_at "my_lt"))
local macro_rules | `(tactic| walk_at "my_keepsP") => `(tactic| (intro z hz hp9; (obtain ⟨i1, i2, i3, i4, i5, i6⟩ := Mine.idle_ne hz); first | rfl | ((refine Eq.trans ?_ (congrFun (by assumption : (_ : Str → Option Value) = _) z)); (try simp only [i1, i2, i3, i4, i5, i6, hp9, if_false]); done)))
local macro_rules | `(tactic| walk_at "getAttr ref") => `(tactic| (k_here; (with_reducible show wpAny _ _ (getAttr (Value.ref _) (PySem.Str.ofString "data") _) _ _ _); k_dflt (refine' Mine.data_get ?k1 ?k2 ?k3 ?k4 ?k5 ?k6 ?k7 ?_; (case k1 => k_asm); (case k2 => k_asm); (case k3 => k_asm); (case k4 => k_mem); (case k5 => k_mem); (case k6 => k_asm); (case k7 => first | assumption | (unfold Mine.IsCls; decide)); k_whole)))
local macro_rules | `(tactic| walk_at "my_len") => `(tactic| first | omega | ((try simp only [List.length_append, List.length_cons, List.length_nil, List.length_set, List.length_dropLast, List.length_drop]); omega))
local macro_rules | `(tactic| walk_at "call builtin:len") => `(tactic| (k_here; (with_reducible show wpAny _ _ (call (Value.builtin "len") [Value.ref _]) _ _ _); k_dflt (refine' Mine.len_n ?a ?b ?c ?_; (case a => k_asm); (case b => k_mem); (case c => walk_at "my_len"); k_whole)))
local macro_rules | `(tactic| walk_at "call builtin:list.append") => `(tactic| (k_here; (with_reducible show wpAny _ _ (call (Value.builtin _) [Value.ref _, _]) _ _ _); k_dflt (refine' Mine.append_n ?a ?b ?c ?d ?_; (case a => k_asm); (case b => k_asm); (case c => k_upd); (case d => walk_at "my_len"); k_whole); intro h' F' N'; (try k_sweep)))
local macro_rules | `(tactic| walk_at "call builtin:list.pop") => `(tactic| (k_here; (with_reducible show wpAny _ _ (call (Value.builtin _) [Value.ref _]) _ _ _); k_dflt (refine' Mine.pop_n ?a ?b ?c ?d ?e ?_; (case a => k_asm); (case b => k_asm); (case c => k_upd); (case d => walk_at "my_len"); (case e => walk_at "my_len"); k_whole); intro h' y' F' N'; (try k_sweep)))
local macro_rules | `(tactic| walk_at "setItem ref int") => `(tactic| (k_here; (with_reducible show wpAny _ _ (setItem (Value.ref _) (Value.int _ _) _) _ _ _); k_dflt (refine' Mine.set_n ?a ?b ?c ?d ?e ?f ?_; (case a => k_asm); (case b => k_asm); (case c => k_upd); (case d => first | omega | exact Int.fmod_nonneg_of_pos _ (by omega)); (case e => first | (refine Int.lt_of_lt_of_le (Int.fmod_lt_of_pos _ (by omega)) ?_; walk_at "my_len") | walk_at "my_len"); (case f => walk_at "my_len"); k_whole); intro h' F' N'; (try k_sweep)))
local macro_rules | `(tactic| walk_at "subscriptTail Name Slice ref ref") => `(tactic| (k_here; (with_reducible show wpAny _ _ (subscriptTail _ (PySem.Expr.Slice _ _ none _) (Value.ref _) (Value.ref _)) _ _ _); k_dflt (refine' kms_slice_lit ?F ?N ?l ?p ?q ?e ?_ ?s ?t ?z; (case F => k_asm); (case N => k_asm); (case l => exact PyProof.Rows.News.isList (by k_asm) (by k_mem)); (case p => kmk_part); (case q => kmk_part); (case e => first | exact Mine.pick_from _ | exact Mine.pick_all _); (case s => with_unfolding_all rfl); (case t => kmk_pure); (case z => ((simp only [List.size_toArray, PySem.sizeLine_eq]); omega))); intro D' h' F' N' l1; (try k_lt l1); (try dsimp only at F' N'); (try dsimp only); (try k_sweep)))
local macro_rules | `(tactic| walk_at "subscriptTail") => `(tactic| (k_here; (with_reducible show wpAny _ _ (subscriptTail _ _ (Value.ref _) (Value.int _ _)) _ _ _); k_dflt (refine' Mine.item_n ?a ?b ?c ?d ?e ?_; (case a => k_asm); (case b => k_mem); (case e => first | assumption | with_unfolding_all assumption); (case c => first | omega | exact Int.fmod_nonneg_of_pos _ (by omega)); (case d => first | omega | (refine Int.lt_trans (Int.fmod_lt_of_pos _ (by omega)) ?_; omega)); k_whole)))
local macro_rules | `(tactic| walk_at "subscriptTail Name Name ref int") => `(tactic| (k_here; (with_reducible show wpAny _ _ (subscriptTail _ _ (Value.ref _) (Value.int _ _)) _ _ _); k_dflt (refine' Mine.item_n ?a ?b ?c ?d ?e ?_; (case a => k_asm); (case b => k_mem); (case e => first | assumption | with_unfolding_all assumption); (case c => first | omega | exact Int.fmod_nonneg_of_pos _ (by omega)); (case d => first | omega | (refine Int.lt_trans (Int.fmod_lt_of_pos _ (by omega)) ?_; omega)); k_whole)))
local macro_rules | `(tactic| walk_at "getAttr ref") => `(tactic| (k_here; (with_reducible show wpAny _ _ (getAttr (Value.ref _) (PySem.Str.ofString "waypoint_list") _) _ _ _); k_dflt (refine' Mine.wl_get ?k1 ?k2 ?B ?F ?N ?hk ?hd ?t ?d ?a ?D ?v ?w ?_; (case k1 => k_asm); (case k2 => k_asm); (case B => k_asm); (case F => k_asm); (case N => k_asm); (case hk => first | rfl | assumption); (case hd => first | decide | omega | ktr_room); (case t => k_mem); (case d => k_mem); (case D => k_asm); (case a => k_mem); (case v => walk_at "my_len"); (case w => assumption)); intro D' h' tk' F' N' l1; (try k_lt l1); (try dsimp only at F' N'); (try dsimp only); (try k_sweep)))
local macro_rules | `(tactic| walk_at "eval DictComp") => `(tactic| (k_here; with_unfolding_all refine' Mine.dictcomp_k ?a ?b ?c ?d ?e ?_; (case a => with_unfolding_all rfl); (case b => with_unfolding_all rfl); (case c => decide); (case d => (intro _; rfl)); (case e => rfl); (try dsimp only)))
local macro_rules | `(tactic| walk_at "call type:enumerate") => `(tactic| (k_here; (first
  | ((with_reducible show wpAny _ _ (call (Value.type "enumerate") [Value.ref 249]) _ _ _); (with_unfolding_all refine' Mine.comp_call (names := Mine.namesL) ?hh ?F ?N (Mine.fields_rte ?K).1 ?l ?z Mine.namesL_nodup (Mine.fields_rte ?K).2 ?c ?k ?f ?g ?n ?o ?p ?_))
  | ((with_reducible show wpAny _ _ (call (Value.type "enumerate") [Value.ref 99]) _ _ _); (with_unfolding_all refine' Mine.comp_call (names := []) ?hh ?F ?N (Mine.fields_base ?K).1 ?l ?z List.nodup_nil (Mine.fields_base ?K).2 ?c ?k ?f ?g ?n ?o ?p ?_))); (case K => k_asm); (case F => k_asm); (case N => k_asm); (case hh => with_unfolding_all rfl); (case l => rfl); (case z => decide); (case c => decide); (case k => rfl); (case f => with_unfolding_all rfl); (case g => with_unfolding_all rfl); (case n => decide); (case o => decide); (case p => decide); intro D' kvs' h' tk' hlt' F' N' hd' hkv'; (try k_sweep)))
local macro_rules | `(tactic| walk_at "subscriptTail") => `(tactic| (k_here; (with_reducible show wpAny _ _ (subscriptTail _ _ (Value.ref _) (Value.str _ _)) _ _ _); (rename Mine.Kvs _ _ => hkv9); (rename Heap.DictOf _ _ _ _ => hd9); (obtain ⟨t9, hv9⟩ := Mine.Kvs.valueAt hkv9 Mine.namesL_nodup (by assumption)); k_dflt (refine' Mine.item_kvs hd9 hv9 ?_; k_whole); clear hv9 hkv9 hd9))
local macro_rules | `(tactic| walk_at "setItem ref int") => `(tactic| (k_here; (with_reducible show wpAny _ _ (setItem (Value.ref _) (Value.int _ _) _) _ _ _); k_dflt (refine' Mine.setItem_oob ?a ?b ?c ?d ?e ?_; (case a => with_unfolding_all rfl); (case b => exact PyProof.Rows.News.isList (by k_asm) (by k_mem)); (case c => omega); (case d => omega); (case e => ((simp only [List.size_toArray]); omega)); k_whole); intro h' tk' e' hexc'))
local macro_rules | `(tactic| walk_at "call builtin:str.join") => `(tactic| (k_here; (with_reducible show wpAny _ _ (call (Value.builtin _) [Value.str _ _, Value.ref _]) _ _ _); k_dflt (refine' Mine.join_n ?a ?b ?c ?d ?e ?_; (case a => k_asm); (case b => k_mem); (case c => assumption); (case d => decide); (case e => assumption); k_whole); intro t9 k9))
local macro_rules | `(tactic| walk_at "binaryOp Add str str") => `(tactic| (k_here; (with_reducible show wpAny _ _ (binaryOp Operator.Add (Value.str _ _) (Value.str _ _)) _ _ _); k_dflt (refine' Mine.add_n ?a ?b ?_; (case a => decide +kernel); (case b => assumption); k_whole); intro t9 k9))
local macro_rules | `(tactic| walk_at "subscriptTail Name Name ref int") => `(tactic| (k_here; (with_reducible show wpAny _ _ (subscriptTail _ _ (Value.ref 284) (Value.int _ _)) _ _ _); k_dflt (refine' Mine.head_get ?a ?b ?c ?d ?_; (case a => k_asm); (case b => k_asm); (case c => decide); (case d => decide); k_whole); intro t9))
namespace Mine
theorem five {k : Nat} (hk : k < 5) : k = 0 ∨ k = 1 ∨ k = 2 ∨ k = 3 ∨ k = 4 := by omega
section
variable {w : World} {mean : ExcName → Option Value} {mg mb : Str → Option Value} {h₀ : Heap} {A : Around} {E : Value → Shared → Prop} {L : Addr} {m : Str → Option Value} {news : List (Addr × Obj)} {s : Shared} {k t d a n : Nat} {es : List DictEntry}
theorem ren_get {expr : Bool} {Q : Value → Shared → Prop} (KX : (hd.heap_39 w.params).In h₀) (hk : k < 5) (F : Fr h₀ L s.heap m) (N : News h₀ L s.heap news) (ht : (t, instObj (clsOf k) d) ∈ news) (hdd : (d, dictOf es n) ∈ news) (D : DictIs es a)
    (h : ∀ q h', Fr h₀ L h' m → News h₀ L h' ((q, methodObj (.ref 145) (.ref t)) :: news) → (∀ p ∈ news, p.1 < q) → Q (.ref q) { s with heap := h', toks := s.toks + 1 }) :
    wpAny (model PySem.Challenge.rw_dg5010_01.row.prog w) A (getAttr (.ref t) (Str.ofString "render") expr) Q E s := by
  revert KX
  k_fill
  intro KX
  have D1 := D.ren
  rcases five hk with rfl | rfl | rfl | rfl | rfl
  all_goals (
    refine' Mine.bound_h F KX N (InstAt.of_news N ht hdd) ?a ?b ?c ?d ?e ?f ?g ?i D1 h
    (case a => k_is)
    (case b => k_is)
    (case c => k_is)
    (case d => k_is)
    (case e => k_is)
    (case f => k_is)
    (case g => k_is)
    (case i => decide +kernel))
theorem idf_get {expr : Bool} {Q : Value → Shared → Prop} (KX : (hd.heap_39 w.params).In h₀) (hk : k < 5) (F : Fr h₀ L s.heap m) (N : News h₀ L s.heap news) (ht : (t, instObj (clsOf k) d) ∈ news) (hdd : (d, dictOf es n) ∈ news) (D : DictIs es a)
    (h : ∀ q h', Fr h₀ L h' m → News h₀ L h' ((q, methodObj (.ref (idfOf k)) (.ref t)) :: news) → (∀ p ∈ news, p.1 < q) → Q (.ref q) { s with heap := h', toks := s.toks + 1 }) :
    wpAny (model PySem.Challenge.rw_dg5010_01.row.prog w) A (getAttr (.ref t) (Str.ofString "identifier") expr) Q E s := by
  revert KX
  k_fill
  intro KX
  have D1 := D.idf
  rcases five hk with rfl | rfl | rfl | rfl | rfl
  all_goals (
    refine' Mine.bound_h F KX N (InstAt.of_news N ht hdd) ?a ?b ?c ?d ?e ?f ?g ?i D1 h
    (case a => k_is)
    (case b => k_is)
    (case c => k_is)
    (case d => k_is)
    (case e => k_is)
    (case f => k_is)
    (case g => k_is)
    (case i => decide +kernel))
theorem meth_of {name : Str} {pl : Sem Bool} {Q : Value × List Value → Shared → Prop} (KX : (hd.heap_39 w.params).In h₀) (hk : k < 5) (F : Fr h₀ L s.heap m) (N : News h₀ L s.heap news) (ht : (t, instObj (clsOf k) d) ∈ news) (hdd : (d, dictOf es n) ∈ news)
    (h : wpAny (model PySem.Challenge.rw_dg5010_01.row.prog w) A (getAttr (.ref t) name) (fun v => Q (v, [])) E s) : wpAny (model PySem.Challenge.rw_dg5010_01.row.prog w) A (getMethod (.ref t) name pl) Q E s := by
  revert KX
  k_fill
  intro KX
  rcases five hk with rfl | rfl | rfl | rfl | rfl
  all_goals (
    refine' Mine.method_h F KX (InstAt.of_news N ht hdd) ?a ?b h
    (case a => k_is)
    (case b => k_is))
theorem cw_idf {q : Addr} {pos : Pos} {env : Env} {Q : Value → Shared → Prop} (KX : (hd.heap_39 w.params).In h₀) (hk : k < 5) (F : Fr h₀ L s.heap m) (N : News h₀ L s.heap news) (hq : (q, methodObj (.ref (idfOf k)) (.ref t)) ∈ news)
    (h : wpAny (model PySem.Challenge.rw_dg5010_01.row.prog w) A (call (.ref q) ([] ++ [])) Q E s) : wpAny (model PySem.Challenge.rw_dg5010_01.row.prog w) A (callWith pos (.ref q) [] (backTo pos (starEach [] env)) []) Q E s := by
  revert KX
  k_fill
  intro KX
  have X := KX.keeps F.keep
  rcases five hk with rfl | rfl | rfl | rfl | rfl
  all_goals (
    refine' callWith_M0 (methP N hq X) ?a h
    (case a => k_is))
theorem idf_call {dp un : Nat} {gd : Option (List Code)} {cn : Str} {cs : Scope} {fa : Addr} {ccd : Value} {cl : List (Str × Addr)} {outer : List Env} {A₀ : Around} {base : Heap} {R : Result → Shared → Prop}
    (KX : (hd.heap_39 w.params).In h₀) (T : Top hd.view_39 loosesW mean mg mb h₀) (B : Below A₀ base outer h₀) (F : Fr h₀ L s.heap m) (N : News h₀ L s.heap news) (hkk : cs.kind = .function) (hdp : dp + 3 < recursionLimit)
    (hk : k < 5) (ht : (t, instObj (clsOf k) d) ∈ news) (hdd : (d, dictOf es n) ∈ news) (D : DictIs es a) (KI : KindIs es k)
    (ret : ∀ h' tk t', Fr h₀ L h' m → News h₀ L h' news → R (.ok (.ret (.str (headS k) t'))) { s with heap := h', toks := tk }) :
    codeAny (model PySem.Challenge.rw_dg5010_01.row.prog w) (ktrTop dp un gd cn cs L fa ccd cl outer) (.call (.ref (idfOf k)) ⟨[.ref t], []⟩) R s := by
  revert KX
  k_fill
  intro KX
  rcases five hk with rfl | rfl | rfl | rfl | rfl
  · obtain ⟨⟨t1, K1⟩, ⟨t2, K2⟩⟩ := KI
    show codeAny _ _ (.call (.ref 180) _) _ _
    ktr_enter
    k_steps
    rename Fr _ _ _ _ => F9
    rename News _ _ _ _ => N9
    exact Eq.mp (congrArg (fun z => R (.ok (.ret (.str z _))) _) (by decide +kernel : headS 0 = _)) (ret _ _ _ F9 N9)
  · obtain ⟨⟨t1, K1⟩, ⟨t2, K2⟩⟩ := KI
    show codeAny _ _ (.call (.ref 180) _) _ _
    ktr_enter
    k_steps
    rename Fr _ _ _ _ => F9
    rename News _ _ _ _ => N9
    exact Eq.mp (congrArg (fun z => R (.ok (.ret (.str z _))) _) (by decide +kernel : headS 1 = _)) (ret _ _ _ F9 N9)
  · obtain ⟨t1, K1⟩ := KI
    show codeAny _ _ (.call (.ref 232) _) _ _
    ktr_enter
    k_steps
    rename Fr _ _ _ _ => F9
    rename News _ _ _ _ => N9
    exact Eq.mp (congrArg (fun z => R (.ok (.ret (.str z _))) _) (by decide +kernel : headS 2 = _)) (ret _ _ _ F9 N9)
  · obtain ⟨⟨t1, K1⟩, ⟨t2, K2⟩, ⟨t3, K3⟩⟩ := KI
    show codeAny _ _ (.call (.ref 206) _) _ _
    ktr_enter
    k_steps
    rename Fr _ _ _ _ => F9
    rename News _ _ _ _ => N9
    exact Eq.mp (congrArg (fun z => R (.ok (.ret (.str z _))) _) (by decide +kernel : headS 3 = _)) (ret _ _ _ F9 N9)
  · obtain ⟨⟨t1, K1⟩, ⟨t2, K2⟩, ⟨t3, K3⟩⟩ := KI
    show codeAny _ _ (.call (.ref 206) _) _ _
    ktr_enter
    k_steps
    rename Fr _ _ _ _ => F9
    rename News _ _ _ _ => N9
    exact Eq.mp (congrArg (fun z => R (.ok (.ret (.str z _))) _) (by decide +kernel : headS 4 = _)) (ret _ _ _ F9 N9)
end
end Mine

end

/-! part RenF -/
section
open PySem PySem.W PySem.Calls PyProof.Rows
local macro_rules | `(tactic| walk_at "getAttr ref") => `(tactic| (k_here; k_dflt (first
  | (refine' Mine.own_h ?k1 ?k2 ?k3 ?k4 ?k5 ?k6 ?k7 ?k8 ?k9 ?_; (case k1 => k_asm); (case k2 => k_asm); (case k3 => k_inst); (case k4 => k_is); (case k5 => k_is); (case k6 => k_is); (case k7 => k_is); (case k8 => first | assumption | k_get); (case k9 => k_handed); k_whole)
  | (refine' Mine.prop_h ?k1 ?k2 ?k3 ?k4 ?k10 ?k5 ?k6 ?k7 ?k8 ?k9 ?_; (case k1 => k_asm); (case k2 => k_asm); (case k3 => k_inst); (case k4 => k_is); (case k10 => k_is); (case k5 => k_is); (case k6 => k_is); (case k7 => k_is); (case k8 => k_is); (case k9 => k_is); k_whole; k_enter)
  | (refine' Mine.bound_h ?k1 ?k2 ?k3 ?k4 ?k5 ?k10 ?k6 ?k7 ?k8 ?k9 ?k11 ?k12 ?k13 ?_; (case k4 => k_inst); (case k1 => k_asm); (case k2 => k_asm); (case k7 => k_is); (case k3 => k_asm); (case k5 => k_is); (case k10 => k_is); (case k6 => k_is); (case k8 => k_is); (case k9 => k_is); (case k11 => k_is); (case k12 => decide +kernel); (case k13 => first | assumption | k_get); k_whole; intro q' h' F' N' l1; (try k_lt l1); (try k_sweep)))))
local macro_rules | `(tactic| walk_at "getMethod ref") => `(tactic| (k_here; k_dflt (refine' Mine.method_h ?k1 ?k2 ?k3 ?k4 ?k5 ?_; (case k1 => k_asm); (case k2 => k_asm); (case k3 => k_inst); (case k4 => k_is); (case k5 => k_is); k_whole)))
local macro_rules | `(tactic| size_fits) => `(tactic| first | ((try simp only [List.size_toArray, Array.size_push, List.push_toArray, List.length_append, List.length_cons, List.length_nil]); (simp only [PySem.sizeLine_eq]); omega) | fail "size_fits: mine")
local macro_rules | `(tactic| walk_at "my_keeps") => `(tactic| (intro z hz; (obtain ⟨i1, i2, i3, i4, i5, i6⟩ := Mine.idle_ne hz); first | rfl | ((refine Eq.trans ?_ (congrFun (by assumption : (_ : Str → Option Value) = _) z)); (try simp only [i1, i2, i3, i4, i5, i6, if_false]); done)))
local macro_rules | `(tactic| walk_at "my_expose") => `(tactic| ((have e1 := (rfl : Mine.lawScope = Mine.lawScope)); (conv at e1 => rhs; whnf); (dsimp only at e1); (conv in (Mine.turnAt _) => whnf); (rw [e1]); clear e1))
local macro_rules | `(tactic| walk_at "my_lt") => `(tactic| first | assumption | exact Mine.allLt_to (by assumption) | (refine List.forall_mem_cons.mpr ⟨by (dsimp only; omega), ?_⟩; walk_at "my_lt"))
local macro_rules | `(tactic| walk_at "my_keepsP") => `(tactic| (intro z hz hp9; (obtain ⟨i1, i2, i3, i4, i5, i6⟩ := Mine.idle_ne hz); first | rfl | ((refine Eq.trans ?_ (congrFun (by assumption : (_ : Str → Option Value) = _) z)); (try simp only [i1, i2, i3, i4, i5, i6, hp9, if_false]); done)))
local macro_rules | `(tactic| walk_at "getAttr ref") => `(tactic| (k_here; (with_reducible show wpAny _ _ (getAttr (Value.ref _) (PySem.Str.ofString "data") _) _ _ _); k_dflt (refine' Mine.data_get ?k1 ?k2 ?k3 ?k4 ?k5 ?k6 ?k7 ?_; (case k1 => k_asm); (case k2 => k_asm); (case k3 => k_asm); (case k4 => k_mem); (case k5 => k_mem); (case k6 => k_asm); (case k7 => first | assumption | (unfold Mine.IsCls; decide)); k_whole)))
local macro_rules | `(tactic| walk_at "my_len") => `(tactic| first | omega | ((try simp only [List.length_append, List.length_cons, List.length_nil, List.length_set, List.length_dropLast, List.length_drop]); omega))
local macro_rules | `(tactic| walk_at "call builtin:len") => `(tactic| (k_here; (with_reducible show wpAny _ _ (call (Value.builtin "len") [Value.ref _]) _ _ _); k_dflt (refine' Mine.len_n ?a ?b ?c ?_; (case a => k_asm); (case b => k_mem); (case c => walk_at "my_len"); k_whole)))
local macro_rules | `(tactic| walk_at "call builtin:list.append") => `(tactic| (k_here; (with_reducible show wpAny _ _ (call (Value.builtin _) [Value.ref _, _]) _ _ _); k_dflt (refine' Mine.append_n ?a ?b ?c ?d ?_; (case a => k_asm); (case b => k_asm); (case c => k_upd); (case d => walk_at "my_len"); k_whole); intro h' F' N'; (try k_sweep)))
local macro_rules | `(tactic| walk_at "call builtin:list.pop") => `(tactic| (k_here; (with_reducible show wpAny _ _ (call (Value.builtin _) [Value.ref _]) _ _ _); k_dflt (refine' Mine.pop_n ?a ?b ?c ?d ?e ?_; (case a => k_asm); (case b => k_asm); (case c => k_upd); (case d => walk_at "my_len"); (case e => walk_at "my_len"); k_whole); intro h' y' F' N'; (try k_sweep)))
local macro_rules | `(tactic| walk_at "setItem ref int") => `(tactic| (k_here; (with_reducible show wpAny _ _ (setItem (Value.ref _) (Value.int _ _) _) _ _ _); k_dflt (refine' Mine.set_n ?a ?b ?c ?d ?e ?f ?_; (case a => k_asm); (case b => k_asm); (case c => k_upd); (case d => first | omega | exact Int.fmod_nonneg_of_pos _ (by omega)); (case e => first | (refine Int.lt_of_lt_of_le (Int.fmod_lt_of_pos _ (by omega)) ?_; walk_at "my_len") | walk_at "my_len"); (case f => walk_at "my_len"); k_whole); intro h' F' N'; (try k_sweep)))
local macro_rules | `(tactic| walk_at "subscriptTail Name Slice ref ref") => `(tactic| (k_here; (with_reducible show wpAny _ _ (subscriptTail _ (PySem.Expr.Slice _ _ none _) (Value.ref _) (Value.ref _)) _ _ _); k_dflt (refine' kms_slice_lit ?F ?N ?l ?p ?q ?e ?_ ?s ?t ?z; (case F => k_asm); (case N => k_asm); (case l => exact PyProof.Rows.News.isList (by k_asm) (by k_mem)); (case p => kmk_part); (case q => kmk_part); (case e => first | exact Mine.pick_from _ | exact Mine.pick_all _); (case s => with_unfolding_all rfl); (case t => kmk_pure); (case z => ((simp only [List.size_toArray, PySem.sizeLine_eq]); omega))); intro D' h' F' N' l1; (try k_lt l1); (try dsimp only at F' N'); (try dsimp only); (try k_sweep)))
local macro_rules | `(tactic| walk_at "subscriptTail") => `(tactic| (k_here; (with_reducible show wpAny _ _ (subscriptTail _ _ (Value.ref _) (Value.int _ _)) _ _ _); k_dflt (refine' Mine.item_n ?a ?b ?c ?d ?e ?_; (case a => k_asm); (case b => k_mem); (case e => first | assumption | with_unfolding_all assumption); (case c => first | omega | exact Int.fmod_nonneg_of_pos _ (by omega)); (case d => first | omega | (refine Int.lt_trans (Int.fmod_lt_of_pos _ (by omega)) ?_; omega)); k_whole)))
local macro_rules | `(tactic| walk_at "subscriptTail Name Name ref int") => `(tactic| (k_here; (with_reducible show wpAny _ _ (subscriptTail _ _ (Value.ref _) (Value.int _ _)) _ _ _); k_dflt (refine' Mine.item_n ?a ?b ?c ?d ?e ?_; (case a => k_asm); (case b => k_mem); (case e => first | assumption | with_unfolding_all assumption); (case c => first | omega | exact Int.fmod_nonneg_of_pos _ (by omega)); (case d => first | omega | (refine Int.lt_trans (Int.fmod_lt_of_pos _ (by omega)) ?_; omega)); k_whole)))
local macro_rules | `(tactic| walk_at "getAttr ref") => `(tactic| (k_here; (with_reducible show wpAny _ _ (getAttr (Value.ref _) (PySem.Str.ofString "waypoint_list") _) _ _ _); k_dflt (refine' Mine.wl_get ?k1 ?k2 ?B ?F ?N ?hk ?hd ?t ?d ?a ?D ?v ?w ?_; (case k1 => k_asm); (case k2 => k_asm); (case B => k_asm); (case F => k_asm); (case N => k_asm); (case hk => first | rfl | assumption); (case hd => first | decide | omega | ktr_room); (case t => k_mem); (case d => k_mem); (case D => k_asm); (case a => k_mem); (case v => walk_at "my_len"); (case w => assumption)); intro D' h' tk' F' N' l1; (try k_lt l1); (try dsimp only at F' N'); (try dsimp only); (try k_sweep)))
local macro_rules | `(tactic| walk_at "eval DictComp") => `(tactic| (k_here; with_unfolding_all refine' Mine.dictcomp_k ?a ?b ?c ?d ?e ?_; (case a => with_unfolding_all rfl); (case b => with_unfolding_all rfl); (case c => decide); (case d => (intro _; rfl)); (case e => rfl); (try dsimp only)))
local macro_rules | `(tactic| walk_at "call type:enumerate") => `(tactic| (k_here; (first
  | ((with_reducible show wpAny _ _ (call (Value.type "enumerate") [Value.ref 249]) _ _ _); (with_unfolding_all refine' Mine.comp_call (names := Mine.namesL) ?hh ?F ?N (Mine.fields_rte ?K).1 ?l ?z Mine.namesL_nodup (Mine.fields_rte ?K).2 ?c ?k ?f ?g ?n ?o ?p ?_))
  | ((with_reducible show wpAny _ _ (call (Value.type "enumerate") [Value.ref 99]) _ _ _); (with_unfolding_all refine' Mine.comp_call (names := []) ?hh ?F ?N (Mine.fields_base ?K).1 ?l ?z List.nodup_nil (Mine.fields_base ?K).2 ?c ?k ?f ?g ?n ?o ?p ?_))); (case K => k_asm); (case F => k_asm); (case N => k_asm); (case hh => with_unfolding_all rfl); (case l => rfl); (case z => decide); (case c => decide); (case k => rfl); (case f => with_unfolding_all rfl); (case g => with_unfolding_all rfl); (case n => decide); (case o => decide); (case p => decide); intro D' kvs' h' tk' hlt' F' N' hd' hkv'; (try k_sweep)))
local macro_rules | `(tactic| walk_at "subscriptTail") => `(tactic| (k_here; (with_reducible show wpAny _ _ (subscriptTail _ _ (Value.ref _) (Value.str _ _)) _ _ _); (rename Mine.Kvs _ _ => hkv9); (rename Heap.DictOf _ _ _ _ => hd9); (obtain ⟨t9, hv9⟩ := Mine.Kvs.valueAt hkv9 Mine.namesL_nodup (by assumption)); k_dflt (refine' Mine.item_kvs hd9 hv9 ?_; k_whole); clear hv9 hkv9 hd9))
local macro_rules | `(tactic| walk_at "setItem ref int") => `(tactic| (k_here; (with_reducible show wpAny _ _ (setItem (Value.ref _) (Value.int _ _) _) _ _ _); k_dflt (refine' Mine.setItem_oob ?a ?b ?c ?d ?e ?_; (case a => with_unfolding_all rfl); (case b => exact PyProof.Rows.News.isList (by k_asm) (by k_mem)); (case c => omega); (case d => omega); (case e => ((simp only [List.size_toArray]); omega)); k_whole); intro h' tk' e' hexc'))
local macro_rules | `(tactic| walk_at "call builtin:str.join") => `(tactic| (k_here; (with_reducible show wpAny _ _ (call (Value.builtin _) [Value.str _ _, Value.ref _]) _ _ _); k_dflt (refine' Mine.join_n ?a ?b ?c ?d ?e ?_; (case a => k_asm); (case b => k_mem); (case c => assumption); (case d => decide); (case e => assumption); k_whole); intro t9 k9))
local macro_rules | `(tactic| walk_at "binaryOp Add str str") => `(tactic| (k_here; (with_reducible show wpAny _ _ (binaryOp Operator.Add (Value.str _ _) (Value.str _ _)) _ _ _); k_dflt (refine' Mine.add_n ?a ?b ?_; (case a => decide +kernel); (case b => assumption); k_whole); intro t9 k9))
local macro_rules | `(tactic| walk_at "subscriptTail Name Name ref int") => `(tactic| (k_here; (with_reducible show wpAny _ _ (subscriptTail _ _ (Value.ref 284) (Value.int _ _)) _ _ _); k_dflt (refine' Mine.head_get ?a ?b ?c ?d ?_; (case a => k_asm); (case b => k_asm); (case c => decide); (case d => decide); k_whole); intro t9))
local macro_rules | `(tactic| walk_at "my_low") => `(tactic| first | (with_reducible assumption) | (with_reducible refine Mine.low_app ?_ ?_ <;> walk_at "my_low") | (unfold Mine.Low; decide +kernel))
local macro_rules | `(tactic| walk_at "my_slen") => `(tactic| with_reducible first | assumption | exact Mine.hex_len _ | (refine' Mine.len_app ?ha ?hb; (case ha => walk_at "my_slen"); (case hb => walk_at "my_slen")) | exact Nat.le_refl _)
local macro_rules | `(tactic| walk_at "call type:map") => `(tactic| (k_here; (with_reducible show wpAny _ _ (call (Value.type "map") [Value.builtin "ord", Value.str _ _]) _ _ _); k_dflt (refine' Mine.map_k ?a ?b ?c ?_; (case a => k_asm); (case b => k_asm); (case c => walk_at "my_low"); k_whole); intro I' h' F' N' M' l1 lL' hb'))
local macro_rules | `(tactic| walk_at "call builtin:_functools.reduce") => `(tactic| (k_here; (with_reducible show wpAny _ _ (call (Value.builtin _) [Value.builtin _, Value.ref _, Value.int _ _]) _ _ _); k_dflt (refine' Mine.reduce_k ?a ?b ?c ?d ?e ?f ?g ?_; (case a => with_unfolding_all rfl); (case b => k_asm); (case c => k_asm); (case d => assumption); (case e => assumption); (case f => assumption); (case g => assumption); k_whole); intro h' tk' t' F' N'))
local macro_rules | `(tactic| walk_at "call ref") => `(tactic| (k_here; (with_reducible show wpAny _ _ (call (Value.ref 293) [Value.str _ _]) _ _ _); k_dflt (refine' Mine.sum_k ?a ?b ?c ?d ?e ?f ?g ?_; (case a => assumption); (case b => assumption); (case c => assumption); (case d => walk_at "my_low"); (case f => k_asm); (case g => k_asm); (case e => (refine' Nat.le_trans ?p ?q; (case p => walk_at "my_slen"); (case q => decide +kernel)))); intro h' tk' t' F' N'))
local macro_rules | `(tactic| walk_at "binaryOp Mod str int") => `(tactic| (k_here; (with_reducible show wpAny _ _ (binaryOp Operator.Mod (Value.str _ _) (Value.int (Mine.xorOf _) _)) _ _ _); k_dflt (refine' Mine.mod_hex ?a ?b ?_; (case a => exact (Mine.xor_low (by walk_at "my_low")).1); (case b => exact (Mine.xor_low (by walk_at "my_low")).2); k_whole); intro t' k'))
local macro_rules | `(tactic| walk_at "binaryOp Add str str") => `(tactic| (k_here; (with_reducible show wpAny _ _ (binaryOp Operator.Add (Value.str _ _) (Value.str _ _)) _ _ _); k_dflt (refine' Mine.add_m ?a ?_; (case a => (refine' Nat.le_trans ?p ?q; (case p => walk_at "my_slen"); (case q => decide +kernel))); k_whole); intro t9 k9))
local macro_rules | `(tactic| walk_at "inplaceOp Add str str") => `(tactic| (k_here; (with_reducible show wpAny _ _ (inplaceOp Operator.Add (Value.str _ _) (Value.str _ _)) _ _ _); k_dflt (refine' Mine.iadd_m ?a ?_; (case a => (refine' Nat.le_trans ?p ?q; (case p => walk_at "my_slen"); (case q => decide +kernel))); k_whole); intro t9 k9))
local macro_rules | `(tactic| walk_at "getMethod ref") => `(tactic| (k_here; (with_reducible show wpAny _ _ (getMethod (Value.ref _) _ _) _ _ _); k_dflt (refine' Mine.meth_of ?a ?b ?F ?N ?ht ?hd ?_; (case F => k_asm); (case N => k_asm); (case ht => k_mem); (case hd => k_mem); (case a => assumption); (case b => assumption); k_whole)))
local macro_rules | `(tactic| walk_at "getAttr ref") => `(tactic| (k_here; (with_reducible show wpAny _ _ (getAttr (Value.ref _) (PySem.Str.ofString "identifier") _) _ _ _); k_dflt (refine' Mine.idf_get ?a ?b ?F ?N ?ht ?hd ?D ?_; (case F => k_asm); (case N => k_asm); (case ht => k_mem); (case hd => k_mem); (case a => assumption); (case b => assumption); (case D => assumption); k_whole); intro q' h' F' N' l1; (try k_lt l1)))
local macro_rules | `(tactic| walk_at "getAttr ref") => `(tactic| (k_here; (with_reducible show wpAny _ _ (getAttr (Value.ref _) (PySem.Str.ofString "render") _) _ _ _); k_dflt (refine' Mine.ren_get ?a ?b ?F ?N ?ht ?hd ?D ?_; (case F => k_asm); (case N => k_asm); (case ht => k_mem); (case hd => k_mem); (case a => assumption); (case b => assumption); (case D => assumption); k_whole); intro q' h' F' N' l1; (try k_lt l1)))
local macro_rules | `(tactic| walk_at "getAttr ref") => `(tactic| (k_here; (with_reducible show wpAny _ _ (getAttr (Value.ref _) (PySem.Str.ofString "data") _) _ _ _); k_dflt (refine' Mine.data_get ?k1 ?k2 ?k3 ?k4 ?k5 ?k6 ?k7 ?_; (case k1 => assumption); (case k2 => k_asm); (case k3 => k_asm); (case k4 => k_mem); (case k5 => k_mem); (case k6 => assumption); (case k7 => exact Mine.clsOf_is _); k_whole)))
local macro_rules | `(tactic| walk_at "callWith ref") => `(tactic| (k_here; (with_reducible show wpAny _ _ (callWith _ (Value.ref _) _ (backTo _ (starEach [] _)) []) _ _ _); k_dflt (refine' Mine.cw_idf ?a ?b ?F ?N ?q ?_; (case F => k_asm); (case N => k_asm); (case q => k_mem); (case a => assumption); (case b => assumption); k_whole); (try dsimp only [List.nil_append, List.cons_append])))
local macro_rules | `(tactic| walk_at "call ref") => `(tactic| (k_here; (with_reducible show wpAny _ _ (call (Value.ref _) []) _ _ _); k_dflt (refine' call_meth (f := Value.ref (Mine.idfOf _)) ?k1 ?k2 ?_; (case k1 => k_asm); (case k2 => k_mem); refine' Mine.idf_call ?KX ?T ?B ?F ?N ?hkk ?hdp ?hk ?ht ?hd ?D ?KI ?_; (case F => k_asm); (case N => k_asm); (case B => assumption); (case ht => k_mem); (case hd => k_mem); (case D => assumption); (case KI => assumption); (case hk => assumption); (case KX => assumption); (case T => assumption); (case hkk => first | rfl | assumption); (case hdp => first | decide | ktr_room)); intro h' tk' t' F' N'; (try dsimp only)))
local macro_rules | `(tactic| walk_at "my_slen") => `(tactic| with_reducible first | assumption | exact Mine.hex_len _ | exact Mine.headS_len _ | exact Mine.head_len _ | (refine' Mine.len_app ?ha ?hb; (case ha => walk_at "my_slen"); (case hb => walk_at "my_slen")) | exact Nat.le_refl _)
local macro_rules | `(tactic| walk_at "my_low") => `(tactic| first | (with_reducible assumption) | (with_reducible exact Mine.headS_low _) | (with_reducible exact Mine.head_low _) | (with_reducible refine Mine.low_app ?_ ?_ <;> walk_at "my_low") | (unfold Mine.Low; decide +kernel))
local macro_rules | `(tactic| walk_at "subscriptTail Name Name ref int") => `(tactic| (k_here; (with_reducible show wpAny _ _ (subscriptTail _ _ (Value.ref 284) (Value.int _ _)) _ _ _); k_dflt (refine' Mine.head_get ?a ?b ?c ?d ?_; (case a => assumption); (case b => k_asm); (case c => omega); (case d => omega); k_whole); intro t9))
namespace Mine
section
variable {w : World} {mean : ExcName → Option Value} {mg mb : Str → Option Value} {h₀ : Heap} {L : Addr} {m : Str → Option Value} {news : List (Addr × Obj)} {s : Shared} {k t d a n na : Nat} {es : List DictEntry} {vs : List Value} {ys : List Str}
  {dp un : Nat} {gd : Option (List Code)} {cn : Str} {cs : Scope} {fa : Addr} {ccd : Value} {cl : List (Str × Addr)} {outer : List Env} {A₀ : Around} {base : Heap} {R : Result → Shared → Prop}
theorem chk_call {x : Str} {u : Tok} (KX : (hd.heap_39 w.params).In h₀) (T : Top hd.view_39 loosesW mean mg mb h₀) (B : Below A₀ base outer h₀) (F : Fr h₀ L s.heap m) (N : News h₀ L s.heap news) (hkk : cs.kind = .function) (hdp : dp + 3 < recursionLimit) (hx : Low x)
    (ret : ∀ h' tk t', Fr h₀ L h' m → News h₀ L h' news → R (.ok (.ret (.int (xorOf x) t'))) { s with heap := h', toks := tk }) :
    codeAny (model PySem.Challenge.rw_dg5010_01.row.prog w) (ktrTop dp un gd cn cs L fa ccd cl outer) (.call (.ref 106) ⟨[.str x u], []⟩) R s := by
  revert KX
  k_fill
  intro KX
  refine' code_def ?k1 ?k2 ?k3 ?k4 ?k5 ?kA ?kF ?kK ?k6 ?k7 ?k8 ?k9 ?kB ?_ ?c2 ?c3 ?c4 ?c5; (case kA => exact rfl); (case kF => exact rfl); (case kK => assumption); (case k1 => k_asm); (case k2 => k_asm); (case k3 => k_asm); (case k4 => k_asm); (case k5 => k_asm); (case k6 => k_is); (case k7 => k_is); (case k8 => ktr_room); (case k9 => first | exact binds_K (by k_in) rfl (by k_is) rfl rfl rfl | exact BindsTo.of_eq rfl); (case c5 => decide); (case kB => exact locs rfl); (case c2 => exact rfl); (case c3 => exact rfl); (case c4 => exact rfl); intro g' L' h' FG' F' N' B' X' T'; (try dsimp only); (try k_fold)
  k_steps
  rename Fr _ _ _ _ => F9
  rename News _ _ _ _ => N9
  exact ret _ _ _ F9 N9
local macro_rules | `(tactic| walk_at "call ref") => `(tactic| (k_here; (with_reducible show wpAny _ _ (call (Value.ref 106) _) _ _ _); k_dflt (refine wpAny_call ?_; refine' Mine.chk_call ?KX ?T ?B ?F ?N ?hkk ?hdp ?hx ?_; (case F => k_asm); (case N => k_asm); (case B => assumption); (case KX => assumption); (case T => assumption); (case hkk => first | rfl | assumption); (case hdp => first | decide | ktr_room); (case hx => walk_at "my_low")); intro h' tk' t' F' N'; (try dsimp only)))
theorem ren_bare (KX : (hd.heap_39 w.params).In h₀) (T : Top hd.view_39 loosesW mean mg mb h₀) (B : Below A₀ base outer h₀) (F : Fr h₀ L s.heap m) (N : News h₀ L s.heap news) (hkk : cs.kind = .function) (hdp : dp + 6 < recursionLimit)
    (hk : k < 5) (ht : (t, instObj (clsOf k) d) ∈ news) (hdd : (d, dictOf es n) ∈ news) (ha : (a, listOf vs.toArray na) ∈ news) (D : DictIs es a) (KI : KindIs es k) (hys : StrsAre vs ys) (hsum : (ys.map (·.length)).sum ≤ 20000) (hl : ys.length ≤ 1000)
    (ret : ∀ h' tk t', Fr h₀ L h' m → News h₀ L h' news → R (.ok (.ret (.str (headS k ++ Txt.join (Str.ofString ",") ys) t'))) { s with heap := h', toks := tk }) :
    codeAny (model PySem.Challenge.rw_dg5010_01.row.prog w) (ktrTop dp un gd cn cs L fa ccd cl outer) (.call (.ref 145) ⟨[.ref t, .bool false, .bool false], []⟩) R s := by
  have hok : (ys.map (·.length)).sum + ys.length * 64 ≤ 16777216 := by omega
  have hj := join_len hsum hl
  have N0 : News h₀ L s.heap ((a, listOf vs.toArray na) :: (t, instObj (clsOf k) d) :: (d, dictOf es n) :: news) := List.forall_mem_cons.mpr ⟨N _ ha, List.forall_mem_cons.mpr ⟨N _ ht, List.forall_mem_cons.mpr ⟨N _ hdd, N⟩⟩⟩
  clear N
  revert KX
  k_fill
  intro KX
  refine' code_def ?k1 ?k2 ?k3 ?k4 ?k5 ?kA ?kF ?kK ?k6 ?k7 ?k8 ?k9 ?kB ?_ ?c2 ?c3 ?c4 ?c5; (case kA => exact rfl); (case kF => exact rfl); (case kK => assumption); (case k1 => k_asm); (case k2 => k_asm); (case k3 => k_asm); (case k4 => k_asm); (case k5 => k_asm); (case k6 => k_is); (case k7 => k_is); (case k8 => ktr_room); (case k9 => exact binds_K (by k_in) rfl (by k_is) rfl rfl rfl); (case c5 => decide); (case kB => exact locs rfl); (case c2 => exact rfl); (case c3 => exact rfl); (case c4 => exact rfl); intro g' L' h' FG' F' N' B' X' T'; (try dsimp only); (try k_fold)
  k_steps
  rename Fr _ _ _ _ => F9
  rename News _ _ _ _ => N9
  exact ret _ _ _ F9 fun p hp => N9 p (.tail _ (.tail _ (.tail _ (.tail _ hp))))
theorem ren_full (KX : (hd.heap_39 w.params).In h₀) (T : Top hd.view_39 loosesW mean mg mb h₀) (B : Below A₀ base outer h₀) (F : Fr h₀ L s.heap m) (N : News h₀ L s.heap news) (hkk : cs.kind = .function) (hdp : dp + 6 < recursionLimit)
    (hk : k < 5) (ht : (t, instObj (clsOf k) d) ∈ news) (hdd : (d, dictOf es n) ∈ news) (ha : (a, listOf vs.toArray na) ∈ news) (D : DictIs es a) (KI : KindIs es k) (hys : StrsAre vs ys) (hsum : (ys.map (·.length)).sum ≤ 20000) (hl : ys.length ≤ 1000) (hlow : Low (Txt.join (Str.ofString ",") ys))
    (ret : ∀ h' tk t', Fr h₀ L h' m → News h₀ L h' news → R (.ok (.ret (.str (Str.ofString "$" ++ ((headS k ++ Txt.join (Str.ofString ",") ys) ++ (Str.ofString "*" ++ hexOf (xorOf (headS k ++ Txt.join (Str.ofString ",") ys)).toNat))) t'))) { s with heap := h', toks := tk }) :
    codeAny (model PySem.Challenge.rw_dg5010_01.row.prog w) (ktrTop dp un gd cn cs L fa ccd cl outer) (.call (.ref 145) ⟨[.ref t], []⟩) R s := by
  have hok : (ys.map (·.length)).sum + ys.length * 64 ≤ 16777216 := by omega
  have hj := join_len hsum hl
  have N0 : News h₀ L s.heap ((a, listOf vs.toArray na) :: (t, instObj (clsOf k) d) :: (d, dictOf es n) :: news) := List.forall_mem_cons.mpr ⟨N _ ha, List.forall_mem_cons.mpr ⟨N _ ht, List.forall_mem_cons.mpr ⟨N _ hdd, N⟩⟩⟩
  clear N
  revert KX
  k_fill
  intro KX
  refine' code_def ?k1 ?k2 ?k3 ?k4 ?k5 ?kA ?kF ?kK ?k6 ?k7 ?k8 ?k9 ?kB ?_ ?c2 ?c3 ?c4 ?c5; (case kA => exact rfl); (case kF => exact rfl); (case kK => assumption); (case k1 => k_asm); (case k2 => k_asm); (case k3 => k_asm); (case k4 => k_asm); (case k5 => k_asm); (case k6 => k_is); (case k7 => k_is); (case k8 => ktr_room); (case k9 => exact binds_K (by k_in) rfl (by k_is) rfl rfl rfl); (case c5 => decide); (case kB => exact locs rfl); (case c2 => exact rfl); (case c3 => exact rfl); (case c4 => exact rfl); intro g' L' h' FG' F' N' B' X' T'; (try dsimp only); (try k_fold)
  k_steps
  rename Fr _ _ _ _ => F9
  rename News _ _ _ _ => N9
  exact ret _ _ _ F9 fun p hp => N9 p (.tail _ (.tail _ (.tail _ (.tail _ hp))))
end
end Mine

end

/-! part Obs0 -/
section
open PySem PySem.W PySem.Calls PyProof.Rows
local macro_rules | `(tactic| walk_at "getAttr ref") => `(tactic| (k_here; k_dflt (first
  | (refine' Mine.own_h ?k1 ?k2 ?k3 ?k4 ?k5 ?k6 ?k7 ?k8 ?k9 ?_; (case k1 => k_asm); (case k2 => k_asm); (case k3 => k_inst); (case k4 => k_is); (case k5 => k_is); (case k6 => k_is); (case k7 => k_is); (case k8 => first | assumption | k_get); (case k9 => k_handed); k_whole)
  | (refine' Mine.prop_h ?k1 ?k2 ?k3 ?k4 ?k10 ?k5 ?k6 ?k7 ?k8 ?k9 ?_; (case k1 => k_asm); (case k2 => k_asm); (case k3 => k_inst); (case k4 => k_is); (case k10 => k_is); (case k5 => k_is); (case k6 => k_is); (case k7 => k_is); (case k8 => k_is); (case k9 => k_is); k_whole; k_enter)
  | (refine' Mine.bound_h ?k1 ?k2 ?k3 ?k4 ?k5 ?k10 ?k6 ?k7 ?k8 ?k9 ?k11 ?k12 ?k13 ?_; (case k4 => k_inst); (case k1 => k_asm); (case k2 => k_asm); (case k7 => k_is); (case k3 => k_asm); (case k5 => k_is); (case k10 => k_is); (case k6 => k_is); (case k8 => k_is); (case k9 => k_is); (case k11 => k_is); (case k12 => decide +kernel); (case k13 => first | assumption | k_get); k_whole; intro q' h' F' N' l1; (try k_lt l1); (try k_sweep)))))
local macro_rules | `(tactic| walk_at "getMethod ref") => `(tactic| (k_here; k_dflt (refine' Mine.method_h ?k1 ?k2 ?k3 ?k4 ?k5 ?_; (case k1 => k_asm); (case k2 => k_asm); (case k3 => k_inst); (case k4 => k_is); (case k5 => k_is); k_whole)))
local macro_rules | `(tactic| size_fits) => `(tactic| first | ((try simp only [List.size_toArray, Array.size_push, List.push_toArray, List.length_append, List.length_cons, List.length_nil]); (simp only [PySem.sizeLine_eq]); omega) | fail "size_fits: mine")
local macro_rules | `(tactic| walk_at "my_keeps") => `(tactic| (intro z hz; (obtain ⟨i1, i2, i3, i4, i5, i6⟩ := Mine.idle_ne hz); first | rfl | ((refine Eq.trans ?_ (congrFun (by assumption : (_ : Str → Option Value) = _) z)); (try simp only [i1, i2, i3, i4, i5, i6, if_false]); done)))
local macro_rules | `(tactic| walk_at "my_expose") => `(tactic| ((have e1 := (rfl : Mine.lawScope = Mine.lawScope)); (conv at e1 => rhs; whnf); (dsimp only at e1); (conv in (Mine.turnAt _) => whnf); (rw [e1]); clear e1))
local macro_rules | `(tactic| walk_at "my_lt") => `(tactic| first | assumption | exact Mine.allLt_to (by assumption) | (refine List.forall_mem_cons.mpr ⟨by (dsimp only; omega), ?_⟩; walk_at "my_lt"))
local macro_rules | `(tactic| walk_at "my_keepsP") => `(tactic| (intro z hz hp9; (obtain ⟨i1, i2, i3, i4, i5, i6⟩ := Mine.idle_ne hz); first | rfl | ((refine Eq.trans ?_ (congrFun (by assumption : (_ : Str → Option Value) = _) z)); (try simp only [i1, i2, i3, i4, i5, i6, hp9, if_false]); done)))
local macro_rules | `(tactic| walk_at "getAttr ref") => `(tactic| (k_here; (with_reducible show wpAny _ _ (getAttr (Value.ref _) (PySem.Str.ofString "data") _) _ _ _); k_dflt (refine' Mine.data_get ?k1 ?k2 ?k3 ?k4 ?k5 ?k6 ?k7 ?_; (case k1 => k_asm); (case k2 => k_asm); (case k3 => k_asm); (case k4 => k_mem); (case k5 => k_mem); (case k6 => k_asm); (case k7 => first | assumption | (unfold Mine.IsCls; decide)); k_whole)))
local macro_rules | `(tactic| walk_at "my_len") => `(tactic| first | omega | ((try simp only [List.length_append, List.length_cons, List.length_nil, List.length_set, List.length_dropLast, List.length_drop]); omega))
local macro_rules | `(tactic| walk_at "call builtin:len") => `(tactic| (k_here; (with_reducible show wpAny _ _ (call (Value.builtin "len") [Value.ref _]) _ _ _); k_dflt (refine' Mine.len_n ?a ?b ?c ?_; (case a => k_asm); (case b => k_mem); (case c => walk_at "my_len"); k_whole)))
local macro_rules | `(tactic| walk_at "call builtin:list.append") => `(tactic| (k_here; (with_reducible show wpAny _ _ (call (Value.builtin _) [Value.ref _, _]) _ _ _); k_dflt (refine' Mine.append_n ?a ?b ?c ?d ?_; (case a => k_asm); (case b => k_asm); (case c => k_upd); (case d => walk_at "my_len"); k_whole); intro h' F' N'; (try k_sweep)))
local macro_rules | `(tactic| walk_at "call builtin:list.pop") => `(tactic| (k_here; (with_reducible show wpAny _ _ (call (Value.builtin _) [Value.ref _]) _ _ _); k_dflt (refine' Mine.pop_n ?a ?b ?c ?d ?e ?_; (case a => k_asm); (case b => k_asm); (case c => k_upd); (case d => walk_at "my_len"); (case e => walk_at "my_len"); k_whole); intro h' y' F' N'; (try k_sweep)))
local macro_rules | `(tactic| walk_at "setItem ref int") => `(tactic| (k_here; (with_reducible show wpAny _ _ (setItem (Value.ref _) (Value.int _ _) _) _ _ _); k_dflt (refine' Mine.set_n ?a ?b ?c ?d ?e ?f ?_; (case a => k_asm); (case b => k_asm); (case c => k_upd); (case d => first | omega | exact Int.fmod_nonneg_of_pos _ (by omega)); (case e => first | (refine Int.lt_of_lt_of_le (Int.fmod_lt_of_pos _ (by omega)) ?_; walk_at "my_len") | walk_at "my_len"); (case f => walk_at "my_len"); k_whole); intro h' F' N'; (try k_sweep)))
local macro_rules | `(tactic| walk_at "subscriptTail Name Slice ref ref") => `(tactic| (k_here; (with_reducible show wpAny _ _ (subscriptTail _ (PySem.Expr.Slice _ _ none _) (Value.ref _) (Value.ref _)) _ _ _); k_dflt (refine' kms_slice_lit ?F ?N ?l ?p ?q ?e ?_ ?s ?t ?z; (case F => k_asm); (case N => k_asm); (case l => exact PyProof.Rows.News.isList (by k_asm) (by k_mem)); (case p => kmk_part); (case q => kmk_part); (case e => first | exact Mine.pick_from _ | exact Mine.pick_all _); (case s => with_unfolding_all rfl); (case t => kmk_pure); (case z => ((simp only [List.size_toArray, PySem.sizeLine_eq]); omega))); intro D' h' F' N' l1; (try k_lt l1); (try dsimp only at F' N'); (try dsimp only); (try k_sweep)))
local macro_rules | `(tactic| walk_at "subscriptTail") => `(tactic| (k_here; (with_reducible show wpAny _ _ (subscriptTail _ _ (Value.ref _) (Value.int _ _)) _ _ _); k_dflt (refine' Mine.item_n ?a ?b ?c ?d ?e ?_; (case a => k_asm); (case b => k_mem); (case e => first | assumption | with_unfolding_all assumption); (case c => first | omega | exact Int.fmod_nonneg_of_pos _ (by omega)); (case d => first | omega | (refine Int.lt_trans (Int.fmod_lt_of_pos _ (by omega)) ?_; omega)); k_whole)))
local macro_rules | `(tactic| walk_at "subscriptTail Name Name ref int") => `(tactic| (k_here; (with_reducible show wpAny _ _ (subscriptTail _ _ (Value.ref _) (Value.int _ _)) _ _ _); k_dflt (refine' Mine.item_n ?a ?b ?c ?d ?e ?_; (case a => k_asm); (case b => k_mem); (case e => first | assumption | with_unfolding_all assumption); (case c => first | omega | exact Int.fmod_nonneg_of_pos _ (by omega)); (case d => first | omega | (refine Int.lt_trans (Int.fmod_lt_of_pos _ (by omega)) ?_; omega)); k_whole)))
local macro_rules | `(tactic| walk_at "getAttr ref") => `(tactic| (k_here; (with_reducible show wpAny _ _ (getAttr (Value.ref _) (PySem.Str.ofString "waypoint_list") _) _ _ _); k_dflt (refine' Mine.wl_get ?k1 ?k2 ?B ?F ?N ?hk ?hd ?t ?d ?a ?D ?v ?w ?_; (case k1 => k_asm); (case k2 => k_asm); (case B => k_asm); (case F => k_asm); (case N => k_asm); (case hk => first | rfl | assumption); (case hd => first | decide | omega | ktr_room); (case t => k_mem); (case d => k_mem); (case D => k_asm); (case a => k_mem); (case v => walk_at "my_len"); (case w => assumption)); intro D' h' tk' F' N' l1; (try k_lt l1); (try dsimp only at F' N'); (try dsimp only); (try k_sweep)))
local macro_rules | `(tactic| walk_at "eval DictComp") => `(tactic| (k_here; with_unfolding_all refine' Mine.dictcomp_k ?a ?b ?c ?d ?e ?_; (case a => with_unfolding_all rfl); (case b => with_unfolding_all rfl); (case c => decide); (case d => (intro _; rfl)); (case e => rfl); (try dsimp only)))
local macro_rules | `(tactic| walk_at "call type:enumerate") => `(tactic| (k_here; (first
  | ((with_reducible show wpAny _ _ (call (Value.type "enumerate") [Value.ref 249]) _ _ _); (with_unfolding_all refine' Mine.comp_call (names := Mine.namesL) ?hh ?F ?N (Mine.fields_rte ?K).1 ?l ?z Mine.namesL_nodup (Mine.fields_rte ?K).2 ?c ?k ?f ?g ?n ?o ?p ?_))
  | ((with_reducible show wpAny _ _ (call (Value.type "enumerate") [Value.ref 99]) _ _ _); (with_unfolding_all refine' Mine.comp_call (names := []) ?hh ?F ?N (Mine.fields_base ?K).1 ?l ?z List.nodup_nil (Mine.fields_base ?K).2 ?c ?k ?f ?g ?n ?o ?p ?_))); (case K => k_asm); (case F => k_asm); (case N => k_asm); (case hh => with_unfolding_all rfl); (case l => rfl); (case z => decide); (case c => decide); (case k => rfl); (case f => with_unfolding_all rfl); (case g => with_unfolding_all rfl); (case n => decide); (case o => decide); (case p => decide); intro D' kvs' h' tk' hlt' F' N' hd' hkv'; (try k_sweep)))
local macro_rules | `(tactic| walk_at "subscriptTail") => `(tactic| (k_here; (with_reducible show wpAny _ _ (subscriptTail _ _ (Value.ref _) (Value.str _ _)) _ _ _); (rename Mine.Kvs _ _ => hkv9); (rename Heap.DictOf _ _ _ _ => hd9); (obtain ⟨t9, hv9⟩ := Mine.Kvs.valueAt hkv9 Mine.namesL_nodup (by assumption)); k_dflt (refine' Mine.item_kvs hd9 hv9 ?_; k_whole); clear hv9 hkv9 hd9))
local macro_rules | `(tactic| walk_at "setItem ref int") => `(tactic| (k_here; (with_reducible show wpAny _ _ (setItem (Value.ref _) (Value.int _ _) _) _ _ _); k_dflt (refine' Mine.setItem_oob ?a ?b ?c ?d ?e ?_; (case a => with_unfolding_all rfl); (case b => exact PyProof.Rows.News.isList (by k_asm) (by k_mem)); (case c => omega); (case d => omega); (case e => ((simp only [List.size_toArray]); omega)); k_whole); intro h' tk' e' hexc'))
local macro_rules | `(tactic| walk_at "call builtin:str.join") => `(tactic| (k_here; (with_reducible show wpAny _ _ (call (Value.builtin _) [Value.str _ _, Value.ref _]) _ _ _); k_dflt (refine' Mine.join_n ?a ?b ?c ?d ?e ?_; (case a => k_asm); (case b => k_mem); (case c => assumption); (case d => decide); (case e => assumption); k_whole); intro t9 k9))
local macro_rules | `(tactic| walk_at "binaryOp Add str str") => `(tactic| (k_here; (with_reducible show wpAny _ _ (binaryOp Operator.Add (Value.str _ _) (Value.str _ _)) _ _ _); k_dflt (refine' Mine.add_n ?a ?b ?_; (case a => decide +kernel); (case b => assumption); k_whole); intro t9 k9))
local macro_rules | `(tactic| walk_at "subscriptTail Name Name ref int") => `(tactic| (k_here; (with_reducible show wpAny _ _ (subscriptTail _ _ (Value.ref 284) (Value.int _ _)) _ _ _); k_dflt (refine' Mine.head_get ?a ?b ?c ?d ?_; (case a => k_asm); (case b => k_asm); (case c => decide); (case d => decide); k_whole); intro t9))
local macro_rules | `(tactic| walk_at "call ref") => `(tactic| (k_here; (with_reducible show wpAny _ _ (call (Value.ref _) [Value.bool _, Value.bool _]) _ _ _); k_dflt (refine' call_meth (f := Value.ref 145) ?k1 ?k2 ?_; (case k1 => k_asm); (case k2 => k_mem); refine' Mine.ren_bare (k := 0) ?KX ?T ?B ?F ?N ?hkk ?hdp ?hk ?ht ?hd ?ha ?D ?KI ?hys ?hsum ?hl ?_; (case F => k_asm); (case N => k_asm); (case B => assumption); (case ht => (show (_, instObj 260 _) ∈ _; k_mem)); (case hd => k_mem); (case D => assumption); (case ha => k_mem); (case KI => assumption); (case hys => assumption); (case hsum => assumption); (case hl => assumption); (case hk => first | assumption | decide); (case KX => assumption); (case T => assumption); (case hkk => rfl); (case hdp => first | decide | ktr_room)); intro h' tk' t' F' N'; (try dsimp only)))
local macro_rules | `(tactic| walk_at "call ref") => `(tactic| (k_here; (with_reducible show wpAny _ _ (call (Value.ref _) []) _ _ _); k_dflt (refine' call_meth (f := Value.ref 145) ?k1 ?k2 ?_; (case k1 => k_asm); (case k2 => k_mem); refine' Mine.ren_full ?KX ?T ?B ?F ?N ?hkk ?hdp ?hk ?ht ?hd ?ha ?D ?KI ?hys ?hsum ?hl ?hlow ?_; (case F => k_asm); (case N => k_asm); (case B => assumption); (case ht => (show (_, instObj 260 _) ∈ _; k_mem)); (case hd => k_mem); (case D => assumption); (case ha => k_mem); (case KI => assumption); (case hys => assumption); (case hsum => assumption); (case hl => assumption); (case hlow => assumption); (case hk => first | assumption | decide); (case KX => assumption); (case T => assumption); (case hkk => rfl); (case hdp => first | decide | ktr_room)); intro h' tk' t' F' N'; (try dsimp only)))
namespace Mine
theorem obs0 {w : World} {mean : ExcName → Option Value} {mg mb : Str → Option Value} {L fa : Addr} {cd : Value} {h₀ : Heap} (KX : (hd.heap_39 w.params).In h₀) (T : Top hd.view_39 loosesW mean mg mb h₀) (K0 : Below callerA h₀ [] h₀)
  {Q : Flow → Shared → Prop} {s : Shared} {m : Str → Option Value} {t d a r Ta Ra g wn : Nat} {n na nr nT nR ng nw : Nat} {es : List DictEntry} {rs : List (Addr × Obj)} {vs ps tv pv gv wv : List Value} {kt : Nat} {ys : List Str}
  (hch : r < Ra ∧ Ra < d ∧ d < t ∧ t < a ∧ a < Ta ∧ Ta < g ∧ g < wn) (off : OwnOff rs [g, wn]) (D : DictIs es a) (KI : KindIs es 0) (hys : StrsAre vs ys) (hys' : StrsAre ps ys) (hsum : (ys.map (·.length)).sum ≤ 20000) (hl : ys.length ≤ 1000) (hgv : gv.length ≤ 1000) (hwv : wv.length ≤ 1000)
  (htv : tv[(0 : Int).toNat]? = some (.ref t)) (hpv : pv[(0 : Int).toNat]? = some (.ref r))
  (F : Fr h₀ L s.heap m) (hm : ∀ p ∈ [(S "k", Value.int 0 kt), (S "rows", .ref Ra), (S "things", .ref Ta), (S "got", .ref g), (S "want", .ref wn)], m p.1 = some p.2)
  (N : News h₀ L s.heap ((g, listOf gv.toArray ng) :: (wn, listOf wv.toArray nw) :: (a, listOf vs.toArray na) :: (r, listOf ps.toArray nr) :: (t, instObj 260 d) :: (d, dictOf es n) :: (Ta, listOf tv.toArray nT) :: (Ra, listOf pv.toArray nR) :: rs))
  (hQ : ∀ (own : List (Addr × Obj)) (q1 q2 : Addr) m' h' tk' ng' nw', Keeps m m' → Fr h₀ L h' m' → News h₀ L h' (own ++ ((g, listOf (gv ++ [Value.ref q1]).toArray ng') :: (wn, listOf (wv ++ [Value.ref q2]).toArray nw') :: (a, listOf vs.toArray na) :: (r, listOf ps.toArray nr) :: (t, instObj 260 d) :: (d, dictOf es n) :: (Ta, listOf tv.toArray nT) :: (Ra, listOf pv.toArray nR) :: rs)) →
    DatIn own (.ref q1) (rowDat 0 ys) → DatIn own (.ref q2) (rowDat 0 ys) → (∀ p ∈ own, wn < p.1 ∧ AllLt p.1 rs) → Q .next { s with heap := h', toks := tk' }) :
  wpAny (model PySem.Challenge.rw_dg5010_01.row.prog w) (callerA.deeper (envOf (Str.ofString "law") lawScope L fa cd)) (execs obsBody (envOf (Str.ofString "law") lawScope L fa cd)) Q (fun _ _ => False) s := by
  have hv : vs.length ≤ 1000 := by rw [hys.len_eq]; exact hl
  have hp : ps.length ≤ 1000 := by rw [hys'.len_eq]; exact hl
  have hok : (ys.map (·.length)).sum + ys.length * 64 ≤ 16777216 := by omega
  have hj := join_len hsum hl
  revert KX
  k_fill
  intro KX
  have e1 := (rfl : lawScope = lawScope)
  conv at e1 => rhs; whnf
  dsimp only at e1
  conv in obsBody => whnf
  rw [e1]
  clear e1
  replace F := frK F _ hm
  have em := frE _ hm
  simp only [kstB] at F em
  have Dren := D.ren
  have Didf := D.idf
  k_steps
  rename Fr _ _ _ _ => F9
  rename News _ _ _ _ => N9
  refine hQ [_, _, _, _, _, _, _, _] _ _ _ _ _ _ _ (by walk_at "my_keeps") F9 N9 ?d1 ?d2 ?lt
  case d1 => exact .list (by k_mem) (.cons (.list (by k_mem) (dats hys)) (.cons (.list (by k_mem) (dats (drop4 hys 4))) (.cons (datStr (by first | rfl | exact congrArg (· ++ Txt.join (Str.ofString ",") ys) (by decide +kernel))) .nil)))
  case d2 => exact .list (by k_mem) (.cons (.list (by k_mem) (dats hys')) (.cons (.list (by k_mem) (dats (drop4 hys' 4))) (.cons (datStr (by first | rfl | exact congrArg (· ++ Txt.join (Str.ofString ",") ys) (by decide +kernel))) .nil)))
  case lt =>
    (repeat (rename (_ : Nat) < _ ∧ _ => hX9; obtain ⟨_, _⟩ := hX9))
    (repeat (refine List.forall_mem_cons.mpr ⟨⟨by dsimp only; omega, by dsimp only; assumption⟩, ?_⟩))
    exact List.forall_mem_nil _
end Mine

end

/-! part Obs1 -/
section
open PySem PySem.W PySem.Calls PyProof.Rows
local macro_rules | `(tactic| walk_at "my_pad0") => `(tactic| fail)
local macro_rules | `(tactic| walk_at "getAttr ref") => `(tactic| (k_here; k_dflt (first
  | (refine' Mine.own_h ?k1 ?k2 ?k3 ?k4 ?k5 ?k6 ?k7 ?k8 ?k9 ?_; (case k1 => k_asm); (case k2 => k_asm); (case k3 => k_inst); (case k4 => k_is); (case k5 => k_is); (case k6 => k_is); (case k7 => k_is); (case k8 => first | assumption | k_get); (case k9 => k_handed); k_whole)
  | (refine' Mine.prop_h ?k1 ?k2 ?k3 ?k4 ?k10 ?k5 ?k6 ?k7 ?k8 ?k9 ?_; (case k1 => k_asm); (case k2 => k_asm); (case k3 => k_inst); (case k4 => k_is); (case k10 => k_is); (case k5 => k_is); (case k6 => k_is); (case k7 => k_is); (case k8 => k_is); (case k9 => k_is); k_whole; k_enter)
  | (refine' Mine.bound_h ?k1 ?k2 ?k3 ?k4 ?k5 ?k10 ?k6 ?k7 ?k8 ?k9 ?k11 ?k12 ?k13 ?_; (case k4 => k_inst); (case k1 => k_asm); (case k2 => k_asm); (case k7 => k_is); (case k3 => k_asm); (case k5 => k_is); (case k10 => k_is); (case k6 => k_is); (case k8 => k_is); (case k9 => k_is); (case k11 => k_is); (case k12 => decide +kernel); (case k13 => first | assumption | k_get); k_whole; intro q' h' F' N' l1; (try k_lt l1); (try k_sweep)))))
local macro_rules | `(tactic| walk_at "getMethod ref") => `(tactic| (k_here; k_dflt (refine' Mine.method_h ?k1 ?k2 ?k3 ?k4 ?k5 ?_; (case k1 => k_asm); (case k2 => k_asm); (case k3 => k_inst); (case k4 => k_is); (case k5 => k_is); k_whole)))
local macro_rules | `(tactic| size_fits) => `(tactic| first | ((try simp only [List.size_toArray, Array.size_push, List.push_toArray, List.length_append, List.length_cons, List.length_nil]); (simp only [PySem.sizeLine_eq]); omega) | fail "size_fits: mine")
local macro_rules | `(tactic| walk_at "my_keeps") => `(tactic| (intro z hz; (obtain ⟨i1, i2, i3, i4, i5, i6⟩ := Mine.idle_ne hz); first | rfl | ((refine Eq.trans ?_ (congrFun (by assumption : (_ : Str → Option Value) = _) z)); (try simp only [i1, i2, i3, i4, i5, i6, if_false]); done)))
local macro_rules | `(tactic| walk_at "my_expose") => `(tactic| ((have e1 := (rfl : Mine.lawScope = Mine.lawScope)); (conv at e1 => rhs; whnf); (dsimp only at e1); (conv in (Mine.turnAt _) => whnf); (rw [e1]); clear e1))
local macro_rules | `(tactic| walk_at "my_lt") => `(tactic| first | assumption | exact Mine.allLt_to (by assumption) | (refine List.forall_mem_cons.mpr ⟨by (dsimp only; omega), ?_⟩; walk_at "my_lt"))
local macro_rules | `(tactic| walk_at "my_keepsP") => `(tactic| (intro z hz hp9; (obtain ⟨i1, i2, i3, i4, i5, i6⟩ := Mine.idle_ne hz); first | rfl | ((refine Eq.trans ?_ (congrFun (by assumption : (_ : Str → Option Value) = _) z)); (try simp only [i1, i2, i3, i4, i5, i6, hp9, if_false]); done)))
local macro_rules | `(tactic| walk_at "getAttr ref") => `(tactic| (k_here; (with_reducible show wpAny _ _ (getAttr (Value.ref _) (PySem.Str.ofString "data") _) _ _ _); k_dflt (refine' Mine.data_get ?k1 ?k2 ?k3 ?k4 ?k5 ?k6 ?k7 ?_; (case k1 => k_asm); (case k2 => k_asm); (case k3 => k_asm); (case k4 => k_mem); (case k5 => k_mem); (case k6 => k_asm); (case k7 => first | assumption | (unfold Mine.IsCls; decide)); k_whole)))
local macro_rules | `(tactic| walk_at "my_len") => `(tactic| first | omega | ((try simp only [List.length_append, List.length_cons, List.length_nil, List.length_set, List.length_dropLast, List.length_drop]); omega))
local macro_rules | `(tactic| walk_at "call builtin:len") => `(tactic| (k_here; (with_reducible show wpAny _ _ (call (Value.builtin "len") [Value.ref _]) _ _ _); k_dflt (refine' Mine.len_n ?a ?b ?c ?_; (case a => k_asm); (case b => k_mem); (case c => walk_at "my_len"); k_whole)))
local macro_rules | `(tactic| walk_at "call builtin:list.append") => `(tactic| (k_here; (with_reducible show wpAny _ _ (call (Value.builtin _) [Value.ref _, _]) _ _ _); k_dflt (refine' Mine.append_n ?a ?b ?c ?d ?_; (case a => k_asm); (case b => k_asm); (case c => k_upd); (case d => walk_at "my_len"); k_whole); intro h' F' N'; (try k_sweep)))
local macro_rules | `(tactic| walk_at "call builtin:list.pop") => `(tactic| (k_here; (with_reducible show wpAny _ _ (call (Value.builtin _) [Value.ref _]) _ _ _); k_dflt (refine' Mine.pop_n ?a ?b ?c ?d ?e ?_; (case a => k_asm); (case b => k_asm); (case c => k_upd); (case d => walk_at "my_len"); (case e => walk_at "my_len"); k_whole); intro h' y' F' N'; (try k_sweep)))
local macro_rules | `(tactic| walk_at "setItem ref int") => `(tactic| (k_here; (with_reducible show wpAny _ _ (setItem (Value.ref _) (Value.int _ _) _) _ _ _); k_dflt (refine' Mine.set_n ?a ?b ?c ?d ?e ?f ?_; (case a => k_asm); (case b => k_asm); (case c => k_upd); (case d => first | omega | exact Int.fmod_nonneg_of_pos _ (by omega)); (case e => first | (refine Int.lt_of_lt_of_le (Int.fmod_lt_of_pos _ (by omega)) ?_; walk_at "my_len") | walk_at "my_len"); (case f => walk_at "my_len"); k_whole); intro h' F' N'; (try k_sweep)))
local macro_rules | `(tactic| walk_at "subscriptTail Name Slice ref ref") => `(tactic| (k_here; (with_reducible show wpAny _ _ (subscriptTail _ (PySem.Expr.Slice _ _ none _) (Value.ref _) (Value.ref _)) _ _ _); k_dflt (refine' kms_slice_lit ?F ?N ?l ?p ?q ?e ?_ ?s ?t ?z; (case F => k_asm); (case N => k_asm); (case l => exact PyProof.Rows.News.isList (by k_asm) (by k_mem)); (case p => kmk_part); (case q => kmk_part); (case e => first | exact Mine.pick_from _ | exact Mine.pick_all _); (case s => with_unfolding_all rfl); (case t => kmk_pure); (case z => ((simp only [List.size_toArray, PySem.sizeLine_eq]); omega))); intro D' h' F' N' l1; (try k_lt l1); (try dsimp only at F' N'); (try dsimp only); (try k_sweep)))
local macro_rules | `(tactic| walk_at "subscriptTail") => `(tactic| (k_here; (with_reducible show wpAny _ _ (subscriptTail _ _ (Value.ref _) (Value.int _ _)) _ _ _); k_dflt (refine' Mine.item_n ?a ?b ?c ?d ?e ?_; (case a => k_asm); (case b => k_mem); (case e => first | assumption | with_unfolding_all assumption); (case c => first | omega | exact Int.fmod_nonneg_of_pos _ (by omega)); (case d => first | omega | (refine Int.lt_trans (Int.fmod_lt_of_pos _ (by omega)) ?_; omega)); k_whole)))
local macro_rules | `(tactic| walk_at "subscriptTail Name Name ref int") => `(tactic| (k_here; (with_reducible show wpAny _ _ (subscriptTail _ _ (Value.ref _) (Value.int _ _)) _ _ _); k_dflt (refine' Mine.item_n ?a ?b ?c ?d ?e ?_; (case a => k_asm); (case b => k_mem); (case e => first | assumption | with_unfolding_all assumption); (case c => first | omega | exact Int.fmod_nonneg_of_pos _ (by omega)); (case d => first | omega | (refine Int.lt_trans (Int.fmod_lt_of_pos _ (by omega)) ?_; omega)); k_whole)))
local macro_rules | `(tactic| walk_at "getAttr ref") => `(tactic| (k_here; (with_reducible show wpAny _ _ (getAttr (Value.ref _) (PySem.Str.ofString "waypoint_list") _) _ _ _); k_dflt (refine' Mine.wl_get ?k1 ?k2 ?B ?F ?N ?hk ?hd ?t ?d ?a ?D ?v ?w ?_; (case k1 => k_asm); (case k2 => k_asm); (case B => k_asm); (case F => k_asm); (case N => k_asm); (case hk => first | rfl | assumption); (case hd => first | decide | omega | ktr_room); (case t => k_mem); (case d => k_mem); (case D => k_asm); (case a => k_mem); (case v => walk_at "my_len"); (case w => assumption)); intro D' h' tk' F' N' l1; (try k_lt l1); (try dsimp only at F' N'); (try dsimp only); (try k_sweep)))
local macro_rules | `(tactic| walk_at "eval DictComp") => `(tactic| (k_here; with_unfolding_all refine' Mine.dictcomp_k ?a ?b ?c ?d ?e ?_; (case a => with_unfolding_all rfl); (case b => with_unfolding_all rfl); (case c => decide); (case d => (intro _; rfl)); (case e => rfl); (try dsimp only)))
local macro_rules | `(tactic| walk_at "call type:enumerate") => `(tactic| (k_here; (first
  | ((with_reducible show wpAny _ _ (call (Value.type "enumerate") [Value.ref 249]) _ _ _); (with_unfolding_all refine' Mine.comp_call (names := Mine.namesL) ?hh ?F ?N (Mine.fields_rte ?K).1 ?l ?z Mine.namesL_nodup (Mine.fields_rte ?K).2 ?c ?k ?f ?g ?n ?o ?p ?_))
  | ((with_reducible show wpAny _ _ (call (Value.type "enumerate") [Value.ref 99]) _ _ _); (with_unfolding_all refine' Mine.comp_call (names := []) ?hh ?F ?N (Mine.fields_base ?K).1 ?l ?z List.nodup_nil (Mine.fields_base ?K).2 ?c ?k ?f ?g ?n ?o ?p ?_))); (case K => k_asm); (case F => k_asm); (case N => k_asm); (case hh => with_unfolding_all rfl); (case l => rfl); (case z => decide); (case c => decide); (case k => rfl); (case f => with_unfolding_all rfl); (case g => with_unfolding_all rfl); (case n => decide); (case o => decide); (case p => decide); intro D' kvs' h' tk' hlt' F' N' hd' hkv'; (try k_sweep)))
local macro_rules | `(tactic| walk_at "subscriptTail") => `(tactic| (k_here; (with_reducible show wpAny _ _ (subscriptTail _ _ (Value.ref _) (Value.str _ _)) _ _ _); (rename Mine.Kvs _ _ => hkv9); (rename Heap.DictOf _ _ _ _ => hd9); (obtain ⟨t9, hv9⟩ := Mine.Kvs.valueAt hkv9 Mine.namesL_nodup (by assumption)); k_dflt (refine' Mine.item_kvs hd9 hv9 ?_; k_whole); clear hv9 hkv9 hd9))
local macro_rules | `(tactic| walk_at "setItem ref int") => `(tactic| (k_here; (with_reducible show wpAny _ _ (setItem (Value.ref _) (Value.int _ _) _) _ _ _); k_dflt (refine' Mine.setItem_oob ?a ?b ?c ?d ?e ?_; (case a => with_unfolding_all rfl); (case b => exact PyProof.Rows.News.isList (by k_asm) (by k_mem)); (case c => omega); (case d => omega); (case e => ((simp only [List.size_toArray]); omega)); k_whole); intro h' tk' e' hexc'))
local macro_rules | `(tactic| walk_at "call builtin:str.join") => `(tactic| (k_here; (with_reducible show wpAny _ _ (call (Value.builtin _) [Value.str _ _, Value.ref _]) _ _ _); k_dflt (refine' Mine.join_n ?a ?b ?c ?d ?e ?_; (case a => k_asm); (case b => k_mem); (case c => assumption); (case d => decide); (case e => assumption); k_whole); intro t9 k9))
local macro_rules | `(tactic| walk_at "binaryOp Add str str") => `(tactic| (k_here; (with_reducible show wpAny _ _ (binaryOp Operator.Add (Value.str _ _) (Value.str _ _)) _ _ _); k_dflt (refine' Mine.add_n ?a ?b ?_; (case a => decide +kernel); (case b => assumption); k_whole); intro t9 k9))
local macro_rules | `(tactic| walk_at "subscriptTail Name Name ref int") => `(tactic| (k_here; (with_reducible show wpAny _ _ (subscriptTail _ _ (Value.ref 284) (Value.int _ _)) _ _ _); k_dflt (refine' Mine.head_get ?a ?b ?c ?d ?_; (case a => k_asm); (case b => k_asm); (case c => decide); (case d => decide); k_whole); intro t9))
local macro_rules | `(tactic| walk_at "call ref") => `(tactic| (k_here; (with_reducible show wpAny _ _ (call (Value.ref _) [Value.bool _, Value.bool _]) _ _ _); k_dflt (refine' call_meth (f := Value.ref 145) ?k1 ?k2 ?_; (case k1 => k_asm); (case k2 => k_mem); refine' Mine.ren_bare (k := 1) ?KX ?T ?B ?F ?N ?hkk ?hdp ?hk ?ht ?hd ?ha ?D ?KI ?hys ?hsum ?hl ?_; (case F => k_asm); (case N => k_asm); (case B => assumption); (case ht => (show (_, instObj 281 _) ∈ _; k_mem)); (case hd => k_mem); (case D => assumption); (case ha => k_mem); (case KI => assumption); (case hys => assumption); (case hsum => assumption); (case hl => assumption); (case hk => first | assumption | decide); (case KX => assumption); (case T => assumption); (case hkk => rfl); (case hdp => first | decide | ktr_room)); intro h' tk' t' F' N'; (try dsimp only)))
local macro_rules | `(tactic| walk_at "call ref") => `(tactic| (k_here; (with_reducible show wpAny _ _ (call (Value.ref _) []) _ _ _); k_dflt (refine' call_meth (f := Value.ref 145) ?k1 ?k2 ?_; (case k1 => k_asm); (case k2 => k_mem); refine' Mine.ren_full ?KX ?T ?B ?F ?N ?hkk ?hdp ?hk ?ht ?hd ?ha ?D ?KI ?hys ?hsum ?hl ?hlow ?_; (case F => k_asm); (case N => k_asm); (case B => assumption); (case ht => (show (_, instObj 281 _) ∈ _; k_mem)); (case hd => k_mem); (case D => assumption); (case ha => k_mem); (case KI => assumption); (case hys => assumption); (case hsum => assumption); (case hl => assumption); (case hlow => assumption); (case hk => first | assumption | decide); (case KX => assumption); (case T => assumption); (case hkk => rfl); (case hdp => first | decide | ktr_room)); intro h' tk' t' F' N'; (try dsimp only)))
namespace Mine
theorem obs1 {w : World} {mean : ExcName → Option Value} {mg mb : Str → Option Value} {L fa : Addr} {cd : Value} {h₀ : Heap} (KX : (hd.heap_39 w.params).In h₀) (T : Top hd.view_39 loosesW mean mg mb h₀) (K0 : Below callerA h₀ [] h₀)
  {Q : Flow → Shared → Prop} {s : Shared} {m : Str → Option Value} {t d a r Ta Ra g wn : Nat} {n na nr nT nR ng nw : Nat} {es : List DictEntry} {rs : List (Addr × Obj)} {vs ps tv pv gv wv : List Value} {kt : Nat} {ys : List Str}
  (hch : r < Ra ∧ Ra < d ∧ d < t ∧ t < a ∧ a < Ta ∧ Ta < g ∧ g < wn) (off : OwnOff rs [g, wn]) (D : DictIs es a) (KI : KindIs es 1) (hys : StrsAre vs ys) (hys' : StrsAre ps ys) (hsum : (ys.map (·.length)).sum ≤ 20000) (hl : ys.length ≤ 1000) (hgv : gv.length ≤ 1000) (hwv : wv.length ≤ 1000)
  (htv : tv[(1 : Int).toNat]? = some (.ref t)) (hpv : pv[(1 : Int).toNat]? = some (.ref r))
  (F : Fr h₀ L s.heap m) (hm : ∀ p ∈ [(S "k", Value.int 1 kt), (S "rows", .ref Ra), (S "things", .ref Ta), (S "got", .ref g), (S "want", .ref wn)], m p.1 = some p.2)
  (N : News h₀ L s.heap ((g, listOf gv.toArray ng) :: (wn, listOf wv.toArray nw) :: (a, listOf vs.toArray na) :: (r, listOf ps.toArray nr) :: (t, instObj 281 d) :: (d, dictOf es n) :: (Ta, listOf tv.toArray nT) :: (Ra, listOf pv.toArray nR) :: rs))
  (hQ : ∀ (own : List (Addr × Obj)) (q1 q2 : Addr) m' h' tk' ng' nw', Keeps m m' → Fr h₀ L h' m' → News h₀ L h' (own ++ ((g, listOf (gv ++ [Value.ref q1]).toArray ng') :: (wn, listOf (wv ++ [Value.ref q2]).toArray nw') :: (a, listOf vs.toArray na) :: (r, listOf ps.toArray nr) :: (t, instObj 281 d) :: (d, dictOf es n) :: (Ta, listOf tv.toArray nT) :: (Ra, listOf pv.toArray nR) :: rs)) →
    DatIn own (.ref q1) (rowDat 1 ys) → DatIn own (.ref q2) (rowDat 1 ys) → (∀ p ∈ own, wn < p.1 ∧ AllLt p.1 rs) → Q .next { s with heap := h', toks := tk' }) :
  wpAny (model PySem.Challenge.rw_dg5010_01.row.prog w) (callerA.deeper (envOf (Str.ofString "law") lawScope L fa cd)) (execs obsBody (envOf (Str.ofString "law") lawScope L fa cd)) Q (fun _ _ => False) s := by
  have hv : vs.length ≤ 1000 := by rw [hys.len_eq]; exact hl
  have hp : ps.length ≤ 1000 := by rw [hys'.len_eq]; exact hl
  have hok : (ys.map (·.length)).sum + ys.length * 64 ≤ 16777216 := by omega
  have hj := join_len hsum hl
  revert KX
  k_fill
  intro KX
  have e1 := (rfl : lawScope = lawScope)
  conv at e1 => rhs; whnf
  dsimp only at e1
  conv in obsBody => whnf
  rw [e1]
  clear e1
  replace F := frK F _ hm
  have em := frE _ hm
  simp only [kstB] at F em
  have Dren := D.ren
  have Didf := D.idf
  k_steps
  rename Fr _ _ _ _ => F9
  rename News _ _ _ _ => N9
  refine hQ [_, _, _, _, _, _, _, _] _ _ _ _ _ _ _ (by walk_at "my_keeps") F9 N9 ?d1 ?d2 ?lt
  case d1 => exact .list (by k_mem) (.cons (.list (by k_mem) (dats hys)) (.cons (.list (by k_mem) (dats hys)) (.cons (datStr (by first | rfl | exact congrArg (· ++ Txt.join (Str.ofString ",") ys) (by decide +kernel))) .nil)))
  case d2 => exact .list (by k_mem) (.cons (.list (by k_mem) (dats hys')) (.cons (.list (by k_mem) (dats hys')) (.cons (datStr (by first | rfl | exact congrArg (· ++ Txt.join (Str.ofString ",") ys) (by decide +kernel))) .nil)))
  case lt =>
    (repeat (rename (_ : Nat) < _ ∧ _ => hX9; obtain ⟨_, _⟩ := hX9))
    (repeat (refine List.forall_mem_cons.mpr ⟨⟨by dsimp only; omega, by dsimp only; assumption⟩, ?_⟩))
    exact List.forall_mem_nil _
end Mine

end

/-! part ObsG -/
section
open PySem PySem.W PySem.Calls PyProof.Rows
local macro_rules | `(tactic| walk_at "getAttr ref") => `(tactic| (k_here; k_dflt (first
  | (refine' Mine.own_h ?k1 ?k2 ?k3 ?k4 ?k5 ?k6 ?k7 ?k8 ?k9 ?_; (case k1 => k_asm); (case k2 => k_asm); (case k3 => k_inst); (case k4 => k_is); (case k5 => k_is); (case k6 => k_is); (case k7 => k_is); (case k8 => first | assumption | k_get); (case k9 => k_handed); k_whole)
  | (refine' Mine.prop_h ?k1 ?k2 ?k3 ?k4 ?k10 ?k5 ?k6 ?k7 ?k8 ?k9 ?_; (case k1 => k_asm); (case k2 => k_asm); (case k3 => k_inst); (case k4 => k_is); (case k10 => k_is); (case k5 => k_is); (case k6 => k_is); (case k7 => k_is); (case k8 => k_is); (case k9 => k_is); k_whole; k_enter)
  | (refine' Mine.bound_h ?k1 ?k2 ?k3 ?k4 ?k5 ?k10 ?k6 ?k7 ?k8 ?k9 ?k11 ?k12 ?k13 ?_; (case k4 => k_inst); (case k1 => k_asm); (case k2 => k_asm); (case k7 => k_is); (case k3 => k_asm); (case k5 => k_is); (case k10 => k_is); (case k6 => k_is); (case k8 => k_is); (case k9 => k_is); (case k11 => k_is); (case k12 => decide +kernel); (case k13 => first | assumption | k_get); k_whole; intro q' h' F' N' l1; (try k_lt l1); (try k_sweep)))))
local macro_rules | `(tactic| walk_at "getMethod ref") => `(tactic| (k_here; k_dflt (refine' Mine.method_h ?k1 ?k2 ?k3 ?k4 ?k5 ?_; (case k1 => k_asm); (case k2 => k_asm); (case k3 => k_inst); (case k4 => k_is); (case k5 => k_is); k_whole)))
local macro_rules | `(tactic| size_fits) => `(tactic| first | ((try simp only [List.size_toArray, Array.size_push, List.push_toArray, List.length_append, List.length_cons, List.length_nil]); (simp only [PySem.sizeLine_eq]); omega) | fail "size_fits: mine")
local macro_rules | `(tactic| walk_at "my_keeps") => `(tactic| (intro z hz; (obtain ⟨i1, i2, i3, i4, i5, i6⟩ := Mine.idle_ne hz); first | rfl | ((refine Eq.trans ?_ (congrFun (by assumption : (_ : Str → Option Value) = _) z)); (try simp only [i1, i2, i3, i4, i5, i6, if_false]); done)))
local macro_rules | `(tactic| walk_at "my_expose") => `(tactic| ((have e1 := (rfl : Mine.lawScope = Mine.lawScope)); (conv at e1 => rhs; whnf); (dsimp only at e1); (conv in (Mine.turnAt _) => whnf); (rw [e1]); clear e1))
local macro_rules | `(tactic| walk_at "my_lt") => `(tactic| first | assumption | exact Mine.allLt_to (by assumption) | (refine List.forall_mem_cons.mpr ⟨by (dsimp only; omega), ?_⟩; walk_at "my_lt"))
local macro_rules | `(tactic| walk_at "my_keepsP") => `(tactic| (intro z hz hp9; (obtain ⟨i1, i2, i3, i4, i5, i6⟩ := Mine.idle_ne hz); first | rfl | ((refine Eq.trans ?_ (congrFun (by assumption : (_ : Str → Option Value) = _) z)); (try simp only [i1, i2, i3, i4, i5, i6, hp9, if_false]); done)))
local macro_rules | `(tactic| walk_at "getAttr ref") => `(tactic| (k_here; (with_reducible show wpAny _ _ (getAttr (Value.ref _) (PySem.Str.ofString "data") _) _ _ _); k_dflt (refine' Mine.data_get ?k1 ?k2 ?k3 ?k4 ?k5 ?k6 ?k7 ?_; (case k1 => k_asm); (case k2 => k_asm); (case k3 => k_asm); (case k4 => k_mem); (case k5 => k_mem); (case k6 => k_asm); (case k7 => first | assumption | (unfold Mine.IsCls; decide)); k_whole)))
local macro_rules | `(tactic| walk_at "my_len") => `(tactic| first | omega | ((try simp only [List.length_append, List.length_cons, List.length_nil, List.length_set, List.length_dropLast, List.length_drop]); omega))
local macro_rules | `(tactic| walk_at "call builtin:len") => `(tactic| (k_here; (with_reducible show wpAny _ _ (call (Value.builtin "len") [Value.ref _]) _ _ _); k_dflt (refine' Mine.len_n ?a ?b ?c ?_; (case a => k_asm); (case b => k_mem); (case c => walk_at "my_len"); k_whole)))
local macro_rules | `(tactic| walk_at "call builtin:list.append") => `(tactic| (k_here; (with_reducible show wpAny _ _ (call (Value.builtin _) [Value.ref _, _]) _ _ _); k_dflt (refine' Mine.append_n ?a ?b ?c ?d ?_; (case a => k_asm); (case b => k_asm); (case c => k_upd); (case d => walk_at "my_len"); k_whole); intro h' F' N'; (try k_sweep)))
local macro_rules | `(tactic| walk_at "call builtin:list.pop") => `(tactic| (k_here; (with_reducible show wpAny _ _ (call (Value.builtin _) [Value.ref _]) _ _ _); k_dflt (refine' Mine.pop_n ?a ?b ?c ?d ?e ?_; (case a => k_asm); (case b => k_asm); (case c => k_upd); (case d => walk_at "my_len"); (case e => walk_at "my_len"); k_whole); intro h' y' F' N'; (try k_sweep)))
local macro_rules | `(tactic| walk_at "setItem ref int") => `(tactic| (k_here; (with_reducible show wpAny _ _ (setItem (Value.ref _) (Value.int _ _) _) _ _ _); k_dflt (refine' Mine.set_n ?a ?b ?c ?d ?e ?f ?_; (case a => k_asm); (case b => k_asm); (case c => k_upd); (case d => first | omega | exact Int.fmod_nonneg_of_pos _ (by omega)); (case e => first | (refine Int.lt_of_lt_of_le (Int.fmod_lt_of_pos _ (by omega)) ?_; walk_at "my_len") | walk_at "my_len"); (case f => walk_at "my_len"); k_whole); intro h' F' N'; (try k_sweep)))
local macro_rules | `(tactic| walk_at "subscriptTail Name Slice ref ref") => `(tactic| (k_here; (with_reducible show wpAny _ _ (subscriptTail _ (PySem.Expr.Slice _ _ none _) (Value.ref _) (Value.ref _)) _ _ _); k_dflt (refine' kms_slice_lit ?F ?N ?l ?p ?q ?e ?_ ?s ?t ?z; (case F => k_asm); (case N => k_asm); (case l => exact PyProof.Rows.News.isList (by k_asm) (by k_mem)); (case p => kmk_part); (case q => kmk_part); (case e => first | exact Mine.pick_from _ | exact Mine.pick_all _); (case s => with_unfolding_all rfl); (case t => kmk_pure); (case z => ((simp only [List.size_toArray, PySem.sizeLine_eq]); omega))); intro D' h' F' N' l1; (try k_lt l1); (try dsimp only at F' N'); (try dsimp only); (try k_sweep)))
local macro_rules | `(tactic| walk_at "subscriptTail") => `(tactic| (k_here; (with_reducible show wpAny _ _ (subscriptTail _ _ (Value.ref _) (Value.int _ _)) _ _ _); k_dflt (refine' Mine.item_n ?a ?b ?c ?d ?e ?_; (case a => k_asm); (case b => k_mem); (case e => first | assumption | with_unfolding_all assumption); (case c => first | omega | exact Int.fmod_nonneg_of_pos _ (by omega)); (case d => first | omega | (refine Int.lt_trans (Int.fmod_lt_of_pos _ (by omega)) ?_; omega)); k_whole)))
local macro_rules | `(tactic| walk_at "subscriptTail Name Name ref int") => `(tactic| (k_here; (with_reducible show wpAny _ _ (subscriptTail _ _ (Value.ref _) (Value.int _ _)) _ _ _); k_dflt (refine' Mine.item_n ?a ?b ?c ?d ?e ?_; (case a => k_asm); (case b => k_mem); (case e => first | assumption | with_unfolding_all assumption); (case c => first | omega | exact Int.fmod_nonneg_of_pos _ (by omega)); (case d => first | omega | (refine Int.lt_trans (Int.fmod_lt_of_pos _ (by omega)) ?_; omega)); k_whole)))
local macro_rules | `(tactic| walk_at "getAttr ref") => `(tactic| (k_here; (with_reducible show wpAny _ _ (getAttr (Value.ref _) (PySem.Str.ofString "waypoint_list") _) _ _ _); k_dflt (refine' Mine.wl_get ?k1 ?k2 ?B ?F ?N ?hk ?hd ?t ?d ?a ?D ?v ?w ?_; (case k1 => k_asm); (case k2 => k_asm); (case B => k_asm); (case F => k_asm); (case N => k_asm); (case hk => first | rfl | assumption); (case hd => first | decide | omega | ktr_room); (case t => k_mem); (case d => k_mem); (case D => k_asm); (case a => k_mem); (case v => walk_at "my_len"); (case w => assumption)); intro D' h' tk' F' N' l1; (try k_lt l1); (try dsimp only at F' N'); (try dsimp only); (try k_sweep)))
local macro_rules | `(tactic| walk_at "eval DictComp") => `(tactic| (k_here; with_unfolding_all refine' Mine.dictcomp_k ?a ?b ?c ?d ?e ?_; (case a => with_unfolding_all rfl); (case b => with_unfolding_all rfl); (case c => decide); (case d => (intro _; rfl)); (case e => rfl); (try dsimp only)))
local macro_rules | `(tactic| walk_at "call type:enumerate") => `(tactic| (k_here; (first
  | ((with_reducible show wpAny _ _ (call (Value.type "enumerate") [Value.ref 249]) _ _ _); (with_unfolding_all refine' Mine.comp_call (names := Mine.namesL) ?hh ?F ?N (Mine.fields_rte ?K).1 ?l ?z Mine.namesL_nodup (Mine.fields_rte ?K).2 ?c ?k ?f ?g ?n ?o ?p ?_))
  | ((with_reducible show wpAny _ _ (call (Value.type "enumerate") [Value.ref 99]) _ _ _); (with_unfolding_all refine' Mine.comp_call (names := []) ?hh ?F ?N (Mine.fields_base ?K).1 ?l ?z List.nodup_nil (Mine.fields_base ?K).2 ?c ?k ?f ?g ?n ?o ?p ?_))); (case K => k_asm); (case F => k_asm); (case N => k_asm); (case hh => with_unfolding_all rfl); (case l => rfl); (case z => decide); (case c => decide); (case k => rfl); (case f => with_unfolding_all rfl); (case g => with_unfolding_all rfl); (case n => decide); (case o => decide); (case p => decide); intro D' kvs' h' tk' hlt' F' N' hd' hkv'; (try k_sweep)))
local macro_rules | `(tactic| walk_at "subscriptTail") => `(tactic| (k_here; (with_reducible show wpAny _ _ (subscriptTail _ _ (Value.ref _) (Value.str _ _)) _ _ _); (rename Mine.Kvs _ _ => hkv9); (rename Heap.DictOf _ _ _ _ => hd9); (obtain ⟨t9, hv9⟩ := Mine.Kvs.valueAt hkv9 Mine.namesL_nodup (by assumption)); k_dflt (refine' Mine.item_kvs hd9 hv9 ?_; k_whole); clear hv9 hkv9 hd9))
local macro_rules | `(tactic| walk_at "setItem ref int") => `(tactic| (k_here; (with_reducible show wpAny _ _ (setItem (Value.ref _) (Value.int _ _) _) _ _ _); k_dflt (refine' Mine.setItem_oob ?a ?b ?c ?d ?e ?_; (case a => with_unfolding_all rfl); (case b => exact PyProof.Rows.News.isList (by k_asm) (by k_mem)); (case c => omega); (case d => omega); (case e => ((simp only [List.size_toArray]); omega)); k_whole); intro h' tk' e' hexc'))
local macro_rules | `(tactic| walk_at "call builtin:str.join") => `(tactic| (k_here; (with_reducible show wpAny _ _ (call (Value.builtin _) [Value.str _ _, Value.ref _]) _ _ _); k_dflt (refine' Mine.join_n ?a ?b ?c ?d ?e ?_; (case a => k_asm); (case b => k_mem); (case c => assumption); (case d => decide); (case e => assumption); k_whole); intro t9 k9))
local macro_rules | `(tactic| walk_at "binaryOp Add str str") => `(tactic| (k_here; (with_reducible show wpAny _ _ (binaryOp Operator.Add (Value.str _ _) (Value.str _ _)) _ _ _); k_dflt (refine' Mine.add_n ?a ?b ?_; (case a => decide +kernel); (case b => assumption); k_whole); intro t9 k9))
local macro_rules | `(tactic| walk_at "subscriptTail Name Name ref int") => `(tactic| (k_here; (with_reducible show wpAny _ _ (subscriptTail _ _ (Value.ref 284) (Value.int _ _)) _ _ _); k_dflt (refine' Mine.head_get ?a ?b ?c ?d ?_; (case a => k_asm); (case b => k_asm); (case c => decide); (case d => decide); k_whole); intro t9))
local macro_rules | `(tactic| walk_at "my_low") => `(tactic| first | (with_reducible assumption) | (with_reducible refine Mine.low_app ?_ ?_ <;> walk_at "my_low") | (unfold Mine.Low; decide +kernel))
local macro_rules | `(tactic| walk_at "my_slen") => `(tactic| with_reducible first | assumption | exact Mine.hex_len _ | (refine' Mine.len_app ?ha ?hb; (case ha => walk_at "my_slen"); (case hb => walk_at "my_slen")) | exact Nat.le_refl _)
local macro_rules | `(tactic| walk_at "call type:map") => `(tactic| (k_here; (with_reducible show wpAny _ _ (call (Value.type "map") [Value.builtin "ord", Value.str _ _]) _ _ _); k_dflt (refine' Mine.map_k ?a ?b ?c ?_; (case a => k_asm); (case b => k_asm); (case c => walk_at "my_low"); k_whole); intro I' h' F' N' M' l1 lL' hb'))
local macro_rules | `(tactic| walk_at "call builtin:_functools.reduce") => `(tactic| (k_here; (with_reducible show wpAny _ _ (call (Value.builtin _) [Value.builtin _, Value.ref _, Value.int _ _]) _ _ _); k_dflt (refine' Mine.reduce_k ?a ?b ?c ?d ?e ?f ?g ?_; (case a => with_unfolding_all rfl); (case b => k_asm); (case c => k_asm); (case d => assumption); (case e => assumption); (case f => assumption); (case g => assumption); k_whole); intro h' tk' t' F' N'))
local macro_rules | `(tactic| walk_at "call ref") => `(tactic| (k_here; (with_reducible show wpAny _ _ (call (Value.ref 293) [Value.str _ _]) _ _ _); k_dflt (refine' Mine.sum_k ?a ?b ?c ?d ?e ?f ?g ?_; (case a => assumption); (case b => assumption); (case c => assumption); (case d => walk_at "my_low"); (case f => k_asm); (case g => k_asm); (case e => (refine' Nat.le_trans ?p ?q; (case p => walk_at "my_slen"); (case q => decide +kernel)))); intro h' tk' t' F' N'))
local macro_rules | `(tactic| walk_at "binaryOp Mod str int") => `(tactic| (k_here; (with_reducible show wpAny _ _ (binaryOp Operator.Mod (Value.str _ _) (Value.int (Mine.xorOf _) _)) _ _ _); k_dflt (refine' Mine.mod_hex ?a ?b ?_; (case a => exact (Mine.xor_low (by walk_at "my_low")).1); (case b => exact (Mine.xor_low (by walk_at "my_low")).2); k_whole); intro t' k'))
local macro_rules | `(tactic| walk_at "binaryOp Add str str") => `(tactic| (k_here; (with_reducible show wpAny _ _ (binaryOp Operator.Add (Value.str _ _) (Value.str _ _)) _ _ _); k_dflt (refine' Mine.add_m ?a ?_; (case a => (refine' Nat.le_trans ?p ?q; (case p => walk_at "my_slen"); (case q => decide +kernel))); k_whole); intro t9 k9))
local macro_rules | `(tactic| walk_at "inplaceOp Add str str") => `(tactic| (k_here; (with_reducible show wpAny _ _ (inplaceOp Operator.Add (Value.str _ _) (Value.str _ _)) _ _ _); k_dflt (refine' Mine.iadd_m ?a ?_; (case a => (refine' Nat.le_trans ?p ?q; (case p => walk_at "my_slen"); (case q => decide +kernel))); k_whole); intro t9 k9))
local macro_rules | `(tactic| walk_at "getMethod ref") => `(tactic| (k_here; (with_reducible show wpAny _ _ (getMethod (Value.ref _) _ _) _ _ _); k_dflt (refine' Mine.meth_of ?a ?b ?F ?N ?ht ?hd ?_; (case F => k_asm); (case N => k_asm); (case ht => k_mem); (case hd => k_mem); (case a => assumption); (case b => assumption); k_whole)))
local macro_rules | `(tactic| walk_at "getAttr ref") => `(tactic| (k_here; (with_reducible show wpAny _ _ (getAttr (Value.ref _) (PySem.Str.ofString "identifier") _) _ _ _); k_dflt (refine' Mine.idf_get ?a ?b ?F ?N ?ht ?hd ?D ?_; (case F => k_asm); (case N => k_asm); (case ht => k_mem); (case hd => k_mem); (case a => assumption); (case b => assumption); (case D => assumption); k_whole); intro q' h' F' N' l1; (try k_lt l1)))
local macro_rules | `(tactic| walk_at "getAttr ref") => `(tactic| (k_here; (with_reducible show wpAny _ _ (getAttr (Value.ref _) (PySem.Str.ofString "render") _) _ _ _); k_dflt (refine' Mine.ren_get ?a ?b ?F ?N ?ht ?hd ?D ?_; (case F => k_asm); (case N => k_asm); (case ht => k_mem); (case hd => k_mem); (case a => assumption); (case b => assumption); (case D => assumption); k_whole); intro q' h' F' N' l1; (try k_lt l1)))
local macro_rules | `(tactic| walk_at "getAttr ref") => `(tactic| (k_here; (with_reducible show wpAny _ _ (getAttr (Value.ref _) (PySem.Str.ofString "data") _) _ _ _); k_dflt (refine' Mine.data_get ?k1 ?k2 ?k3 ?k4 ?k5 ?k6 ?k7 ?_; (case k1 => assumption); (case k2 => k_asm); (case k3 => k_asm); (case k4 => k_mem); (case k5 => k_mem); (case k6 => assumption); (case k7 => exact Mine.clsOf_is _); k_whole)))
local macro_rules | `(tactic| walk_at "callWith ref") => `(tactic| (k_here; (with_reducible show wpAny _ _ (callWith _ (Value.ref _) _ (backTo _ (starEach [] _)) []) _ _ _); k_dflt (refine' Mine.cw_idf ?a ?b ?F ?N ?q ?_; (case F => k_asm); (case N => k_asm); (case q => k_mem); (case a => assumption); (case b => assumption); k_whole); (try dsimp only [List.nil_append, List.cons_append])))
local macro_rules | `(tactic| walk_at "call ref") => `(tactic| (k_here; (with_reducible show wpAny _ _ (call (Value.ref _) []) _ _ _); k_dflt (refine' call_meth (f := Value.ref (Mine.idfOf _)) ?k1 ?k2 ?_; (case k1 => k_asm); (case k2 => k_mem); refine' Mine.idf_call ?KX ?T ?B ?F ?N ?hkk ?hdp ?hk ?ht ?hd ?D ?KI ?_; (case F => k_asm); (case N => k_asm); (case B => assumption); (case ht => k_mem); (case hd => k_mem); (case D => assumption); (case KI => assumption); (case hk => assumption); (case KX => assumption); (case T => assumption); (case hkk => first | rfl | assumption); (case hdp => first | decide | ktr_room)); intro h' tk' t' F' N'; (try dsimp only)))
local macro_rules | `(tactic| walk_at "my_slen") => `(tactic| with_reducible first | assumption | exact Mine.hex_len _ | exact Mine.headS_len _ | exact Mine.head_len _ | (refine' Mine.len_app ?ha ?hb; (case ha => walk_at "my_slen"); (case hb => walk_at "my_slen")) | exact Nat.le_refl _)
local macro_rules | `(tactic| walk_at "my_low") => `(tactic| first | (with_reducible assumption) | (with_reducible exact Mine.headS_low _) | (with_reducible exact Mine.head_low _) | (with_reducible refine Mine.low_app ?_ ?_ <;> walk_at "my_low") | (unfold Mine.Low; decide +kernel))
local macro_rules | `(tactic| walk_at "subscriptTail Name Name ref int") => `(tactic| (k_here; (with_reducible show wpAny _ _ (subscriptTail _ _ (Value.ref 284) (Value.int _ _)) _ _ _); k_dflt (refine' Mine.head_get ?a ?b ?c ?d ?_; (case a => assumption); (case b => k_asm); (case c => omega); (case d => omega); k_whole); intro t9))
local macro_rules | `(tactic| walk_at "call ref") => `(tactic| (k_here; (with_reducible show wpAny _ _ (call (Value.ref _) [Value.bool _, Value.bool _]) _ _ _); k_dflt (refine' call_meth (f := Value.ref 145) ?k1 ?k2 ?_; (case k1 => k_asm); (case k2 => k_mem); refine' Mine.ren_bare ?KX ?T ?B ?F ?N ?hkk ?hdp ?hk ?ht ?hd ?ha ?D ?KI ?hys ?hsum ?hl ?_; (case F => k_asm); (case N => k_asm); (case B => assumption); (case ht => k_mem); (case hd => k_mem); (case D => assumption); (case ha => k_mem); (case KI => assumption); (case hys => assumption); (case hsum => assumption); (case hl => assumption); (case hk => first | assumption | decide); (case KX => assumption); (case T => assumption); (case hkk => rfl); (case hdp => first | decide | ktr_room)); intro h' tk' t' F' N'; (try dsimp only)))
local macro_rules | `(tactic| walk_at "call ref") => `(tactic| (k_here; (with_reducible show wpAny _ _ (call (Value.ref _) []) _ _ _); k_dflt (refine' call_meth (f := Value.ref 145) ?k1 ?k2 ?_; (case k1 => k_asm); (case k2 => k_mem); refine' Mine.ren_full ?KX ?T ?B ?F ?N ?hkk ?hdp ?hk ?ht ?hd ?ha ?D ?KI ?hys ?hsum ?hl ?hlow ?_; (case F => k_asm); (case N => k_asm); (case B => assumption); (case ht => k_mem); (case hd => k_mem); (case D => assumption); (case ha => k_mem); (case KI => assumption); (case hys => assumption); (case hsum => assumption); (case hl => assumption); (case hlow => assumption); (case hk => first | assumption | decide); (case KX => assumption); (case T => assumption); (case hkk => rfl); (case hdp => first | decide | ktr_room)); intro h' tk' t' F' N'; (try dsimp only)))
namespace Mine
theorem obsG {w : World} {mean : ExcName → Option Value} {mg mb : Str → Option Value} {L fa : Addr} {cd : Value} {h₀ : Heap} (KX : (hd.heap_39 w.params).In h₀) (T : Top hd.view_39 loosesW mean mg mb h₀) (K0 : Below callerA h₀ [] h₀)
  {Q : Flow → Shared → Prop} {s : Shared} {m : Str → Option Value} {t d a r Ta Ra g wn : Nat} {n na nr nT nR ng nw : Nat} {es : List DictEntry} {rs : List (Addr × Obj)} {vs ps tv pv gv wv : List Value} {k kt : Nat} {ys : List Str} (hk2 : 2 ≤ k) (hk : k < 5)
  (hch : r < Ra ∧ Ra < d ∧ d < t ∧ t < a ∧ a < Ta ∧ Ta < g ∧ g < wn) (off : OwnOff rs [g, wn]) (D : DictIs es a) (KI : KindIs es k) (hys : StrsAre vs ys) (hys' : StrsAre ps ys) (hsum : (ys.map (·.length)).sum ≤ 20000) (hl : ys.length ≤ 1000) (hgv : gv.length ≤ 1000) (hwv : wv.length ≤ 1000)
  (htv : tv[((k : Nat) : Int).toNat]? = some (.ref t)) (hpv : pv[((k : Nat) : Int).toNat]? = some (.ref r))
  (F : Fr h₀ L s.heap m) (hm : ∀ p ∈ [(S "k", Value.int ((k : Nat) : Int) kt), (S "rows", .ref Ra), (S "things", .ref Ta), (S "got", .ref g), (S "want", .ref wn)], m p.1 = some p.2)
  (N : News h₀ L s.heap ((g, listOf gv.toArray ng) :: (wn, listOf wv.toArray nw) :: (a, listOf vs.toArray na) :: (r, listOf ps.toArray nr) :: (t, instObj (clsOf k) d) :: (d, dictOf es n) :: (Ta, listOf tv.toArray nT) :: (Ra, listOf pv.toArray nR) :: rs))
  (hQ : ∀ (own : List (Addr × Obj)) (q1 q2 : Addr) m' h' tk' ng' nw', Keeps m m' → Fr h₀ L h' m' → News h₀ L h' (own ++ ((g, listOf (gv ++ [Value.ref q1]).toArray ng') :: (wn, listOf (wv ++ [Value.ref q2]).toArray nw') :: (a, listOf vs.toArray na) :: (r, listOf ps.toArray nr) :: (t, instObj (clsOf k) d) :: (d, dictOf es n) :: (Ta, listOf tv.toArray nT) :: (Ra, listOf pv.toArray nR) :: rs)) →
    DatIn own (.ref q1) (rowDat k ys) → DatIn own (.ref q2) (rowDat k ys) → (∀ p ∈ own, wn < p.1 ∧ AllLt p.1 rs) → Q .next { s with heap := h', toks := tk' }) :
  wpAny (model PySem.Challenge.rw_dg5010_01.row.prog w) (callerA.deeper (envOf (Str.ofString "law") lawScope L fa cd)) (execs obsBody (envOf (Str.ofString "law") lawScope L fa cd)) Q (fun _ _ => False) s := by
  have hv : vs.length ≤ 1000 := by rw [hys.len_eq]; exact hl
  have hp : ps.length ≤ 1000 := by rw [hys'.len_eq]; exact hl
  have hok : (ys.map (·.length)).sum + ys.length * 64 ≤ 16777216 := by omega
  have hj := join_len hsum hl
  have htd : toldDat ys k = .str (S "none") := by
    rcases five hk with rfl | rfl | rfl | rfl | rfl <;> first | rfl | omega
  have g0 : ¬ ((k : Nat) : Int) = 0 := by omega
  have g1 : ¬ ((k : Nat) : Int) = 1 := by omega
  have g2 : (2 : Int) ≤ ((k : Nat) : Int) := by omega
  revert KX
  k_fill
  intro KX
  have e1 := (rfl : lawScope = lawScope)
  conv at e1 => rhs; whnf
  dsimp only at e1
  conv in obsBody => whnf
  rw [e1]
  clear e1
  replace F := frK F _ hm
  have em := frE _ hm
  simp only [kstB] at F em
  have Dren := D.ren
  have Didf := D.idf
  k_steps
  all_goals (try (exfalso; omega))
  rename Fr _ _ _ _ => F9
  rename News _ _ _ _ => N9
  refine hQ [_, _, _, _, _] _ _ _ _ _ _ _ (by walk_at "my_keeps") F9 N9 ?d1 ?d2 ?lt
  case d1 =>
    unfold rowDat
    rw [htd]
    exact .list (by k_mem) (.cons (.list (by k_mem) (dats hys)) (.cons (.str _ _) (.cons (datStr rfl) .nil)))
  case d2 =>
    unfold rowDat
    rw [htd]
    exact .list (by k_mem) (.cons (.list (by k_mem) (dats hys')) (.cons (.str _ _) (.cons (datStr rfl) .nil)))
  case lt =>
    (repeat (rename (_ : Nat) < _ ∧ _ => hX9; obtain ⟨_, _⟩ := hX9))
    (repeat (refine List.forall_mem_cons.mpr ⟨⟨by dsimp only; omega, by dsimp only; assumption⟩, ?_⟩))
    exact List.forall_mem_nil _
end Mine

end

/-! part ObsF -/
section
open PySem PySem.W PySem.Calls PyProof.Rows
namespace Mine
/-- what is known of the k-th thing and its row in a ledger W -/
structure ThingK (W : List (Addr × Obj)) (Ta Ra g wn : Nat) (k C : Nat) (t d a r : Nat) (ys : List Str) : Prop where
  ch : r < Ra ∧ Ra < d ∧ d < t ∧ t < a ∧ a < Ta ∧ Ta < g ∧ g < wn
  sum : (ys.map (·.length)).sum ≤ 20000
  len : ys.length ≤ 1000
  cells : ∃ es n na nr vs ps, DictIs es a ∧ KindIs es k ∧ StrsAre vs ys ∧ StrsAre ps ys ∧ (a, listOf vs.toArray na) ∈ W ∧ (r, listOf ps.toArray nr) ∈ W ∧ (t, instObj C d) ∈ W ∧ (d, dictOf es n) ∈ W

theorem allLt_right {d : Addr} {l l' : List (Addr × Obj)} (h : AllLt d (l ++ l')) : AllLt d l' := by
  induction l with
  | nil => exact h
  | cons p l ih => exact ih h.2
theorem ThingK.mono {W W' : List (Addr × Obj)} {Ta Ra g wn k C t d a r : Nat} {ys : List Str} (T : ThingK W Ta Ra g wn k C t d a r ys) (h : ∀ p ∈ W, p ∈ W') : ThingK W' Ta Ra g wn k C t d a r ys :=
  let ⟨es, n, na, nr, vs, ps, a1, a2, a3, a4, a5, a6, a7, a8⟩ := T.cells
  ⟨T.ch, T.sum, T.len, es, n, na, nr, vs, ps, a1, a2, a3, a4, h _ a5, h _ a6, h _ a7, h _ a8⟩

theorem obsW0 {w : World} {mean : ExcName → Option Value} {mg mb : Str → Option Value} {L fa : Addr} {cd : Value} {h₀ : Heap} (KX : (hd.heap_39 w.params).In h₀) (T : Top hd.view_39 loosesW mean mg mb h₀) (K0 : Below callerA h₀ [] h₀)
  {Q : Flow → Shared → Prop} {s : Shared} {m : Str → Option Value} {t d a r Ta Ra g wn : Nat} {nT nR ng nw : Nat} {W : List (Addr × Obj)} {tv pv gv wv : List Value} {kt : Nat} {ys : List Str}
  (Th : ThingK W Ta Ra g wn 0 260 t d a r ys) (off : OwnOff W [g, wn]) (hgv : gv.length ≤ 1000) (hwv : wv.length ≤ 1000)
  (htv : tv[(0 : Int).toNat]? = some (.ref t)) (hpv : pv[(0 : Int).toNat]? = some (.ref r)) (mT : (Ta, listOf tv.toArray nT) ∈ W) (mR : (Ra, listOf pv.toArray nR) ∈ W)
  (F : Fr h₀ L s.heap m) (hm : ∀ p ∈ [(S "k", Value.int 0 kt), (S "rows", .ref Ra), (S "things", .ref Ta), (S "got", .ref g), (S "want", .ref wn)], m p.1 = some p.2)
  (N : News h₀ L s.heap ((g, listOf gv.toArray ng) :: (wn, listOf wv.toArray nw) :: W))
  (hQ : ∀ (own : List (Addr × Obj)) (q1 q2 : Addr) m' h' tk' ng' nw', Keeps m m' → Fr h₀ L h' m' → News h₀ L h' ((g, listOf (gv ++ [Value.ref q1]).toArray ng') :: (wn, listOf (wv ++ [Value.ref q2]).toArray nw') :: (own ++ W)) →
    DatIn own (.ref q1) (rowDat 0 ys) → DatIn own (.ref q2) (rowDat 0 ys) → (∀ p ∈ own, wn < p.1 ∧ AllLt p.1 W) → Q .next { s with heap := h', toks := tk' }) :
  wpAny (model PySem.Challenge.rw_dg5010_01.row.prog w) (callerA.deeper (envOf (Str.ofString "law") lawScope L fa cd)) (execs obsBody (envOf (Str.ofString "law") lawScope L fa cd)) Q (fun _ _ => False) s := by
  obtain ⟨es, n, na, nr, vs, ps, D, KI, hys, hys', ma, mr, mt, md⟩ := Th.cells
  refine obs0 KX T K0 Th.ch off D KI hys hys' Th.sum Th.len hgv hwv htv hpv F hm (nT := nT) (nR := nR) (n := n) (na := na) (nr := nr) (ng := ng) (nw := nw) ?_ ?_
  · intro p hp
    simp only [List.mem_cons] at hp
    rcases hp with rfl | rfl | rfl | rfl | rfl | rfl | rfl | rfl | hp
    · exact N _ (.head _)
    · exact N _ (.tail _ (.head _))
    all_goals exact N _ (.tail _ (.tail _ (by assumption)))
  · intro own q1 q2 m' h' tk' ng' nw' hk F' N' d1 d2 lt
    refine hQ own q1 q2 m' h' tk' ng' nw' hk F' (fun p hp => N' p ?_) d1 d2 lt
    simp only [List.mem_append, List.mem_cons] at hp ⊢
    rcases hp with hp | hp | hp | hp
    · exact .inr (.inl hp)
    · exact .inr (.inr (.inl hp))
    · exact .inl hp
    · exact .inr (.inr (.inr (.inr (.inr (.inr (.inr (.inr (.inr hp))))))))

theorem obsS0 {w : World} {mean : ExcName → Option Value} {mg mb : Str → Option Value} {L fa : Addr} {cd : Value} {h₀ : Heap} (KX : (hd.heap_39 w.params).In h₀) (T : Top hd.view_39 loosesW mean mg mb h₀) (K0 : Below callerA h₀ [] h₀)
  {Q : Flow → Shared → Prop} {s : Shared} {m : Str → Option Value} {t d a r Ta Ra g wn I : Nat} {nT nR ng nw j : Nat} {W : List (Addr × Obj)} {tv pv gv wv : List Value} {ys : List Str} {ds : List Dat} {M0 : List (Addr × Obj)}
  (Th : ThingK W Ta Ra g wn 0 260 t d a r ys) (off : OwnOff W [g, wn]) (hgv : gv.length ≤ 1000) (hwv : wv.length ≤ 1000)
  (htv : tv[(0 : Int).toNat]? = some (.ref t)) (hpv : pv[(0 : Int).toNat]? = some (.ref r)) (mT : (Ta, listOf tv.toArray nT) ∈ W) (mR : (Ra, listOf pv.toArray nR) ∈ W)
  (hm : ∀ p ∈ [(S "rows", Value.ref Ra), (S "things", .ref Ta), (S "got", .ref g), (S "want", .ref wn)], m p.1 = some p.2)
  (hI : wn < I) (hoI : ∀ p ∈ W, p.1 ≠ I) (hgw : g < wn) (dG : DatAll M0 gv ds) (dV : DatAll M0 wv ds)
  (rest : ∀ (own : List (Addr × Obj)) (gv' wv' : List Value) m' ng' nw', Keeps m m' → gv'.length = gv.length + 1 → wv'.length = wv.length + 1 → DatAll (own ++ M0) gv' (ds ++ [rowDat 0 ys]) → DatAll (own ++ M0) wv' (ds ++ [rowDat 0 ys]) → (∀ p ∈ own, wn < p.1 ∧ AllLt p.1 W) → (∀ p ∈ own, I < p.1) →
    RangeRest PySem.Challenge.rw_dg5010_01.row.prog w (callerA.deeper (envOf (Str.ofString "law") lawScope L fa cd)) (fun _ _ => False) h₀ (envOf (Str.ofString "law") lawScope L fa cd) (Str.ofString "k") obsBody Q s I 0 5 j (0 + 1) m' ((g, listOf gv'.toArray ng') :: (wn, listOf wv'.toArray nw') :: (own ++ W))) :
  RangeRest PySem.Challenge.rw_dg5010_01.row.prog w (callerA.deeper (envOf (Str.ofString "law") lawScope L fa cd)) (fun _ _ => False) h₀ (envOf (Str.ofString "law") lawScope L fa cd) (Str.ofString "k") obsBody Q s I 0 5 (j + 1) 0 m ((g, listOf gv.toArray ng) :: (wn, listOf wv.toArray nw) :: W) := by
  refine RangeRest.succ fun tk0 h tk F N => ?_
  generalize hit : itR (0 + ((0 + 1 : Nat) : Int)) (((5 : Nat) : Int) - ((0 + 1 : Nat) : Int)) = it at N ⊢
  refine obsW0 KX T K0 (W := (I, it) :: W) (kt := tk0) (Th.mono fun p hp => .tail _ hp) ?o hgv hwv htv hpv (.tail _ mT) (.tail _ mR) (F := F) ?m (ng := ng) (nw := nw) ?n ?q
  case o =>
    intro p hp b hb
    rcases List.mem_cons.mp hp with rfl | hp
    · simp only [List.mem_cons, List.not_mem_nil, or_false] at hb
      rcases hb with rfl | rfl
      · exact Nat.ne_of_gt (Nat.lt_trans hgw hI)
      · exact Nat.ne_of_gt hI
    · exact off p hp b hb
  case m =>
    refine List.forall_mem_cons.mpr ⟨?_, fun p hp => ?_⟩
    · exact if_pos rfl
    · refine Eq.trans (if_neg ?_) (hm p hp)
      intro e
      revert hp
      rw [show p = (p.1, p.2) from rfl, e]
      intro hp
      simp only [List.mem_cons, Prod.mk.injEq, List.not_mem_nil, or_false] at hp
      rcases hp with hp | hp | hp | hp <;> exact absurd hp.1 (by decide +kernel)
  case n =>
    intro p hp
    refine N p ?_
    simp only [List.mem_cons] at hp ⊢
    rcases hp with hp | hp | hp | hp
    · exact .inr (.inl hp)
    · exact .inr (.inr (.inl hp))
    · exact .inl hp
    · exact .inr (.inr (.inr hp))
  case q =>
    intro own q1 q2 m' h' tk' ng' nw' hk F' N' d1 d2 lt
    have lt1 : ∀ p ∈ own, wn < p.1 ∧ AllLt p.1 W := fun p hp => ⟨(lt p hp).1, (lt p hp).2.2⟩
    have lt2 : ∀ p ∈ own, I < p.1 := fun p hp => (lt p hp).2.1
    refine UnrEnd.intro F' N' ((g, listOf (gv ++ [Value.ref q1]).toArray ng') :: (wn, listOf (wv ++ [Value.ref q2]).toArray nw') :: (own ++ W)) ?_ ?_ (rest own _ _ m' ng' nw' ?_ (by simp) (by simp) ?_ ?_ lt1 lt2)
    · intro p hp
      simp only [List.mem_cons, List.mem_append] at hp ⊢
      rcases hp with hp | hp | hp | hp | hp
      · exact .inr (.inr (.inr (.inl hp)))
      · exact .inl hp
      · exact .inr (.inl hp)
      · exact .inr (.inr (.inl hp))
      · exact .inr (.inr (.inr (.inr hp)))
    · intro p hp
      simp only [List.mem_cons, List.mem_append] at hp
      rcases hp with rfl | rfl | hp | hp
      · exact Nat.ne_of_lt (Nat.lt_trans hgw hI)
      · exact Nat.ne_of_lt hI
      · exact Nat.ne_of_gt (lt2 p hp)
      · exact hoI p hp
    · exact fun z hz => (hk z hz).trans (if_neg (idle_ne hz).2.2.2.2.2)
    · exact .append (DatAll.mono (fun p hp => List.mem_append_right _ hp) dG) (DatAll.mono (fun p hp => List.mem_append_left _ hp) (.one d1))
    · exact .append (DatAll.mono (fun p hp => List.mem_append_right _ hp) dV) (DatAll.mono (fun p hp => List.mem_append_left _ hp) (.one d2))

theorem obsR0 {w : World} {mean : ExcName → Option Value} {mg mb : Str → Option Value} {L fa : Addr} {cd : Value} {h₀ : Heap} (KX : (hd.heap_39 w.params).In h₀) (T : Top hd.view_39 loosesW mean mg mb h₀) (K0 : Below callerA h₀ [] h₀)
  {Q : Flow → Shared → Prop} {s : Shared} {m : Str → Option Value} {t d a r Ta Ra g wn I : Nat} {nT nR ng nw j : Nat} {W acc : List (Addr × Obj)} {tv pv gv wv : List Value} {ys : List Str} {ds : List Dat} {M0 : List (Addr × Obj)}
  (Th : ThingK W Ta Ra g wn 0 260 t d a r ys) (off : OwnOff W [g, wn]) (hacc : ∀ p ∈ acc, wn < p.1 ∧ AllLt p.1 W ∧ p.1 ≠ I) (hgv : gv.length ≤ 1000) (hwv : wv.length ≤ 1000)
  (htv : tv[(0 : Int).toNat]? = some (.ref t)) (hpv : pv[(0 : Int).toNat]? = some (.ref r)) (mT : (Ta, listOf tv.toArray nT) ∈ W) (mR : (Ra, listOf pv.toArray nR) ∈ W)
  (hm : ∀ p ∈ [(S "rows", Value.ref Ra), (S "things", .ref Ta), (S "got", .ref g), (S "want", .ref wn)], m p.1 = some p.2)
  (hI : wn < I) (hoI : ∀ p ∈ W, p.1 ≠ I) (hgw : g < wn) (dG : DatAll (acc ++ M0) gv ds) (dV : DatAll (acc ++ M0) wv ds)
  (rest : ∀ (acc' : List (Addr × Obj)) (gv' wv' : List Value) m' ng' nw', (∀ p ∈ acc', wn < p.1 ∧ AllLt p.1 W ∧ p.1 ≠ I) → Keeps m m' → gv'.length = gv.length + 1 → wv'.length = wv.length + 1 → DatAll (acc' ++ M0) gv' (ds ++ [rowDat 0 ys]) → DatAll (acc' ++ M0) wv' (ds ++ [rowDat 0 ys]) →
    RangeRest PySem.Challenge.rw_dg5010_01.row.prog w (callerA.deeper (envOf (Str.ofString "law") lawScope L fa cd)) (fun _ _ => False) h₀ (envOf (Str.ofString "law") lawScope L fa cd) (Str.ofString "k") obsBody Q s I 0 5 j (0 + 1) m' ((g, listOf gv'.toArray ng') :: (wn, listOf wv'.toArray nw') :: (acc' ++ W))) :
  RangeRest PySem.Challenge.rw_dg5010_01.row.prog w (callerA.deeper (envOf (Str.ofString "law") lawScope L fa cd)) (fun _ _ => False) h₀ (envOf (Str.ofString "law") lawScope L fa cd) (Str.ofString "k") obsBody Q s I 0 5 (j + 1) 0 m ((g, listOf gv.toArray ng) :: (wn, listOf wv.toArray nw) :: (acc ++ W)) := by
  have sub : ∀ p ∈ W, p ∈ acc ++ W := fun p hp => List.mem_append_right _ hp
  refine obsS0 KX T K0 (W := acc ++ W) (M0 := acc ++ M0) (Th.mono sub) ?o hgv hwv htv hpv (sub _ mT) (sub _ mR) hm hI ?i hgw dG dV fun own gv' wv' m' ng' nw' hk lg lw eG eV lt li => ?_
  case o =>
    intro p hp b hb
    rcases List.mem_append.mp hp with hp | hp
    · simp only [List.mem_cons, List.not_mem_nil, or_false] at hb
      rcases hb with rfl | rfl
      · exact Nat.ne_of_gt (Nat.lt_trans hgw (hacc p hp).1)
      · exact Nat.ne_of_gt (hacc p hp).1
    · exact off p hp b hb
  case i =>
    intro p hp
    rcases List.mem_append.mp hp with hp | hp
    · exact (hacc p hp).2.2
    · exact hoI p hp
  rw [← List.append_assoc] at eG eV ⊢
  refine rest (own ++ acc) gv' wv' m' ng' nw' (fun p hp => ?_) hk lg lw eG eV
  rcases List.mem_append.mp hp with hp | hp
  · exact ⟨(lt p hp).1, allLt_right (lt p hp).2, Nat.ne_of_gt (li p hp)⟩
  · exact hacc p hp

theorem obsW1 {w : World} {mean : ExcName → Option Value} {mg mb : Str → Option Value} {L fa : Addr} {cd : Value} {h₀ : Heap} (KX : (hd.heap_39 w.params).In h₀) (T : Top hd.view_39 loosesW mean mg mb h₀) (K0 : Below callerA h₀ [] h₀)
  {Q : Flow → Shared → Prop} {s : Shared} {m : Str → Option Value} {t d a r Ta Ra g wn : Nat} {nT nR ng nw : Nat} {W : List (Addr × Obj)} {tv pv gv wv : List Value} {kt : Nat} {ys : List Str}
  (Th : ThingK W Ta Ra g wn 1 281 t d a r ys) (off : OwnOff W [g, wn]) (hgv : gv.length ≤ 1000) (hwv : wv.length ≤ 1000)
  (htv : tv[(1 : Int).toNat]? = some (.ref t)) (hpv : pv[(1 : Int).toNat]? = some (.ref r)) (mT : (Ta, listOf tv.toArray nT) ∈ W) (mR : (Ra, listOf pv.toArray nR) ∈ W)
  (F : Fr h₀ L s.heap m) (hm : ∀ p ∈ [(S "k", Value.int 1 kt), (S "rows", .ref Ra), (S "things", .ref Ta), (S "got", .ref g), (S "want", .ref wn)], m p.1 = some p.2)
  (N : News h₀ L s.heap ((g, listOf gv.toArray ng) :: (wn, listOf wv.toArray nw) :: W))
  (hQ : ∀ (own : List (Addr × Obj)) (q1 q2 : Addr) m' h' tk' ng' nw', Keeps m m' → Fr h₀ L h' m' → News h₀ L h' ((g, listOf (gv ++ [Value.ref q1]).toArray ng') :: (wn, listOf (wv ++ [Value.ref q2]).toArray nw') :: (own ++ W)) →
    DatIn own (.ref q1) (rowDat 1 ys) → DatIn own (.ref q2) (rowDat 1 ys) → (∀ p ∈ own, wn < p.1 ∧ AllLt p.1 W) → Q .next { s with heap := h', toks := tk' }) :
  wpAny (model PySem.Challenge.rw_dg5010_01.row.prog w) (callerA.deeper (envOf (Str.ofString "law") lawScope L fa cd)) (execs obsBody (envOf (Str.ofString "law") lawScope L fa cd)) Q (fun _ _ => False) s := by
  obtain ⟨es, n, na, nr, vs, ps, D, KI, hys, hys', ma, mr, mt, md⟩ := Th.cells
  refine obs1 KX T K0 Th.ch off D KI hys hys' Th.sum Th.len hgv hwv htv hpv F hm (nT := nT) (nR := nR) (n := n) (na := na) (nr := nr) (ng := ng) (nw := nw) ?_ ?_
  · intro p hp
    simp only [List.mem_cons] at hp
    rcases hp with rfl | rfl | rfl | rfl | rfl | rfl | rfl | rfl | hp
    · exact N _ (.head _)
    · exact N _ (.tail _ (.head _))
    all_goals exact N _ (.tail _ (.tail _ (by assumption)))
  · intro own q1 q2 m' h' tk' ng' nw' hk F' N' d1 d2 lt
    refine hQ own q1 q2 m' h' tk' ng' nw' hk F' (fun p hp => N' p ?_) d1 d2 lt
    simp only [List.mem_append, List.mem_cons] at hp ⊢
    rcases hp with hp | hp | hp | hp
    · exact .inr (.inl hp)
    · exact .inr (.inr (.inl hp))
    · exact .inl hp
    · exact .inr (.inr (.inr (.inr (.inr (.inr (.inr (.inr (.inr hp))))))))

theorem obsS1 {w : World} {mean : ExcName → Option Value} {mg mb : Str → Option Value} {L fa : Addr} {cd : Value} {h₀ : Heap} (KX : (hd.heap_39 w.params).In h₀) (T : Top hd.view_39 loosesW mean mg mb h₀) (K0 : Below callerA h₀ [] h₀)
  {Q : Flow → Shared → Prop} {s : Shared} {m : Str → Option Value} {t d a r Ta Ra g wn I : Nat} {nT nR ng nw j : Nat} {W : List (Addr × Obj)} {tv pv gv wv : List Value} {ys : List Str} {ds : List Dat} {M0 : List (Addr × Obj)}
  (Th : ThingK W Ta Ra g wn 1 281 t d a r ys) (off : OwnOff W [g, wn]) (hgv : gv.length ≤ 1000) (hwv : wv.length ≤ 1000)
  (htv : tv[(1 : Int).toNat]? = some (.ref t)) (hpv : pv[(1 : Int).toNat]? = some (.ref r)) (mT : (Ta, listOf tv.toArray nT) ∈ W) (mR : (Ra, listOf pv.toArray nR) ∈ W)
  (hm : ∀ p ∈ [(S "rows", Value.ref Ra), (S "things", .ref Ta), (S "got", .ref g), (S "want", .ref wn)], m p.1 = some p.2)
  (hI : wn < I) (hoI : ∀ p ∈ W, p.1 ≠ I) (hgw : g < wn) (dG : DatAll M0 gv ds) (dV : DatAll M0 wv ds)
  (rest : ∀ (own : List (Addr × Obj)) (gv' wv' : List Value) m' ng' nw', Keeps m m' → gv'.length = gv.length + 1 → wv'.length = wv.length + 1 → DatAll (own ++ M0) gv' (ds ++ [rowDat 1 ys]) → DatAll (own ++ M0) wv' (ds ++ [rowDat 1 ys]) → (∀ p ∈ own, wn < p.1 ∧ AllLt p.1 W) → (∀ p ∈ own, I < p.1) →
    RangeRest PySem.Challenge.rw_dg5010_01.row.prog w (callerA.deeper (envOf (Str.ofString "law") lawScope L fa cd)) (fun _ _ => False) h₀ (envOf (Str.ofString "law") lawScope L fa cd) (Str.ofString "k") obsBody Q s I 0 5 j (1 + 1) m' ((g, listOf gv'.toArray ng') :: (wn, listOf wv'.toArray nw') :: (own ++ W))) :
  RangeRest PySem.Challenge.rw_dg5010_01.row.prog w (callerA.deeper (envOf (Str.ofString "law") lawScope L fa cd)) (fun _ _ => False) h₀ (envOf (Str.ofString "law") lawScope L fa cd) (Str.ofString "k") obsBody Q s I 0 5 (j + 1) 1 m ((g, listOf gv.toArray ng) :: (wn, listOf wv.toArray nw) :: W) := by
  refine RangeRest.succ fun tk0 h tk F N => ?_
  generalize hit : itR (0 + ((1 + 1 : Nat) : Int)) (((5 : Nat) : Int) - ((1 + 1 : Nat) : Int)) = it at N ⊢
  refine obsW1 KX T K0 (W := (I, it) :: W) (kt := tk0) (Th.mono fun p hp => .tail _ hp) ?o hgv hwv htv hpv (.tail _ mT) (.tail _ mR) (F := F) ?m (ng := ng) (nw := nw) ?n ?q
  case o =>
    intro p hp b hb
    rcases List.mem_cons.mp hp with rfl | hp
    · simp only [List.mem_cons, List.not_mem_nil, or_false] at hb
      rcases hb with rfl | rfl
      · exact Nat.ne_of_gt (Nat.lt_trans hgw hI)
      · exact Nat.ne_of_gt hI
    · exact off p hp b hb
  case m =>
    refine List.forall_mem_cons.mpr ⟨?_, fun p hp => ?_⟩
    · exact if_pos rfl
    · refine Eq.trans (if_neg ?_) (hm p hp)
      intro e
      revert hp
      rw [show p = (p.1, p.2) from rfl, e]
      intro hp
      simp only [List.mem_cons, Prod.mk.injEq, List.not_mem_nil, or_false] at hp
      rcases hp with hp | hp | hp | hp <;> exact absurd hp.1 (by decide +kernel)
  case n =>
    intro p hp
    refine N p ?_
    simp only [List.mem_cons] at hp ⊢
    rcases hp with hp | hp | hp | hp
    · exact .inr (.inl hp)
    · exact .inr (.inr (.inl hp))
    · exact .inl hp
    · exact .inr (.inr (.inr hp))
  case q =>
    intro own q1 q2 m' h' tk' ng' nw' hk F' N' d1 d2 lt
    have lt1 : ∀ p ∈ own, wn < p.1 ∧ AllLt p.1 W := fun p hp => ⟨(lt p hp).1, (lt p hp).2.2⟩
    have lt2 : ∀ p ∈ own, I < p.1 := fun p hp => (lt p hp).2.1
    refine UnrEnd.intro F' N' ((g, listOf (gv ++ [Value.ref q1]).toArray ng') :: (wn, listOf (wv ++ [Value.ref q2]).toArray nw') :: (own ++ W)) ?_ ?_ (rest own _ _ m' ng' nw' ?_ (by simp) (by simp) ?_ ?_ lt1 lt2)
    · intro p hp
      simp only [List.mem_cons, List.mem_append] at hp ⊢
      rcases hp with hp | hp | hp | hp | hp
      · exact .inr (.inr (.inr (.inl hp)))
      · exact .inl hp
      · exact .inr (.inl hp)
      · exact .inr (.inr (.inl hp))
      · exact .inr (.inr (.inr (.inr hp)))
    · intro p hp
      simp only [List.mem_cons, List.mem_append] at hp
      rcases hp with rfl | rfl | hp | hp
      · exact Nat.ne_of_lt (Nat.lt_trans hgw hI)
      · exact Nat.ne_of_lt hI
      · exact Nat.ne_of_gt (lt2 p hp)
      · exact hoI p hp
    · exact fun z hz => (hk z hz).trans (if_neg (idle_ne hz).2.2.2.2.2)
    · exact .append (DatAll.mono (fun p hp => List.mem_append_right _ hp) dG) (DatAll.mono (fun p hp => List.mem_append_left _ hp) (.one d1))
    · exact .append (DatAll.mono (fun p hp => List.mem_append_right _ hp) dV) (DatAll.mono (fun p hp => List.mem_append_left _ hp) (.one d2))

theorem obsR1 {w : World} {mean : ExcName → Option Value} {mg mb : Str → Option Value} {L fa : Addr} {cd : Value} {h₀ : Heap} (KX : (hd.heap_39 w.params).In h₀) (T : Top hd.view_39 loosesW mean mg mb h₀) (K0 : Below callerA h₀ [] h₀)
  {Q : Flow → Shared → Prop} {s : Shared} {m : Str → Option Value} {t d a r Ta Ra g wn I : Nat} {nT nR ng nw j : Nat} {W acc : List (Addr × Obj)} {tv pv gv wv : List Value} {ys : List Str} {ds : List Dat} {M0 : List (Addr × Obj)}
  (Th : ThingK W Ta Ra g wn 1 281 t d a r ys) (off : OwnOff W [g, wn]) (hacc : ∀ p ∈ acc, wn < p.1 ∧ AllLt p.1 W ∧ p.1 ≠ I) (hgv : gv.length ≤ 1000) (hwv : wv.length ≤ 1000)
  (htv : tv[(1 : Int).toNat]? = some (.ref t)) (hpv : pv[(1 : Int).toNat]? = some (.ref r)) (mT : (Ta, listOf tv.toArray nT) ∈ W) (mR : (Ra, listOf pv.toArray nR) ∈ W)
  (hm : ∀ p ∈ [(S "rows", Value.ref Ra), (S "things", .ref Ta), (S "got", .ref g), (S "want", .ref wn)], m p.1 = some p.2)
  (hI : wn < I) (hoI : ∀ p ∈ W, p.1 ≠ I) (hgw : g < wn) (dG : DatAll (acc ++ M0) gv ds) (dV : DatAll (acc ++ M0) wv ds)
  (rest : ∀ (acc' : List (Addr × Obj)) (gv' wv' : List Value) m' ng' nw', (∀ p ∈ acc', wn < p.1 ∧ AllLt p.1 W ∧ p.1 ≠ I) → Keeps m m' → gv'.length = gv.length + 1 → wv'.length = wv.length + 1 → DatAll (acc' ++ M0) gv' (ds ++ [rowDat 1 ys]) → DatAll (acc' ++ M0) wv' (ds ++ [rowDat 1 ys]) →
    RangeRest PySem.Challenge.rw_dg5010_01.row.prog w (callerA.deeper (envOf (Str.ofString "law") lawScope L fa cd)) (fun _ _ => False) h₀ (envOf (Str.ofString "law") lawScope L fa cd) (Str.ofString "k") obsBody Q s I 0 5 j (1 + 1) m' ((g, listOf gv'.toArray ng') :: (wn, listOf wv'.toArray nw') :: (acc' ++ W))) :
  RangeRest PySem.Challenge.rw_dg5010_01.row.prog w (callerA.deeper (envOf (Str.ofString "law") lawScope L fa cd)) (fun _ _ => False) h₀ (envOf (Str.ofString "law") lawScope L fa cd) (Str.ofString "k") obsBody Q s I 0 5 (j + 1) 1 m ((g, listOf gv.toArray ng) :: (wn, listOf wv.toArray nw) :: (acc ++ W)) := by
  have sub : ∀ p ∈ W, p ∈ acc ++ W := fun p hp => List.mem_append_right _ hp
  refine obsS1 KX T K0 (W := acc ++ W) (M0 := acc ++ M0) (Th.mono sub) ?o hgv hwv htv hpv (sub _ mT) (sub _ mR) hm hI ?i hgw dG dV fun own gv' wv' m' ng' nw' hk lg lw eG eV lt li => ?_
  case o =>
    intro p hp b hb
    rcases List.mem_append.mp hp with hp | hp
    · simp only [List.mem_cons, List.not_mem_nil, or_false] at hb
      rcases hb with rfl | rfl
      · exact Nat.ne_of_gt (Nat.lt_trans hgw (hacc p hp).1)
      · exact Nat.ne_of_gt (hacc p hp).1
    · exact off p hp b hb
  case i =>
    intro p hp
    rcases List.mem_append.mp hp with hp | hp
    · exact (hacc p hp).2.2
    · exact hoI p hp
  rw [← List.append_assoc] at eG eV ⊢
  refine rest (own ++ acc) gv' wv' m' ng' nw' (fun p hp => ?_) hk lg lw eG eV
  rcases List.mem_append.mp hp with hp | hp
  · exact ⟨(lt p hp).1, allLt_right (lt p hp).2, Nat.ne_of_gt (li p hp)⟩
  · exact hacc p hp

theorem obsW2 {w : World} {mean : ExcName → Option Value} {mg mb : Str → Option Value} {L fa : Addr} {cd : Value} {h₀ : Heap} (KX : (hd.heap_39 w.params).In h₀) (T : Top hd.view_39 loosesW mean mg mb h₀) (K0 : Below callerA h₀ [] h₀)
  {Q : Flow → Shared → Prop} {s : Shared} {m : Str → Option Value} {t d a r Ta Ra g wn : Nat} {nT nR ng nw : Nat} {W : List (Addr × Obj)} {tv pv gv wv : List Value} {kt : Nat} {ys : List Str}
  (Th : ThingK W Ta Ra g wn 2 235 t d a r ys) (off : OwnOff W [g, wn]) (hgv : gv.length ≤ 1000) (hwv : wv.length ≤ 1000)
  (htv : tv[(2 : Int).toNat]? = some (.ref t)) (hpv : pv[(2 : Int).toNat]? = some (.ref r)) (mT : (Ta, listOf tv.toArray nT) ∈ W) (mR : (Ra, listOf pv.toArray nR) ∈ W)
  (F : Fr h₀ L s.heap m) (hm : ∀ p ∈ [(S "k", Value.int 2 kt), (S "rows", .ref Ra), (S "things", .ref Ta), (S "got", .ref g), (S "want", .ref wn)], m p.1 = some p.2)
  (N : News h₀ L s.heap ((g, listOf gv.toArray ng) :: (wn, listOf wv.toArray nw) :: W))
  (hQ : ∀ (own : List (Addr × Obj)) (q1 q2 : Addr) m' h' tk' ng' nw', Keeps m m' → Fr h₀ L h' m' → News h₀ L h' ((g, listOf (gv ++ [Value.ref q1]).toArray ng') :: (wn, listOf (wv ++ [Value.ref q2]).toArray nw') :: (own ++ W)) →
    DatIn own (.ref q1) (rowDat 2 ys) → DatIn own (.ref q2) (rowDat 2 ys) → (∀ p ∈ own, wn < p.1 ∧ AllLt p.1 W) → Q .next { s with heap := h', toks := tk' }) :
  wpAny (model PySem.Challenge.rw_dg5010_01.row.prog w) (callerA.deeper (envOf (Str.ofString "law") lawScope L fa cd)) (execs obsBody (envOf (Str.ofString "law") lawScope L fa cd)) Q (fun _ _ => False) s := by
  obtain ⟨es, n, na, nr, vs, ps, D, KI, hys, hys', ma, mr, mt, md⟩ := Th.cells
  refine obsG (k := 2) KX T K0 (by decide) (by decide) Th.ch off D KI hys hys' Th.sum Th.len hgv hwv htv hpv F hm (nT := nT) (nR := nR) (n := n) (na := na) (nr := nr) (ng := ng) (nw := nw) ?_ ?_
  · intro p hp
    simp only [List.mem_cons] at hp
    rcases hp with rfl | rfl | rfl | rfl | rfl | rfl | rfl | rfl | hp
    · exact N _ (.head _)
    · exact N _ (.tail _ (.head _))
    all_goals exact N _ (.tail _ (.tail _ (by assumption)))
  · intro own q1 q2 m' h' tk' ng' nw' hk F' N' d1 d2 lt
    refine hQ own q1 q2 m' h' tk' ng' nw' hk F' (fun p hp => N' p ?_) d1 d2 lt
    simp only [List.mem_append, List.mem_cons] at hp ⊢
    rcases hp with hp | hp | hp | hp
    · exact .inr (.inl hp)
    · exact .inr (.inr (.inl hp))
    · exact .inl hp
    · exact .inr (.inr (.inr (.inr (.inr (.inr (.inr (.inr (.inr hp))))))))

theorem obsS2 {w : World} {mean : ExcName → Option Value} {mg mb : Str → Option Value} {L fa : Addr} {cd : Value} {h₀ : Heap} (KX : (hd.heap_39 w.params).In h₀) (T : Top hd.view_39 loosesW mean mg mb h₀) (K0 : Below callerA h₀ [] h₀)
  {Q : Flow → Shared → Prop} {s : Shared} {m : Str → Option Value} {t d a r Ta Ra g wn I : Nat} {nT nR ng nw j : Nat} {W : List (Addr × Obj)} {tv pv gv wv : List Value} {ys : List Str} {ds : List Dat} {M0 : List (Addr × Obj)}
  (Th : ThingK W Ta Ra g wn 2 235 t d a r ys) (off : OwnOff W [g, wn]) (hgv : gv.length ≤ 1000) (hwv : wv.length ≤ 1000)
  (htv : tv[(2 : Int).toNat]? = some (.ref t)) (hpv : pv[(2 : Int).toNat]? = some (.ref r)) (mT : (Ta, listOf tv.toArray nT) ∈ W) (mR : (Ra, listOf pv.toArray nR) ∈ W)
  (hm : ∀ p ∈ [(S "rows", Value.ref Ra), (S "things", .ref Ta), (S "got", .ref g), (S "want", .ref wn)], m p.1 = some p.2)
  (hI : wn < I) (hoI : ∀ p ∈ W, p.1 ≠ I) (hgw : g < wn) (dG : DatAll M0 gv ds) (dV : DatAll M0 wv ds)
  (rest : ∀ (own : List (Addr × Obj)) (gv' wv' : List Value) m' ng' nw', Keeps m m' → gv'.length = gv.length + 1 → wv'.length = wv.length + 1 → DatAll (own ++ M0) gv' (ds ++ [rowDat 2 ys]) → DatAll (own ++ M0) wv' (ds ++ [rowDat 2 ys]) → (∀ p ∈ own, wn < p.1 ∧ AllLt p.1 W) → (∀ p ∈ own, I < p.1) →
    RangeRest PySem.Challenge.rw_dg5010_01.row.prog w (callerA.deeper (envOf (Str.ofString "law") lawScope L fa cd)) (fun _ _ => False) h₀ (envOf (Str.ofString "law") lawScope L fa cd) (Str.ofString "k") obsBody Q s I 0 5 j (2 + 1) m' ((g, listOf gv'.toArray ng') :: (wn, listOf wv'.toArray nw') :: (own ++ W))) :
  RangeRest PySem.Challenge.rw_dg5010_01.row.prog w (callerA.deeper (envOf (Str.ofString "law") lawScope L fa cd)) (fun _ _ => False) h₀ (envOf (Str.ofString "law") lawScope L fa cd) (Str.ofString "k") obsBody Q s I 0 5 (j + 1) 2 m ((g, listOf gv.toArray ng) :: (wn, listOf wv.toArray nw) :: W) := by
  refine RangeRest.succ fun tk0 h tk F N => ?_
  generalize hit : itR (0 + ((2 + 1 : Nat) : Int)) (((5 : Nat) : Int) - ((2 + 1 : Nat) : Int)) = it at N ⊢
  refine obsW2 KX T K0 (W := (I, it) :: W) (kt := tk0) (Th.mono fun p hp => .tail _ hp) ?o hgv hwv htv hpv (.tail _ mT) (.tail _ mR) (F := F) ?m (ng := ng) (nw := nw) ?n ?q
  case o =>
    intro p hp b hb
    rcases List.mem_cons.mp hp with rfl | hp
    · simp only [List.mem_cons, List.not_mem_nil, or_false] at hb
      rcases hb with rfl | rfl
      · exact Nat.ne_of_gt (Nat.lt_trans hgw hI)
      · exact Nat.ne_of_gt hI
    · exact off p hp b hb
  case m =>
    refine List.forall_mem_cons.mpr ⟨?_, fun p hp => ?_⟩
    · exact if_pos rfl
    · refine Eq.trans (if_neg ?_) (hm p hp)
      intro e
      revert hp
      rw [show p = (p.1, p.2) from rfl, e]
      intro hp
      simp only [List.mem_cons, Prod.mk.injEq, List.not_mem_nil, or_false] at hp
      rcases hp with hp | hp | hp | hp <;> exact absurd hp.1 (by decide +kernel)
  case n =>
    intro p hp
    refine N p ?_
    simp only [List.mem_cons] at hp ⊢
    rcases hp with hp | hp | hp | hp
    · exact .inr (.inl hp)
    · exact .inr (.inr (.inl hp))
    · exact .inl hp
    · exact .inr (.inr (.inr hp))
  case q =>
    intro own q1 q2 m' h' tk' ng' nw' hk F' N' d1 d2 lt
    have lt1 : ∀ p ∈ own, wn < p.1 ∧ AllLt p.1 W := fun p hp => ⟨(lt p hp).1, (lt p hp).2.2⟩
    have lt2 : ∀ p ∈ own, I < p.1 := fun p hp => (lt p hp).2.1
    refine UnrEnd.intro F' N' ((g, listOf (gv ++ [Value.ref q1]).toArray ng') :: (wn, listOf (wv ++ [Value.ref q2]).toArray nw') :: (own ++ W)) ?_ ?_ (rest own _ _ m' ng' nw' ?_ (by simp) (by simp) ?_ ?_ lt1 lt2)
    · intro p hp
      simp only [List.mem_cons, List.mem_append] at hp ⊢
      rcases hp with hp | hp | hp | hp | hp
      · exact .inr (.inr (.inr (.inl hp)))
      · exact .inl hp
      · exact .inr (.inl hp)
      · exact .inr (.inr (.inl hp))
      · exact .inr (.inr (.inr (.inr hp)))
    · intro p hp
      simp only [List.mem_cons, List.mem_append] at hp
      rcases hp with rfl | rfl | hp | hp
      · exact Nat.ne_of_lt (Nat.lt_trans hgw hI)
      · exact Nat.ne_of_lt hI
      · exact Nat.ne_of_gt (lt2 p hp)
      · exact hoI p hp
    · exact fun z hz => (hk z hz).trans (if_neg (idle_ne hz).2.2.2.2.2)
    · exact .append (DatAll.mono (fun p hp => List.mem_append_right _ hp) dG) (DatAll.mono (fun p hp => List.mem_append_left _ hp) (.one d1))
    · exact .append (DatAll.mono (fun p hp => List.mem_append_right _ hp) dV) (DatAll.mono (fun p hp => List.mem_append_left _ hp) (.one d2))

theorem obsR2 {w : World} {mean : ExcName → Option Value} {mg mb : Str → Option Value} {L fa : Addr} {cd : Value} {h₀ : Heap} (KX : (hd.heap_39 w.params).In h₀) (T : Top hd.view_39 loosesW mean mg mb h₀) (K0 : Below callerA h₀ [] h₀)
  {Q : Flow → Shared → Prop} {s : Shared} {m : Str → Option Value} {t d a r Ta Ra g wn I : Nat} {nT nR ng nw j : Nat} {W acc : List (Addr × Obj)} {tv pv gv wv : List Value} {ys : List Str} {ds : List Dat} {M0 : List (Addr × Obj)}
  (Th : ThingK W Ta Ra g wn 2 235 t d a r ys) (off : OwnOff W [g, wn]) (hacc : ∀ p ∈ acc, wn < p.1 ∧ AllLt p.1 W ∧ p.1 ≠ I) (hgv : gv.length ≤ 1000) (hwv : wv.length ≤ 1000)
  (htv : tv[(2 : Int).toNat]? = some (.ref t)) (hpv : pv[(2 : Int).toNat]? = some (.ref r)) (mT : (Ta, listOf tv.toArray nT) ∈ W) (mR : (Ra, listOf pv.toArray nR) ∈ W)
  (hm : ∀ p ∈ [(S "rows", Value.ref Ra), (S "things", .ref Ta), (S "got", .ref g), (S "want", .ref wn)], m p.1 = some p.2)
  (hI : wn < I) (hoI : ∀ p ∈ W, p.1 ≠ I) (hgw : g < wn) (dG : DatAll (acc ++ M0) gv ds) (dV : DatAll (acc ++ M0) wv ds)
  (rest : ∀ (acc' : List (Addr × Obj)) (gv' wv' : List Value) m' ng' nw', (∀ p ∈ acc', wn < p.1 ∧ AllLt p.1 W ∧ p.1 ≠ I) → Keeps m m' → gv'.length = gv.length + 1 → wv'.length = wv.length + 1 → DatAll (acc' ++ M0) gv' (ds ++ [rowDat 2 ys]) → DatAll (acc' ++ M0) wv' (ds ++ [rowDat 2 ys]) →
    RangeRest PySem.Challenge.rw_dg5010_01.row.prog w (callerA.deeper (envOf (Str.ofString "law") lawScope L fa cd)) (fun _ _ => False) h₀ (envOf (Str.ofString "law") lawScope L fa cd) (Str.ofString "k") obsBody Q s I 0 5 j (2 + 1) m' ((g, listOf gv'.toArray ng') :: (wn, listOf wv'.toArray nw') :: (acc' ++ W))) :
  RangeRest PySem.Challenge.rw_dg5010_01.row.prog w (callerA.deeper (envOf (Str.ofString "law") lawScope L fa cd)) (fun _ _ => False) h₀ (envOf (Str.ofString "law") lawScope L fa cd) (Str.ofString "k") obsBody Q s I 0 5 (j + 1) 2 m ((g, listOf gv.toArray ng) :: (wn, listOf wv.toArray nw) :: (acc ++ W)) := by
  have sub : ∀ p ∈ W, p ∈ acc ++ W := fun p hp => List.mem_append_right _ hp
  refine obsS2 KX T K0 (W := acc ++ W) (M0 := acc ++ M0) (Th.mono sub) ?o hgv hwv htv hpv (sub _ mT) (sub _ mR) hm hI ?i hgw dG dV fun own gv' wv' m' ng' nw' hk lg lw eG eV lt li => ?_
  case o =>
    intro p hp b hb
    rcases List.mem_append.mp hp with hp | hp
    · simp only [List.mem_cons, List.not_mem_nil, or_false] at hb
      rcases hb with rfl | rfl
      · exact Nat.ne_of_gt (Nat.lt_trans hgw (hacc p hp).1)
      · exact Nat.ne_of_gt (hacc p hp).1
    · exact off p hp b hb
  case i =>
    intro p hp
    rcases List.mem_append.mp hp with hp | hp
    · exact (hacc p hp).2.2
    · exact hoI p hp
  rw [← List.append_assoc] at eG eV ⊢
  refine rest (own ++ acc) gv' wv' m' ng' nw' (fun p hp => ?_) hk lg lw eG eV
  rcases List.mem_append.mp hp with hp | hp
  · exact ⟨(lt p hp).1, allLt_right (lt p hp).2, Nat.ne_of_gt (li p hp)⟩
  · exact hacc p hp

theorem obsW3 {w : World} {mean : ExcName → Option Value} {mg mb : Str → Option Value} {L fa : Addr} {cd : Value} {h₀ : Heap} (KX : (hd.heap_39 w.params).In h₀) (T : Top hd.view_39 loosesW mean mg mb h₀) (K0 : Below callerA h₀ [] h₀)
  {Q : Flow → Shared → Prop} {s : Shared} {m : Str → Option Value} {t d a r Ta Ra g wn : Nat} {nT nR ng nw : Nat} {W : List (Addr × Obj)} {tv pv gv wv : List Value} {kt : Nat} {ys : List Str}
  (Th : ThingK W Ta Ra g wn 3 209 t d a r ys) (off : OwnOff W [g, wn]) (hgv : gv.length ≤ 1000) (hwv : wv.length ≤ 1000)
  (htv : tv[(3 : Int).toNat]? = some (.ref t)) (hpv : pv[(3 : Int).toNat]? = some (.ref r)) (mT : (Ta, listOf tv.toArray nT) ∈ W) (mR : (Ra, listOf pv.toArray nR) ∈ W)
  (F : Fr h₀ L s.heap m) (hm : ∀ p ∈ [(S "k", Value.int 3 kt), (S "rows", .ref Ra), (S "things", .ref Ta), (S "got", .ref g), (S "want", .ref wn)], m p.1 = some p.2)
  (N : News h₀ L s.heap ((g, listOf gv.toArray ng) :: (wn, listOf wv.toArray nw) :: W))
  (hQ : ∀ (own : List (Addr × Obj)) (q1 q2 : Addr) m' h' tk' ng' nw', Keeps m m' → Fr h₀ L h' m' → News h₀ L h' ((g, listOf (gv ++ [Value.ref q1]).toArray ng') :: (wn, listOf (wv ++ [Value.ref q2]).toArray nw') :: (own ++ W)) →
    DatIn own (.ref q1) (rowDat 3 ys) → DatIn own (.ref q2) (rowDat 3 ys) → (∀ p ∈ own, wn < p.1 ∧ AllLt p.1 W) → Q .next { s with heap := h', toks := tk' }) :
  wpAny (model PySem.Challenge.rw_dg5010_01.row.prog w) (callerA.deeper (envOf (Str.ofString "law") lawScope L fa cd)) (execs obsBody (envOf (Str.ofString "law") lawScope L fa cd)) Q (fun _ _ => False) s := by
  obtain ⟨es, n, na, nr, vs, ps, D, KI, hys, hys', ma, mr, mt, md⟩ := Th.cells
  refine obsG (k := 3) KX T K0 (by decide) (by decide) Th.ch off D KI hys hys' Th.sum Th.len hgv hwv htv hpv F hm (nT := nT) (nR := nR) (n := n) (na := na) (nr := nr) (ng := ng) (nw := nw) ?_ ?_
  · intro p hp
    simp only [List.mem_cons] at hp
    rcases hp with rfl | rfl | rfl | rfl | rfl | rfl | rfl | rfl | hp
    · exact N _ (.head _)
    · exact N _ (.tail _ (.head _))
    all_goals exact N _ (.tail _ (.tail _ (by assumption)))
  · intro own q1 q2 m' h' tk' ng' nw' hk F' N' d1 d2 lt
    refine hQ own q1 q2 m' h' tk' ng' nw' hk F' (fun p hp => N' p ?_) d1 d2 lt
    simp only [List.mem_append, List.mem_cons] at hp ⊢
    rcases hp with hp | hp | hp | hp
    · exact .inr (.inl hp)
    · exact .inr (.inr (.inl hp))
    · exact .inl hp
    · exact .inr (.inr (.inr (.inr (.inr (.inr (.inr (.inr (.inr hp))))))))

theorem obsS3 {w : World} {mean : ExcName → Option Value} {mg mb : Str → Option Value} {L fa : Addr} {cd : Value} {h₀ : Heap} (KX : (hd.heap_39 w.params).In h₀) (T : Top hd.view_39 loosesW mean mg mb h₀) (K0 : Below callerA h₀ [] h₀)
  {Q : Flow → Shared → Prop} {s : Shared} {m : Str → Option Value} {t d a r Ta Ra g wn I : Nat} {nT nR ng nw j : Nat} {W : List (Addr × Obj)} {tv pv gv wv : List Value} {ys : List Str} {ds : List Dat} {M0 : List (Addr × Obj)}
  (Th : ThingK W Ta Ra g wn 3 209 t d a r ys) (off : OwnOff W [g, wn]) (hgv : gv.length ≤ 1000) (hwv : wv.length ≤ 1000)
  (htv : tv[(3 : Int).toNat]? = some (.ref t)) (hpv : pv[(3 : Int).toNat]? = some (.ref r)) (mT : (Ta, listOf tv.toArray nT) ∈ W) (mR : (Ra, listOf pv.toArray nR) ∈ W)
  (hm : ∀ p ∈ [(S "rows", Value.ref Ra), (S "things", .ref Ta), (S "got", .ref g), (S "want", .ref wn)], m p.1 = some p.2)
  (hI : wn < I) (hoI : ∀ p ∈ W, p.1 ≠ I) (hgw : g < wn) (dG : DatAll M0 gv ds) (dV : DatAll M0 wv ds)
  (rest : ∀ (own : List (Addr × Obj)) (gv' wv' : List Value) m' ng' nw', Keeps m m' → gv'.length = gv.length + 1 → wv'.length = wv.length + 1 → DatAll (own ++ M0) gv' (ds ++ [rowDat 3 ys]) → DatAll (own ++ M0) wv' (ds ++ [rowDat 3 ys]) → (∀ p ∈ own, wn < p.1 ∧ AllLt p.1 W) → (∀ p ∈ own, I < p.1) →
    RangeRest PySem.Challenge.rw_dg5010_01.row.prog w (callerA.deeper (envOf (Str.ofString "law") lawScope L fa cd)) (fun _ _ => False) h₀ (envOf (Str.ofString "law") lawScope L fa cd) (Str.ofString "k") obsBody Q s I 0 5 j (3 + 1) m' ((g, listOf gv'.toArray ng') :: (wn, listOf wv'.toArray nw') :: (own ++ W))) :
  RangeRest PySem.Challenge.rw_dg5010_01.row.prog w (callerA.deeper (envOf (Str.ofString "law") lawScope L fa cd)) (fun _ _ => False) h₀ (envOf (Str.ofString "law") lawScope L fa cd) (Str.ofString "k") obsBody Q s I 0 5 (j + 1) 3 m ((g, listOf gv.toArray ng) :: (wn, listOf wv.toArray nw) :: W) := by
  refine RangeRest.succ fun tk0 h tk F N => ?_
  generalize hit : itR (0 + ((3 + 1 : Nat) : Int)) (((5 : Nat) : Int) - ((3 + 1 : Nat) : Int)) = it at N ⊢
  refine obsW3 KX T K0 (W := (I, it) :: W) (kt := tk0) (Th.mono fun p hp => .tail _ hp) ?o hgv hwv htv hpv (.tail _ mT) (.tail _ mR) (F := F) ?m (ng := ng) (nw := nw) ?n ?q
  case o =>
    intro p hp b hb
    rcases List.mem_cons.mp hp with rfl | hp
    · simp only [List.mem_cons, List.not_mem_nil, or_false] at hb
      rcases hb with rfl | rfl
      · exact Nat.ne_of_gt (Nat.lt_trans hgw hI)
      · exact Nat.ne_of_gt hI
    · exact off p hp b hb
  case m =>
    refine List.forall_mem_cons.mpr ⟨?_, fun p hp => ?_⟩
    · exact if_pos rfl
    · refine Eq.trans (if_neg ?_) (hm p hp)
      intro e
      revert hp
      rw [show p = (p.1, p.2) from rfl, e]
      intro hp
      simp only [List.mem_cons, Prod.mk.injEq, List.not_mem_nil, or_false] at hp
      rcases hp with hp | hp | hp | hp <;> exact absurd hp.1 (by decide +kernel)
  case n =>
    intro p hp
    refine N p ?_
    simp only [List.mem_cons] at hp ⊢
    rcases hp with hp | hp | hp | hp
    · exact .inr (.inl hp)
    · exact .inr (.inr (.inl hp))
    · exact .inl hp
    · exact .inr (.inr (.inr hp))
  case q =>
    intro own q1 q2 m' h' tk' ng' nw' hk F' N' d1 d2 lt
    have lt1 : ∀ p ∈ own, wn < p.1 ∧ AllLt p.1 W := fun p hp => ⟨(lt p hp).1, (lt p hp).2.2⟩
    have lt2 : ∀ p ∈ own, I < p.1 := fun p hp => (lt p hp).2.1
    refine UnrEnd.intro F' N' ((g, listOf (gv ++ [Value.ref q1]).toArray ng') :: (wn, listOf (wv ++ [Value.ref q2]).toArray nw') :: (own ++ W)) ?_ ?_ (rest own _ _ m' ng' nw' ?_ (by simp) (by simp) ?_ ?_ lt1 lt2)
    · intro p hp
      simp only [List.mem_cons, List.mem_append] at hp ⊢
      rcases hp with hp | hp | hp | hp | hp
      · exact .inr (.inr (.inr (.inl hp)))
      · exact .inl hp
      · exact .inr (.inl hp)
      · exact .inr (.inr (.inl hp))
      · exact .inr (.inr (.inr (.inr hp)))
    · intro p hp
      simp only [List.mem_cons, List.mem_append] at hp
      rcases hp with rfl | rfl | hp | hp
      · exact Nat.ne_of_lt (Nat.lt_trans hgw hI)
      · exact Nat.ne_of_lt hI
      · exact Nat.ne_of_gt (lt2 p hp)
      · exact hoI p hp
    · exact fun z hz => (hk z hz).trans (if_neg (idle_ne hz).2.2.2.2.2)
    · exact .append (DatAll.mono (fun p hp => List.mem_append_right _ hp) dG) (DatAll.mono (fun p hp => List.mem_append_left _ hp) (.one d1))
    · exact .append (DatAll.mono (fun p hp => List.mem_append_right _ hp) dV) (DatAll.mono (fun p hp => List.mem_append_left _ hp) (.one d2))

theorem obsR3 {w : World} {mean : ExcName → Option Value} {mg mb : Str → Option Value} {L fa : Addr} {cd : Value} {h₀ : Heap} (KX : (hd.heap_39 w.params).In h₀) (T : Top hd.view_39 loosesW mean mg mb h₀) (K0 : Below callerA h₀ [] h₀)
  {Q : Flow → Shared → Prop} {s : Shared} {m : Str → Option Value} {t d a r Ta Ra g wn I : Nat} {nT nR ng nw j : Nat} {W acc : List (Addr × Obj)} {tv pv gv wv : List Value} {ys : List Str} {ds : List Dat} {M0 : List (Addr × Obj)}
  (Th : ThingK W Ta Ra g wn 3 209 t d a r ys) (off : OwnOff W [g, wn]) (hacc : ∀ p ∈ acc, wn < p.1 ∧ AllLt p.1 W ∧ p.1 ≠ I) (hgv : gv.length ≤ 1000) (hwv : wv.length ≤ 1000)
  (htv : tv[(3 : Int).toNat]? = some (.ref t)) (hpv : pv[(3 : Int).toNat]? = some (.ref r)) (mT : (Ta, listOf tv.toArray nT) ∈ W) (mR : (Ra, listOf pv.toArray nR) ∈ W)
  (hm : ∀ p ∈ [(S "rows", Value.ref Ra), (S "things", .ref Ta), (S "got", .ref g), (S "want", .ref wn)], m p.1 = some p.2)
  (hI : wn < I) (hoI : ∀ p ∈ W, p.1 ≠ I) (hgw : g < wn) (dG : DatAll (acc ++ M0) gv ds) (dV : DatAll (acc ++ M0) wv ds)
  (rest : ∀ (acc' : List (Addr × Obj)) (gv' wv' : List Value) m' ng' nw', (∀ p ∈ acc', wn < p.1 ∧ AllLt p.1 W ∧ p.1 ≠ I) → Keeps m m' → gv'.length = gv.length + 1 → wv'.length = wv.length + 1 → DatAll (acc' ++ M0) gv' (ds ++ [rowDat 3 ys]) → DatAll (acc' ++ M0) wv' (ds ++ [rowDat 3 ys]) →
    RangeRest PySem.Challenge.rw_dg5010_01.row.prog w (callerA.deeper (envOf (Str.ofString "law") lawScope L fa cd)) (fun _ _ => False) h₀ (envOf (Str.ofString "law") lawScope L fa cd) (Str.ofString "k") obsBody Q s I 0 5 j (3 + 1) m' ((g, listOf gv'.toArray ng') :: (wn, listOf wv'.toArray nw') :: (acc' ++ W))) :
  RangeRest PySem.Challenge.rw_dg5010_01.row.prog w (callerA.deeper (envOf (Str.ofString "law") lawScope L fa cd)) (fun _ _ => False) h₀ (envOf (Str.ofString "law") lawScope L fa cd) (Str.ofString "k") obsBody Q s I 0 5 (j + 1) 3 m ((g, listOf gv.toArray ng) :: (wn, listOf wv.toArray nw) :: (acc ++ W)) := by
  have sub : ∀ p ∈ W, p ∈ acc ++ W := fun p hp => List.mem_append_right _ hp
  refine obsS3 KX T K0 (W := acc ++ W) (M0 := acc ++ M0) (Th.mono sub) ?o hgv hwv htv hpv (sub _ mT) (sub _ mR) hm hI ?i hgw dG dV fun own gv' wv' m' ng' nw' hk lg lw eG eV lt li => ?_
  case o =>
    intro p hp b hb
    rcases List.mem_append.mp hp with hp | hp
    · simp only [List.mem_cons, List.not_mem_nil, or_false] at hb
      rcases hb with rfl | rfl
      · exact Nat.ne_of_gt (Nat.lt_trans hgw (hacc p hp).1)
      · exact Nat.ne_of_gt (hacc p hp).1
    · exact off p hp b hb
  case i =>
    intro p hp
    rcases List.mem_append.mp hp with hp | hp
    · exact (hacc p hp).2.2
    · exact hoI p hp
  rw [← List.append_assoc] at eG eV ⊢
  refine rest (own ++ acc) gv' wv' m' ng' nw' (fun p hp => ?_) hk lg lw eG eV
  rcases List.mem_append.mp hp with hp | hp
  · exact ⟨(lt p hp).1, allLt_right (lt p hp).2, Nat.ne_of_gt (li p hp)⟩
  · exact hacc p hp

theorem obsW4 {w : World} {mean : ExcName → Option Value} {mg mb : Str → Option Value} {L fa : Addr} {cd : Value} {h₀ : Heap} (KX : (hd.heap_39 w.params).In h₀) (T : Top hd.view_39 loosesW mean mg mb h₀) (K0 : Below callerA h₀ [] h₀)
  {Q : Flow → Shared → Prop} {s : Shared} {m : Str → Option Value} {t d a r Ta Ra g wn : Nat} {nT nR ng nw : Nat} {W : List (Addr × Obj)} {tv pv gv wv : List Value} {kt : Nat} {ys : List Str}
  (Th : ThingK W Ta Ra g wn 4 209 t d a r ys) (off : OwnOff W [g, wn]) (hgv : gv.length ≤ 1000) (hwv : wv.length ≤ 1000)
  (htv : tv[(4 : Int).toNat]? = some (.ref t)) (hpv : pv[(4 : Int).toNat]? = some (.ref r)) (mT : (Ta, listOf tv.toArray nT) ∈ W) (mR : (Ra, listOf pv.toArray nR) ∈ W)
  (F : Fr h₀ L s.heap m) (hm : ∀ p ∈ [(S "k", Value.int 4 kt), (S "rows", .ref Ra), (S "things", .ref Ta), (S "got", .ref g), (S "want", .ref wn)], m p.1 = some p.2)
  (N : News h₀ L s.heap ((g, listOf gv.toArray ng) :: (wn, listOf wv.toArray nw) :: W))
  (hQ : ∀ (own : List (Addr × Obj)) (q1 q2 : Addr) m' h' tk' ng' nw', Keeps m m' → Fr h₀ L h' m' → News h₀ L h' ((g, listOf (gv ++ [Value.ref q1]).toArray ng') :: (wn, listOf (wv ++ [Value.ref q2]).toArray nw') :: (own ++ W)) →
    DatIn own (.ref q1) (rowDat 4 ys) → DatIn own (.ref q2) (rowDat 4 ys) → (∀ p ∈ own, wn < p.1 ∧ AllLt p.1 W) → Q .next { s with heap := h', toks := tk' }) :
  wpAny (model PySem.Challenge.rw_dg5010_01.row.prog w) (callerA.deeper (envOf (Str.ofString "law") lawScope L fa cd)) (execs obsBody (envOf (Str.ofString "law") lawScope L fa cd)) Q (fun _ _ => False) s := by
  obtain ⟨es, n, na, nr, vs, ps, D, KI, hys, hys', ma, mr, mt, md⟩ := Th.cells
  refine obsG (k := 4) KX T K0 (by decide) (by decide) Th.ch off D KI hys hys' Th.sum Th.len hgv hwv htv hpv F hm (nT := nT) (nR := nR) (n := n) (na := na) (nr := nr) (ng := ng) (nw := nw) ?_ ?_
  · intro p hp
    simp only [List.mem_cons] at hp
    rcases hp with rfl | rfl | rfl | rfl | rfl | rfl | rfl | rfl | hp
    · exact N _ (.head _)
    · exact N _ (.tail _ (.head _))
    all_goals exact N _ (.tail _ (.tail _ (by assumption)))
  · intro own q1 q2 m' h' tk' ng' nw' hk F' N' d1 d2 lt
    refine hQ own q1 q2 m' h' tk' ng' nw' hk F' (fun p hp => N' p ?_) d1 d2 lt
    simp only [List.mem_append, List.mem_cons] at hp ⊢
    rcases hp with hp | hp | hp | hp
    · exact .inr (.inl hp)
    · exact .inr (.inr (.inl hp))
    · exact .inl hp
    · exact .inr (.inr (.inr (.inr (.inr (.inr (.inr (.inr (.inr hp))))))))

theorem obsS4 {w : World} {mean : ExcName → Option Value} {mg mb : Str → Option Value} {L fa : Addr} {cd : Value} {h₀ : Heap} (KX : (hd.heap_39 w.params).In h₀) (T : Top hd.view_39 loosesW mean mg mb h₀) (K0 : Below callerA h₀ [] h₀)
  {Q : Flow → Shared → Prop} {s : Shared} {m : Str → Option Value} {t d a r Ta Ra g wn I : Nat} {nT nR ng nw j : Nat} {W : List (Addr × Obj)} {tv pv gv wv : List Value} {ys : List Str} {ds : List Dat} {M0 : List (Addr × Obj)}
  (Th : ThingK W Ta Ra g wn 4 209 t d a r ys) (off : OwnOff W [g, wn]) (hgv : gv.length ≤ 1000) (hwv : wv.length ≤ 1000)
  (htv : tv[(4 : Int).toNat]? = some (.ref t)) (hpv : pv[(4 : Int).toNat]? = some (.ref r)) (mT : (Ta, listOf tv.toArray nT) ∈ W) (mR : (Ra, listOf pv.toArray nR) ∈ W)
  (hm : ∀ p ∈ [(S "rows", Value.ref Ra), (S "things", .ref Ta), (S "got", .ref g), (S "want", .ref wn)], m p.1 = some p.2)
  (hI : wn < I) (hoI : ∀ p ∈ W, p.1 ≠ I) (hgw : g < wn) (dG : DatAll M0 gv ds) (dV : DatAll M0 wv ds)
  (rest : ∀ (own : List (Addr × Obj)) (gv' wv' : List Value) m' ng' nw', Keeps m m' → gv'.length = gv.length + 1 → wv'.length = wv.length + 1 → DatAll (own ++ M0) gv' (ds ++ [rowDat 4 ys]) → DatAll (own ++ M0) wv' (ds ++ [rowDat 4 ys]) → (∀ p ∈ own, wn < p.1 ∧ AllLt p.1 W) → (∀ p ∈ own, I < p.1) →
    RangeRest PySem.Challenge.rw_dg5010_01.row.prog w (callerA.deeper (envOf (Str.ofString "law") lawScope L fa cd)) (fun _ _ => False) h₀ (envOf (Str.ofString "law") lawScope L fa cd) (Str.ofString "k") obsBody Q s I 0 5 j (4 + 1) m' ((g, listOf gv'.toArray ng') :: (wn, listOf wv'.toArray nw') :: (own ++ W))) :
  RangeRest PySem.Challenge.rw_dg5010_01.row.prog w (callerA.deeper (envOf (Str.ofString "law") lawScope L fa cd)) (fun _ _ => False) h₀ (envOf (Str.ofString "law") lawScope L fa cd) (Str.ofString "k") obsBody Q s I 0 5 (j + 1) 4 m ((g, listOf gv.toArray ng) :: (wn, listOf wv.toArray nw) :: W) := by
  refine RangeRest.succ fun tk0 h tk F N => ?_
  generalize hit : itR (0 + ((4 + 1 : Nat) : Int)) (((5 : Nat) : Int) - ((4 + 1 : Nat) : Int)) = it at N ⊢
  refine obsW4 KX T K0 (W := (I, it) :: W) (kt := tk0) (Th.mono fun p hp => .tail _ hp) ?o hgv hwv htv hpv (.tail _ mT) (.tail _ mR) (F := F) ?m (ng := ng) (nw := nw) ?n ?q
  case o =>
    intro p hp b hb
    rcases List.mem_cons.mp hp with rfl | hp
    · simp only [List.mem_cons, List.not_mem_nil, or_false] at hb
      rcases hb with rfl | rfl
      · exact Nat.ne_of_gt (Nat.lt_trans hgw hI)
      · exact Nat.ne_of_gt hI
    · exact off p hp b hb
  case m =>
    refine List.forall_mem_cons.mpr ⟨?_, fun p hp => ?_⟩
    · exact if_pos rfl
    · refine Eq.trans (if_neg ?_) (hm p hp)
      intro e
      revert hp
      rw [show p = (p.1, p.2) from rfl, e]
      intro hp
      simp only [List.mem_cons, Prod.mk.injEq, List.not_mem_nil, or_false] at hp
      rcases hp with hp | hp | hp | hp <;> exact absurd hp.1 (by decide +kernel)
  case n =>
    intro p hp
    refine N p ?_
    simp only [List.mem_cons] at hp ⊢
    rcases hp with hp | hp | hp | hp
    · exact .inr (.inl hp)
    · exact .inr (.inr (.inl hp))
    · exact .inl hp
    · exact .inr (.inr (.inr hp))
  case q =>
    intro own q1 q2 m' h' tk' ng' nw' hk F' N' d1 d2 lt
    have lt1 : ∀ p ∈ own, wn < p.1 ∧ AllLt p.1 W := fun p hp => ⟨(lt p hp).1, (lt p hp).2.2⟩
    have lt2 : ∀ p ∈ own, I < p.1 := fun p hp => (lt p hp).2.1
    refine UnrEnd.intro F' N' ((g, listOf (gv ++ [Value.ref q1]).toArray ng') :: (wn, listOf (wv ++ [Value.ref q2]).toArray nw') :: (own ++ W)) ?_ ?_ (rest own _ _ m' ng' nw' ?_ (by simp) (by simp) ?_ ?_ lt1 lt2)
    · intro p hp
      simp only [List.mem_cons, List.mem_append] at hp ⊢
      rcases hp with hp | hp | hp | hp | hp
      · exact .inr (.inr (.inr (.inl hp)))
      · exact .inl hp
      · exact .inr (.inl hp)
      · exact .inr (.inr (.inl hp))
      · exact .inr (.inr (.inr (.inr hp)))
    · intro p hp
      simp only [List.mem_cons, List.mem_append] at hp
      rcases hp with rfl | rfl | hp | hp
      · exact Nat.ne_of_lt (Nat.lt_trans hgw hI)
      · exact Nat.ne_of_lt hI
      · exact Nat.ne_of_gt (lt2 p hp)
      · exact hoI p hp
    · exact fun z hz => (hk z hz).trans (if_neg (idle_ne hz).2.2.2.2.2)
    · exact .append (DatAll.mono (fun p hp => List.mem_append_right _ hp) dG) (DatAll.mono (fun p hp => List.mem_append_left _ hp) (.one d1))
    · exact .append (DatAll.mono (fun p hp => List.mem_append_right _ hp) dV) (DatAll.mono (fun p hp => List.mem_append_left _ hp) (.one d2))

theorem obsR4 {w : World} {mean : ExcName → Option Value} {mg mb : Str → Option Value} {L fa : Addr} {cd : Value} {h₀ : Heap} (KX : (hd.heap_39 w.params).In h₀) (T : Top hd.view_39 loosesW mean mg mb h₀) (K0 : Below callerA h₀ [] h₀)
  {Q : Flow → Shared → Prop} {s : Shared} {m : Str → Option Value} {t d a r Ta Ra g wn I : Nat} {nT nR ng nw j : Nat} {W acc : List (Addr × Obj)} {tv pv gv wv : List Value} {ys : List Str} {ds : List Dat} {M0 : List (Addr × Obj)}
  (Th : ThingK W Ta Ra g wn 4 209 t d a r ys) (off : OwnOff W [g, wn]) (hacc : ∀ p ∈ acc, wn < p.1 ∧ AllLt p.1 W ∧ p.1 ≠ I) (hgv : gv.length ≤ 1000) (hwv : wv.length ≤ 1000)
  (htv : tv[(4 : Int).toNat]? = some (.ref t)) (hpv : pv[(4 : Int).toNat]? = some (.ref r)) (mT : (Ta, listOf tv.toArray nT) ∈ W) (mR : (Ra, listOf pv.toArray nR) ∈ W)
  (hm : ∀ p ∈ [(S "rows", Value.ref Ra), (S "things", .ref Ta), (S "got", .ref g), (S "want", .ref wn)], m p.1 = some p.2)
  (hI : wn < I) (hoI : ∀ p ∈ W, p.1 ≠ I) (hgw : g < wn) (dG : DatAll (acc ++ M0) gv ds) (dV : DatAll (acc ++ M0) wv ds)
  (rest : ∀ (acc' : List (Addr × Obj)) (gv' wv' : List Value) m' ng' nw', (∀ p ∈ acc', wn < p.1 ∧ AllLt p.1 W ∧ p.1 ≠ I) → Keeps m m' → gv'.length = gv.length + 1 → wv'.length = wv.length + 1 → DatAll (acc' ++ M0) gv' (ds ++ [rowDat 4 ys]) → DatAll (acc' ++ M0) wv' (ds ++ [rowDat 4 ys]) →
    RangeRest PySem.Challenge.rw_dg5010_01.row.prog w (callerA.deeper (envOf (Str.ofString "law") lawScope L fa cd)) (fun _ _ => False) h₀ (envOf (Str.ofString "law") lawScope L fa cd) (Str.ofString "k") obsBody Q s I 0 5 j (4 + 1) m' ((g, listOf gv'.toArray ng') :: (wn, listOf wv'.toArray nw') :: (acc' ++ W))) :
  RangeRest PySem.Challenge.rw_dg5010_01.row.prog w (callerA.deeper (envOf (Str.ofString "law") lawScope L fa cd)) (fun _ _ => False) h₀ (envOf (Str.ofString "law") lawScope L fa cd) (Str.ofString "k") obsBody Q s I 0 5 (j + 1) 4 m ((g, listOf gv.toArray ng) :: (wn, listOf wv.toArray nw) :: (acc ++ W)) := by
  have sub : ∀ p ∈ W, p ∈ acc ++ W := fun p hp => List.mem_append_right _ hp
  refine obsS4 KX T K0 (W := acc ++ W) (M0 := acc ++ M0) (Th.mono sub) ?o hgv hwv htv hpv (sub _ mT) (sub _ mR) hm hI ?i hgw dG dV fun own gv' wv' m' ng' nw' hk lg lw eG eV lt li => ?_
  case o =>
    intro p hp b hb
    rcases List.mem_append.mp hp with hp | hp
    · simp only [List.mem_cons, List.not_mem_nil, or_false] at hb
      rcases hb with rfl | rfl
      · exact Nat.ne_of_gt (Nat.lt_trans hgw (hacc p hp).1)
      · exact Nat.ne_of_gt (hacc p hp).1
    · exact off p hp b hb
  case i =>
    intro p hp
    rcases List.mem_append.mp hp with hp | hp
    · exact (hacc p hp).2.2
    · exact hoI p hp
  rw [← List.append_assoc] at eG eV ⊢
  refine rest (own ++ acc) gv' wv' m' ng' nw' (fun p hp => ?_) hk lg lw eG eV
  rcases List.mem_append.mp hp with hp | hp
  · exact ⟨(lt p hp).1, allLt_right (lt p hp).2, Nat.ne_of_gt (li p hp)⟩
  · exact hacc p hp
end Mine

end

/-! part ObsAll -/
section
open PySem PySem.W PySem.Calls PyProof.Rows
local macro_rules | `(tactic| walk_at "getAttr ref") => `(tactic| (k_here; k_dflt (first
  | (refine' Mine.own_h ?k1 ?k2 ?k3 ?k4 ?k5 ?k6 ?k7 ?k8 ?k9 ?_; (case k1 => k_asm); (case k2 => k_asm); (case k3 => k_inst); (case k4 => k_is); (case k5 => k_is); (case k6 => k_is); (case k7 => k_is); (case k8 => first | assumption | k_get); (case k9 => k_handed); k_whole)
  | (refine' Mine.prop_h ?k1 ?k2 ?k3 ?k4 ?k10 ?k5 ?k6 ?k7 ?k8 ?k9 ?_; (case k1 => k_asm); (case k2 => k_asm); (case k3 => k_inst); (case k4 => k_is); (case k10 => k_is); (case k5 => k_is); (case k6 => k_is); (case k7 => k_is); (case k8 => k_is); (case k9 => k_is); k_whole; k_enter)
  | (refine' Mine.bound_h ?k1 ?k2 ?k3 ?k4 ?k5 ?k10 ?k6 ?k7 ?k8 ?k9 ?k11 ?k12 ?k13 ?_; (case k4 => k_inst); (case k1 => k_asm); (case k2 => k_asm); (case k7 => k_is); (case k3 => k_asm); (case k5 => k_is); (case k10 => k_is); (case k6 => k_is); (case k8 => k_is); (case k9 => k_is); (case k11 => k_is); (case k12 => decide +kernel); (case k13 => first | assumption | k_get); k_whole; intro q' h' F' N' l1; (try k_lt l1); (try k_sweep)))))
local macro_rules | `(tactic| walk_at "getMethod ref") => `(tactic| (k_here; k_dflt (refine' Mine.method_h ?k1 ?k2 ?k3 ?k4 ?k5 ?_; (case k1 => k_asm); (case k2 => k_asm); (case k3 => k_inst); (case k4 => k_is); (case k5 => k_is); k_whole)))
local macro_rules | `(tactic| size_fits) => `(tactic| first | ((try simp only [List.size_toArray, Array.size_push, List.push_toArray, List.length_append, List.length_cons, List.length_nil]); (simp only [PySem.sizeLine_eq]); omega) | fail "size_fits: mine")
local macro_rules | `(tactic| walk_at "my_keeps") => `(tactic| (intro z hz; (obtain ⟨i1, i2, i3, i4, i5, i6⟩ := Mine.idle_ne hz); first | rfl | ((refine Eq.trans ?_ (congrFun (by assumption : (_ : Str → Option Value) = _) z)); (try simp only [i1, i2, i3, i4, i5, i6, if_false]); done)))
local macro_rules | `(tactic| walk_at "my_expose") => `(tactic| ((have e1 := (rfl : Mine.lawScope = Mine.lawScope)); (conv at e1 => rhs; whnf); (dsimp only at e1); (conv in (Mine.turnAt _) => whnf); (rw [e1]); clear e1))
local macro_rules | `(tactic| walk_at "my_lt") => `(tactic| first | assumption | exact Mine.allLt_to (by assumption) | (refine List.forall_mem_cons.mpr ⟨by (dsimp only; omega), ?_⟩; walk_at "my_lt"))
local macro_rules | `(tactic| walk_at "my_keepsP") => `(tactic| (intro z hz hp9; (obtain ⟨i1, i2, i3, i4, i5, i6⟩ := Mine.idle_ne hz); first | rfl | ((refine Eq.trans ?_ (congrFun (by assumption : (_ : Str → Option Value) = _) z)); (try simp only [i1, i2, i3, i4, i5, i6, hp9, if_false]); done)))
local macro_rules | `(tactic| walk_at "getAttr ref") => `(tactic| (k_here; (with_reducible show wpAny _ _ (getAttr (Value.ref _) (PySem.Str.ofString "data") _) _ _ _); k_dflt (refine' Mine.data_get ?k1 ?k2 ?k3 ?k4 ?k5 ?k6 ?k7 ?_; (case k1 => k_asm); (case k2 => k_asm); (case k3 => k_asm); (case k4 => k_mem); (case k5 => k_mem); (case k6 => k_asm); (case k7 => first | assumption | (unfold Mine.IsCls; decide)); k_whole)))
local macro_rules | `(tactic| walk_at "my_len") => `(tactic| first | omega | ((try simp only [List.length_append, List.length_cons, List.length_nil, List.length_set, List.length_dropLast, List.length_drop]); omega))
local macro_rules | `(tactic| walk_at "call builtin:len") => `(tactic| (k_here; (with_reducible show wpAny _ _ (call (Value.builtin "len") [Value.ref _]) _ _ _); k_dflt (refine' Mine.len_n ?a ?b ?c ?_; (case a => k_asm); (case b => k_mem); (case c => walk_at "my_len"); k_whole)))
local macro_rules | `(tactic| walk_at "call builtin:list.append") => `(tactic| (k_here; (with_reducible show wpAny _ _ (call (Value.builtin _) [Value.ref _, _]) _ _ _); k_dflt (refine' Mine.append_n ?a ?b ?c ?d ?_; (case a => k_asm); (case b => k_asm); (case c => k_upd); (case d => walk_at "my_len"); k_whole); intro h' F' N'; (try k_sweep)))
local macro_rules | `(tactic| walk_at "call builtin:list.pop") => `(tactic| (k_here; (with_reducible show wpAny _ _ (call (Value.builtin _) [Value.ref _]) _ _ _); k_dflt (refine' Mine.pop_n ?a ?b ?c ?d ?e ?_; (case a => k_asm); (case b => k_asm); (case c => k_upd); (case d => walk_at "my_len"); (case e => walk_at "my_len"); k_whole); intro h' y' F' N'; (try k_sweep)))
local macro_rules | `(tactic| walk_at "setItem ref int") => `(tactic| (k_here; (with_reducible show wpAny _ _ (setItem (Value.ref _) (Value.int _ _) _) _ _ _); k_dflt (refine' Mine.set_n ?a ?b ?c ?d ?e ?f ?_; (case a => k_asm); (case b => k_asm); (case c => k_upd); (case d => first | omega | exact Int.fmod_nonneg_of_pos _ (by omega)); (case e => first | (refine Int.lt_of_lt_of_le (Int.fmod_lt_of_pos _ (by omega)) ?_; walk_at "my_len") | walk_at "my_len"); (case f => walk_at "my_len"); k_whole); intro h' F' N'; (try k_sweep)))
local macro_rules | `(tactic| walk_at "subscriptTail Name Slice ref ref") => `(tactic| (k_here; (with_reducible show wpAny _ _ (subscriptTail _ (PySem.Expr.Slice _ _ none _) (Value.ref _) (Value.ref _)) _ _ _); k_dflt (refine' kms_slice_lit ?F ?N ?l ?p ?q ?e ?_ ?s ?t ?z; (case F => k_asm); (case N => k_asm); (case l => exact PyProof.Rows.News.isList (by k_asm) (by k_mem)); (case p => kmk_part); (case q => kmk_part); (case e => first | exact Mine.pick_from _ | exact Mine.pick_all _); (case s => with_unfolding_all rfl); (case t => kmk_pure); (case z => ((simp only [List.size_toArray, PySem.sizeLine_eq]); omega))); intro D' h' F' N' l1; (try k_lt l1); (try dsimp only at F' N'); (try dsimp only); (try k_sweep)))
local macro_rules | `(tactic| walk_at "subscriptTail") => `(tactic| (k_here; (with_reducible show wpAny _ _ (subscriptTail _ _ (Value.ref _) (Value.int _ _)) _ _ _); k_dflt (refine' Mine.item_n ?a ?b ?c ?d ?e ?_; (case a => k_asm); (case b => k_mem); (case e => first | assumption | with_unfolding_all assumption); (case c => first | omega | exact Int.fmod_nonneg_of_pos _ (by omega)); (case d => first | omega | (refine Int.lt_trans (Int.fmod_lt_of_pos _ (by omega)) ?_; omega)); k_whole)))
local macro_rules | `(tactic| walk_at "subscriptTail Name Name ref int") => `(tactic| (k_here; (with_reducible show wpAny _ _ (subscriptTail _ _ (Value.ref _) (Value.int _ _)) _ _ _); k_dflt (refine' Mine.item_n ?a ?b ?c ?d ?e ?_; (case a => k_asm); (case b => k_mem); (case e => first | assumption | with_unfolding_all assumption); (case c => first | omega | exact Int.fmod_nonneg_of_pos _ (by omega)); (case d => first | omega | (refine Int.lt_trans (Int.fmod_lt_of_pos _ (by omega)) ?_; omega)); k_whole)))
local macro_rules | `(tactic| walk_at "getAttr ref") => `(tactic| (k_here; (with_reducible show wpAny _ _ (getAttr (Value.ref _) (PySem.Str.ofString "waypoint_list") _) _ _ _); k_dflt (refine' Mine.wl_get ?k1 ?k2 ?B ?F ?N ?hk ?hd ?t ?d ?a ?D ?v ?w ?_; (case k1 => k_asm); (case k2 => k_asm); (case B => k_asm); (case F => k_asm); (case N => k_asm); (case hk => first | rfl | assumption); (case hd => first | decide | omega | ktr_room); (case t => k_mem); (case d => k_mem); (case D => k_asm); (case a => k_mem); (case v => walk_at "my_len"); (case w => assumption)); intro D' h' tk' F' N' l1; (try k_lt l1); (try dsimp only at F' N'); (try dsimp only); (try k_sweep)))
local macro_rules | `(tactic| walk_at "eval DictComp") => `(tactic| (k_here; with_unfolding_all refine' Mine.dictcomp_k ?a ?b ?c ?d ?e ?_; (case a => with_unfolding_all rfl); (case b => with_unfolding_all rfl); (case c => decide); (case d => (intro _; rfl)); (case e => rfl); (try dsimp only)))
local macro_rules | `(tactic| walk_at "call type:enumerate") => `(tactic| (k_here; (first
  | ((with_reducible show wpAny _ _ (call (Value.type "enumerate") [Value.ref 249]) _ _ _); (with_unfolding_all refine' Mine.comp_call (names := Mine.namesL) ?hh ?F ?N (Mine.fields_rte ?K).1 ?l ?z Mine.namesL_nodup (Mine.fields_rte ?K).2 ?c ?k ?f ?g ?n ?o ?p ?_))
  | ((with_reducible show wpAny _ _ (call (Value.type "enumerate") [Value.ref 99]) _ _ _); (with_unfolding_all refine' Mine.comp_call (names := []) ?hh ?F ?N (Mine.fields_base ?K).1 ?l ?z List.nodup_nil (Mine.fields_base ?K).2 ?c ?k ?f ?g ?n ?o ?p ?_))); (case K => k_asm); (case F => k_asm); (case N => k_asm); (case hh => with_unfolding_all rfl); (case l => rfl); (case z => decide); (case c => decide); (case k => rfl); (case f => with_unfolding_all rfl); (case g => with_unfolding_all rfl); (case n => decide); (case o => decide); (case p => decide); intro D' kvs' h' tk' hlt' F' N' hd' hkv'; (try k_sweep)))
local macro_rules | `(tactic| walk_at "subscriptTail") => `(tactic| (k_here; (with_reducible show wpAny _ _ (subscriptTail _ _ (Value.ref _) (Value.str _ _)) _ _ _); (rename Mine.Kvs _ _ => hkv9); (rename Heap.DictOf _ _ _ _ => hd9); (obtain ⟨t9, hv9⟩ := Mine.Kvs.valueAt hkv9 Mine.namesL_nodup (by assumption)); k_dflt (refine' Mine.item_kvs hd9 hv9 ?_; k_whole); clear hv9 hkv9 hd9))
local macro_rules | `(tactic| walk_at "setItem ref int") => `(tactic| (k_here; (with_reducible show wpAny _ _ (setItem (Value.ref _) (Value.int _ _) _) _ _ _); k_dflt (refine' Mine.setItem_oob ?a ?b ?c ?d ?e ?_; (case a => with_unfolding_all rfl); (case b => exact PyProof.Rows.News.isList (by k_asm) (by k_mem)); (case c => omega); (case d => omega); (case e => ((simp only [List.size_toArray]); omega)); k_whole); intro h' tk' e' hexc'))
local macro_rules | `(tactic| walk_at "call builtin:str.join") => `(tactic| (k_here; (with_reducible show wpAny _ _ (call (Value.builtin _) [Value.str _ _, Value.ref _]) _ _ _); k_dflt (refine' Mine.join_n ?a ?b ?c ?d ?e ?_; (case a => k_asm); (case b => k_mem); (case c => assumption); (case d => decide); (case e => assumption); k_whole); intro t9 k9))
local macro_rules | `(tactic| walk_at "binaryOp Add str str") => `(tactic| (k_here; (with_reducible show wpAny _ _ (binaryOp Operator.Add (Value.str _ _) (Value.str _ _)) _ _ _); k_dflt (refine' Mine.add_n ?a ?b ?_; (case a => decide +kernel); (case b => assumption); k_whole); intro t9 k9))
local macro_rules | `(tactic| walk_at "subscriptTail Name Name ref int") => `(tactic| (k_here; (with_reducible show wpAny _ _ (subscriptTail _ _ (Value.ref 284) (Value.int _ _)) _ _ _); k_dflt (refine' Mine.head_get ?a ?b ?c ?d ?_; (case a => k_asm); (case b => k_asm); (case c => decide); (case d => decide); k_whole); intro t9))
namespace Mine
structure Stop (p : Prop) : Prop where
  out : p
abbrev rowsDat (y0 y1 y2 y3 y4 : List Str) : List Dat := [rowDat 0 y0, rowDat 1 y1, rowDat 2 y2, rowDat 3 y3, rowDat 4 y4]
theorem keeps_at {m m' : Str → Option Value} (hk : Keeps m m') {l : List (Str × Value)} (h : ∀ p ∈ l, m p.1 = some p.2) (hi : (l.map (·.1)).all (fun z => !idle.contains z) = true) : ∀ p ∈ l, m' p.1 = some p.2 := fun p hp =>
  (hk p.1 (by have := List.all_eq_true.mp hi p.1 (List.mem_map_of_mem hp); simpa using this)).trans (h p hp)
theorem quiet4 : ([S "rows", S "things", S "got", S "want"]).all (fun z => !idle.contains z) = true := by decide +kernel
theorem allLt_app {d : Addr} {l l' : List (Addr × Obj)} (h : ∀ p ∈ l, p.1 < d) (h' : AllLt d l') : AllLt d (l ++ l') := by
  induction l with
  | nil => exact h'
  | cons p l ih => exact ⟨h p (.head _), ih fun q hq => h q (.tail _ hq)⟩
theorem allLt_of {d : Addr} {l : List (Addr × Obj)} (h : ∀ p ∈ l, p.1 < d) : AllLt d l := by
  induction l with
  | nil => exact trivial
  | cons p l ih => exact ⟨h p (.head _), ih fun q hq => h q (.tail _ hq)⟩

theorem obs_rest {w : World} {mean : ExcName → Option Value} {mg mb : Str → Option Value} {L fa : Addr} {cd : Value} {h₀ : Heap} (KX : (hd.heap_39 w.params).In h₀) (T : Top hd.view_39 loosesW mean mg mb h₀) (K0 : Below callerA h₀ [] h₀)
  {Q : Flow → Shared → Prop} {s : Shared} {m : Str → Option Value} {Ta Ra g wn I : Nat} {t0 d0 a0 r0 t1 d1 a1 r1 t2 d2 a2 r2 t3 d3 a3 r3 t4 d4 a4 r4 : Nat} {nT nR ng nw : Nat} {W : List (Addr × Obj)} {gv wv : List Value} {y0 y1 y2 y3 y4 : List Str} {ds : List Dat} {M0 : List (Addr × Obj)}
  (Th0 : ThingK W Ta Ra g wn 0 260 t0 d0 a0 r0 y0) (Th1 : ThingK W Ta Ra g wn 1 281 t1 d1 a1 r1 y1) (Th2 : ThingK W Ta Ra g wn 2 235 t2 d2 a2 r2 y2) (Th3 : ThingK W Ta Ra g wn 3 209 t3 d3 a3 r3 y3) (Th4 : ThingK W Ta Ra g wn 4 209 t4 d4 a4 r4 y4) (off : OwnOff W [g, wn]) (hgv : gv.length ≤ 990) (hwv : wv.length ≤ 990)
  (mT : (Ta, listOf [Value.ref t0, Value.ref t1, Value.ref t2, Value.ref t3, Value.ref t4].toArray nT) ∈ W) (mR : (Ra, listOf [Value.ref r0, Value.ref r1, Value.ref r2, Value.ref r3, Value.ref r4].toArray nR) ∈ W)
  (hm : ∀ p ∈ [(S "rows", Value.ref Ra), (S "things", .ref Ta), (S "got", .ref g), (S "want", .ref wn)], m p.1 = some p.2)
  (hI : wn < I) (hoI : ∀ p ∈ W, p.1 ≠ I) (hgw : g < wn) (dG : DatAll M0 gv ds) (dV : DatAll M0 wv ds)
  (done : ∀ (own : List (Addr × Obj)) (gv' wv' : List Value) m' h' tk' ng' nw', Keeps m m' → gv'.length = gv.length + 5 → wv'.length = wv.length + 5 → DatAll (own ++ M0) gv' (ds ++ rowsDat y0 y1 y2 y3 y4) → DatAll (own ++ M0) wv' (ds ++ rowsDat y0 y1 y2 y3 y4) → (∀ p ∈ own, wn < p.1 ∧ AllLt p.1 W) →
    Fr h₀ L h' m' → News h₀ L h' ((g, listOf gv'.toArray ng') :: (wn, listOf wv'.toArray nw') :: (own ++ W)) → Q .next { s with heap := h', toks := tk' }) :
  RangeRest PySem.Challenge.rw_dg5010_01.row.prog w (callerA.deeper (envOf (Str.ofString "law") lawScope L fa cd)) (fun _ _ => False) h₀ (envOf (Str.ofString "law") lawScope L fa cd) (Str.ofString "k") obsBody Q s I 0 5 5 0 m ((g, listOf gv.toArray ng) :: (wn, listOf wv.toArray nw) :: W) := by
  refine obsR0 KX T K0 (acc := []) Th0 off (fun _ hp => nomatch hp) (by omega) (by omega) rfl rfl mT mR hm hI hoI hgw dG dV fun c0 gv0 wv0 m0 ng0 nw0 la0 hk0 lg0 lw0 dG0 dV0 => ?_
  have hm0 := keeps_at hk0 hm quiet4
  refine obsR1 KX T K0 (acc := c0) Th1 off la0 (by omega) (by omega) rfl rfl mT mR hm0 hI hoI hgw dG0 dV0 fun c1 gv1 wv1 m1 ng1 nw1 la1 hk1 lg1 lw1 dG1 dV1 => ?_
  have hm1 := keeps_at hk1 hm0 quiet4
  refine obsR2 KX T K0 (acc := c1) Th2 off la1 (by omega) (by omega) rfl rfl mT mR hm1 hI hoI hgw dG1 dV1 fun c2 gv2 wv2 m2 ng2 nw2 la2 hk2 lg2 lw2 dG2 dV2 => ?_
  have hm2 := keeps_at hk2 hm1 quiet4
  refine obsR3 KX T K0 (acc := c2) Th3 off la2 (by omega) (by omega) rfl rfl mT mR hm2 hI hoI hgw dG2 dV2 fun c3 gv3 wv3 m3 ng3 nw3 la3 hk3 lg3 lw3 dG3 dV3 => ?_
  have hm3 := keeps_at hk3 hm2 quiet4
  refine obsR4 KX T K0 (acc := c3) Th4 off la3 (by omega) (by omega) rfl rfl mT mR hm3 hI hoI hgw dG3 dV3 fun c4 gv4 wv4 m4 ng4 nw4 la4 hk4 lg4 lw4 dG4 dV4 => ?_
  have hm4 := keeps_at hk4 hm3 quiet4
  refine RangeRest.zero fun h tk F N => done c4 gv4 wv4 m4 h tk ng4 nw4 (hk0.trans (hk1.trans (hk2.trans (hk3.trans hk4)))) (by omega) (by omega) ?_ ?_ (fun p hp => ⟨(la4 p hp).1, (la4 p hp).2.1⟩) F N
  · simpa only [List.append_assoc, List.cons_append, List.nil_append] using dG4
  · simpa only [List.append_assoc, List.cons_append, List.nil_append] using dV4
end Mine

end

/-! part ObsT -/
section
open PySem PySem.W PySem.Calls PyProof.Rows
local macro_rules | `(tactic| walk_at "getAttr ref") => `(tactic| (k_here; k_dflt (first
  | (refine' Mine.own_h ?k1 ?k2 ?k3 ?k4 ?k5 ?k6 ?k7 ?k8 ?k9 ?_; (case k1 => k_asm); (case k2 => k_asm); (case k3 => k_inst); (case k4 => k_is); (case k5 => k_is); (case k6 => k_is); (case k7 => k_is); (case k8 => first | assumption | k_get); (case k9 => k_handed); k_whole)
  | (refine' Mine.prop_h ?k1 ?k2 ?k3 ?k4 ?k10 ?k5 ?k6 ?k7 ?k8 ?k9 ?_; (case k1 => k_asm); (case k2 => k_asm); (case k3 => k_inst); (case k4 => k_is); (case k10 => k_is); (case k5 => k_is); (case k6 => k_is); (case k7 => k_is); (case k8 => k_is); (case k9 => k_is); k_whole; k_enter)
  | (refine' Mine.bound_h ?k1 ?k2 ?k3 ?k4 ?k5 ?k10 ?k6 ?k7 ?k8 ?k9 ?k11 ?k12 ?k13 ?_; (case k4 => k_inst); (case k1 => k_asm); (case k2 => k_asm); (case k7 => k_is); (case k3 => k_asm); (case k5 => k_is); (case k10 => k_is); (case k6 => k_is); (case k8 => k_is); (case k9 => k_is); (case k11 => k_is); (case k12 => decide +kernel); (case k13 => first | assumption | k_get); k_whole; intro q' h' F' N' l1; (try k_lt l1); (try k_sweep)))))
local macro_rules | `(tactic| walk_at "getMethod ref") => `(tactic| (k_here; k_dflt (refine' Mine.method_h ?k1 ?k2 ?k3 ?k4 ?k5 ?_; (case k1 => k_asm); (case k2 => k_asm); (case k3 => k_inst); (case k4 => k_is); (case k5 => k_is); k_whole)))
local macro_rules | `(tactic| size_fits) => `(tactic| first | ((try simp only [List.size_toArray, Array.size_push, List.push_toArray, List.length_append, List.length_cons, List.length_nil]); (simp only [PySem.sizeLine_eq]); omega) | fail "size_fits: mine")
local macro_rules | `(tactic| walk_at "my_keeps") => `(tactic| (intro z hz; (obtain ⟨i1, i2, i3, i4, i5, i6⟩ := Mine.idle_ne hz); first | rfl | ((refine Eq.trans ?_ (congrFun (by assumption : (_ : Str → Option Value) = _) z)); (try simp only [i1, i2, i3, i4, i5, i6, if_false]); done)))
local macro_rules | `(tactic| walk_at "my_expose") => `(tactic| ((have e1 := (rfl : Mine.lawScope = Mine.lawScope)); (conv at e1 => rhs; whnf); (dsimp only at e1); (conv in (Mine.turnAt _) => whnf); (rw [e1]); clear e1))
local macro_rules | `(tactic| walk_at "my_lt") => `(tactic| first | assumption | exact Mine.allLt_to (by assumption) | (refine List.forall_mem_cons.mpr ⟨by (dsimp only; omega), ?_⟩; walk_at "my_lt"))
local macro_rules | `(tactic| walk_at "my_keepsP") => `(tactic| (intro z hz hp9; (obtain ⟨i1, i2, i3, i4, i5, i6⟩ := Mine.idle_ne hz); first | rfl | ((refine Eq.trans ?_ (congrFun (by assumption : (_ : Str → Option Value) = _) z)); (try simp only [i1, i2, i3, i4, i5, i6, hp9, if_false]); done)))
local macro_rules | `(tactic| walk_at "getAttr ref") => `(tactic| (k_here; (with_reducible show wpAny _ _ (getAttr (Value.ref _) (PySem.Str.ofString "data") _) _ _ _); k_dflt (refine' Mine.data_get ?k1 ?k2 ?k3 ?k4 ?k5 ?k6 ?k7 ?_; (case k1 => k_asm); (case k2 => k_asm); (case k3 => k_asm); (case k4 => k_mem); (case k5 => k_mem); (case k6 => k_asm); (case k7 => first | assumption | (unfold Mine.IsCls; decide)); k_whole)))
local macro_rules | `(tactic| walk_at "my_len") => `(tactic| first | omega | ((try simp only [List.length_append, List.length_cons, List.length_nil, List.length_set, List.length_dropLast, List.length_drop]); omega))
local macro_rules | `(tactic| walk_at "call builtin:len") => `(tactic| (k_here; (with_reducible show wpAny _ _ (call (Value.builtin "len") [Value.ref _]) _ _ _); k_dflt (refine' Mine.len_n ?a ?b ?c ?_; (case a => k_asm); (case b => k_mem); (case c => walk_at "my_len"); k_whole)))
local macro_rules | `(tactic| walk_at "call builtin:list.append") => `(tactic| (k_here; (with_reducible show wpAny _ _ (call (Value.builtin _) [Value.ref _, _]) _ _ _); k_dflt (refine' Mine.append_n ?a ?b ?c ?d ?_; (case a => k_asm); (case b => k_asm); (case c => k_upd); (case d => walk_at "my_len"); k_whole); intro h' F' N'; (try k_sweep)))
local macro_rules | `(tactic| walk_at "call builtin:list.pop") => `(tactic| (k_here; (with_reducible show wpAny _ _ (call (Value.builtin _) [Value.ref _]) _ _ _); k_dflt (refine' Mine.pop_n ?a ?b ?c ?d ?e ?_; (case a => k_asm); (case b => k_asm); (case c => k_upd); (case d => walk_at "my_len"); (case e => walk_at "my_len"); k_whole); intro h' y' F' N'; (try k_sweep)))
local macro_rules | `(tactic| walk_at "setItem ref int") => `(tactic| (k_here; (with_reducible show wpAny _ _ (setItem (Value.ref _) (Value.int _ _) _) _ _ _); k_dflt (refine' Mine.set_n ?a ?b ?c ?d ?e ?f ?_; (case a => k_asm); (case b => k_asm); (case c => k_upd); (case d => first | omega | exact Int.fmod_nonneg_of_pos _ (by omega)); (case e => first | (refine Int.lt_of_lt_of_le (Int.fmod_lt_of_pos _ (by omega)) ?_; walk_at "my_len") | walk_at "my_len"); (case f => walk_at "my_len"); k_whole); intro h' F' N'; (try k_sweep)))
local macro_rules | `(tactic| walk_at "subscriptTail Name Slice ref ref") => `(tactic| (k_here; (with_reducible show wpAny _ _ (subscriptTail _ (PySem.Expr.Slice _ _ none _) (Value.ref _) (Value.ref _)) _ _ _); k_dflt (refine' kms_slice_lit ?F ?N ?l ?p ?q ?e ?_ ?s ?t ?z; (case F => k_asm); (case N => k_asm); (case l => exact PyProof.Rows.News.isList (by k_asm) (by k_mem)); (case p => kmk_part); (case q => kmk_part); (case e => first | exact Mine.pick_from _ | exact Mine.pick_all _); (case s => with_unfolding_all rfl); (case t => kmk_pure); (case z => ((simp only [List.size_toArray, PySem.sizeLine_eq]); omega))); intro D' h' F' N' l1; (try k_lt l1); (try dsimp only at F' N'); (try dsimp only); (try k_sweep)))
local macro_rules | `(tactic| walk_at "subscriptTail") => `(tactic| (k_here; (with_reducible show wpAny _ _ (subscriptTail _ _ (Value.ref _) (Value.int _ _)) _ _ _); k_dflt (refine' Mine.item_n ?a ?b ?c ?d ?e ?_; (case a => k_asm); (case b => k_mem); (case e => first | assumption | with_unfolding_all assumption); (case c => first | omega | exact Int.fmod_nonneg_of_pos _ (by omega)); (case d => first | omega | (refine Int.lt_trans (Int.fmod_lt_of_pos _ (by omega)) ?_; omega)); k_whole)))
local macro_rules | `(tactic| walk_at "subscriptTail Name Name ref int") => `(tactic| (k_here; (with_reducible show wpAny _ _ (subscriptTail _ _ (Value.ref _) (Value.int _ _)) _ _ _); k_dflt (refine' Mine.item_n ?a ?b ?c ?d ?e ?_; (case a => k_asm); (case b => k_mem); (case e => first | assumption | with_unfolding_all assumption); (case c => first | omega | exact Int.fmod_nonneg_of_pos _ (by omega)); (case d => first | omega | (refine Int.lt_trans (Int.fmod_lt_of_pos _ (by omega)) ?_; omega)); k_whole)))
local macro_rules | `(tactic| walk_at "getAttr ref") => `(tactic| (k_here; (with_reducible show wpAny _ _ (getAttr (Value.ref _) (PySem.Str.ofString "waypoint_list") _) _ _ _); k_dflt (refine' Mine.wl_get ?k1 ?k2 ?B ?F ?N ?hk ?hd ?t ?d ?a ?D ?v ?w ?_; (case k1 => k_asm); (case k2 => k_asm); (case B => k_asm); (case F => k_asm); (case N => k_asm); (case hk => first | rfl | assumption); (case hd => first | decide | omega | ktr_room); (case t => k_mem); (case d => k_mem); (case D => k_asm); (case a => k_mem); (case v => walk_at "my_len"); (case w => assumption)); intro D' h' tk' F' N' l1; (try k_lt l1); (try dsimp only at F' N'); (try dsimp only); (try k_sweep)))
local macro_rules | `(tactic| walk_at "eval DictComp") => `(tactic| (k_here; with_unfolding_all refine' Mine.dictcomp_k ?a ?b ?c ?d ?e ?_; (case a => with_unfolding_all rfl); (case b => with_unfolding_all rfl); (case c => decide); (case d => (intro _; rfl)); (case e => rfl); (try dsimp only)))
local macro_rules | `(tactic| walk_at "call type:enumerate") => `(tactic| (k_here; (first
  | ((with_reducible show wpAny _ _ (call (Value.type "enumerate") [Value.ref 249]) _ _ _); (with_unfolding_all refine' Mine.comp_call (names := Mine.namesL) ?hh ?F ?N (Mine.fields_rte ?K).1 ?l ?z Mine.namesL_nodup (Mine.fields_rte ?K).2 ?c ?k ?f ?g ?n ?o ?p ?_))
  | ((with_reducible show wpAny _ _ (call (Value.type "enumerate") [Value.ref 99]) _ _ _); (with_unfolding_all refine' Mine.comp_call (names := []) ?hh ?F ?N (Mine.fields_base ?K).1 ?l ?z List.nodup_nil (Mine.fields_base ?K).2 ?c ?k ?f ?g ?n ?o ?p ?_))); (case K => k_asm); (case F => k_asm); (case N => k_asm); (case hh => with_unfolding_all rfl); (case l => rfl); (case z => decide); (case c => decide); (case k => rfl); (case f => with_unfolding_all rfl); (case g => with_unfolding_all rfl); (case n => decide); (case o => decide); (case p => decide); intro D' kvs' h' tk' hlt' F' N' hd' hkv'; (try k_sweep)))
local macro_rules | `(tactic| walk_at "subscriptTail") => `(tactic| (k_here; (with_reducible show wpAny _ _ (subscriptTail _ _ (Value.ref _) (Value.str _ _)) _ _ _); (rename Mine.Kvs _ _ => hkv9); (rename Heap.DictOf _ _ _ _ => hd9); (obtain ⟨t9, hv9⟩ := Mine.Kvs.valueAt hkv9 Mine.namesL_nodup (by assumption)); k_dflt (refine' Mine.item_kvs hd9 hv9 ?_; k_whole); clear hv9 hkv9 hd9))
local macro_rules | `(tactic| walk_at "setItem ref int") => `(tactic| (k_here; (with_reducible show wpAny _ _ (setItem (Value.ref _) (Value.int _ _) _) _ _ _); k_dflt (refine' Mine.setItem_oob ?a ?b ?c ?d ?e ?_; (case a => with_unfolding_all rfl); (case b => exact PyProof.Rows.News.isList (by k_asm) (by k_mem)); (case c => omega); (case d => omega); (case e => ((simp only [List.size_toArray]); omega)); k_whole); intro h' tk' e' hexc'))
local macro_rules | `(tactic| walk_at "call builtin:str.join") => `(tactic| (k_here; (with_reducible show wpAny _ _ (call (Value.builtin _) [Value.str _ _, Value.ref _]) _ _ _); k_dflt (refine' Mine.join_n ?a ?b ?c ?d ?e ?_; (case a => k_asm); (case b => k_mem); (case c => assumption); (case d => decide); (case e => assumption); k_whole); intro t9 k9))
local macro_rules | `(tactic| walk_at "binaryOp Add str str") => `(tactic| (k_here; (with_reducible show wpAny _ _ (binaryOp Operator.Add (Value.str _ _) (Value.str _ _)) _ _ _); k_dflt (refine' Mine.add_n ?a ?b ?_; (case a => decide +kernel); (case b => assumption); k_whole); intro t9 k9))
local macro_rules | `(tactic| walk_at "subscriptTail Name Name ref int") => `(tactic| (k_here; (with_reducible show wpAny _ _ (subscriptTail _ _ (Value.ref 284) (Value.int _ _)) _ _ _); k_dflt (refine' Mine.head_get ?a ?b ?c ?d ?_; (case a => k_asm); (case b => k_asm); (case c => decide); (case d => decide); k_whole); intro t9))
namespace Mine
local macro_rules | `(tactic| walk_at "RangeRest") => `(tactic| (refine Mine.Stop.out ?_))
theorem obs_all {w : World} {mean : ExcName → Option Value} {mg mb : Str → Option Value} {L fa : Addr} {cd : Value} {h₀ : Heap} (KX : (hd.heap_39 w.params).In h₀) (T : Top hd.view_39 loosesW mean mg mb h₀) (K0 : Below callerA h₀ [] h₀)
  {Q : Flow → Shared → Prop} {s : Shared} {m : Str → Option Value} {D Ta Ra g wn : Nat} {t0 d0 a0 r0 t1 d1 a1 r1 t2 d2 a2 r2 t3 d3 a3 r3 t4 d4 a4 r4 : Nat} {nD nT nR ng nw : Nat} {W : List (Addr × Obj)} {dv gv wv : List Value} {y0 y1 y2 y3 y4 : List Str} {ds : List Dat} {M0 : List (Addr × Obj)} {ai : Int} {at' : Nat}
  (Th0 : ThingK W Ta Ra g wn 0 260 t0 d0 a0 r0 y0) (Th1 : ThingK W Ta Ra g wn 1 281 t1 d1 a1 r1 y1) (Th2 : ThingK W Ta Ra g wn 2 235 t2 d2 a2 r2 y2) (Th3 : ThingK W Ta Ra g wn 3 209 t3 d3 a3 r3 y3) (Th4 : ThingK W Ta Ra g wn 4 209 t4 d4 a4 r4 y4) (off : OwnOff W [g, wn]) (mD : (D, listOf dv.toArray nD) ∈ W) (hgv : gv.length ≤ 990) (hwv : wv.length ≤ 990) (hdv : dv.length ≤ 1000)
  (mT : (Ta, listOf [Value.ref t0, Value.ref t1, Value.ref t2, Value.ref t3, Value.ref t4].toArray nT) ∈ W) (mR : (Ra, listOf [Value.ref r0, Value.ref r1, Value.ref r2, Value.ref r3, Value.ref r4].toArray nR) ∈ W)
  (F : Fr h₀ L s.heap m) (hm : ∀ p ∈ [(S "deeds", Value.ref D), (S "at", .int ai at'), (S "rows", .ref Ra), (S "things", .ref Ta), (S "got", .ref g), (S "want", .ref wn)], m p.1 = some p.2)
  (N : News h₀ L s.heap ((g, listOf gv.toArray ng) :: (wn, listOf wv.toArray nw) :: (D, listOf dv.toArray nD) :: W))
  (hgw : g < wn) (dG : DatAll M0 gv ds) (dV : DatAll M0 wv ds)
  (hQ : ∀ (own : List (Addr × Obj)) (gv' wv' : List Value) (ds' : List Dat) m' h' tk' ng' nw', Keeps m m' → gv'.length ≤ gv.length + 5 → wv'.length ≤ wv.length + 5 → DatAll (own ++ M0) gv' (ds ++ ds') → DatAll (own ++ M0) wv' (ds ++ ds') → (ds' = [] ∨ ds' = rowsDat y0 y1 y2 y3 y4) → (∀ p ∈ own, wn < p.1 ∧ AllLt p.1 W) →
    Fr h₀ L h' m' → News h₀ L h' ((g, listOf gv'.toArray ng') :: (wn, listOf wv'.toArray nw') :: (own ++ W)) → Q .next { s with heap := h', toks := tk' }) :
  wpAny (model PySem.Challenge.rw_dg5010_01.row.prog w) (callerA.deeper (envOf (Str.ofString "law") lawScope L fa cd)) (exec (turnAt 13) (envOf (Str.ofString "law") lawScope L fa cd)) Q (fun _ _ => False) s := by
  revert KX
  k_fill
  intro KX
  walk_at "my_expose"
  replace F := frK F _ hm
  have em := frE _ hm
  simp only [kstB] at F em
  have up : ∀ p ∈ W, p ∈ (D, listOf dv.toArray nD) :: W := fun p hp => .tail _ hp
  have dn : ∀ own : List (Addr × Obj), ∀ p ∈ own ++ (D, listOf dv.toArray nD) :: W, p ∈ own ++ W := by
    intro own p hp
    simp only [List.mem_append, List.mem_cons] at hp ⊢
    rcases hp with hp | hp | hp
    · exact .inl hp
    · exact .inr (hp ▸ mD)
    · exact .inr hp
  k_steps
  all_goals first
    | exact hQ [] gv wv [] _ _ _ _ _ (fun z _ => congrFun em z) (by omega) (by omega) (by simpa using dG) (by simpa using dV) (.inl rfl) (fun _ hp => nomatch hp) F (fun p hp => N p (by
        simp only [List.mem_cons, List.nil_append] at hp ⊢
        rcases hp with hp | hp | hp
        · exact .inl hp
        · exact .inr (.inl hp)
        · exact .inr (.inr (.inr hp))))
    | (rename _ ∧ _ ∧ _ ∧ AllLt _ _ => l9
       refine ⟨obs_rest KX T K0 (W := (D, listOf dv.toArray nD) :: W) (Th0.mono up) (Th1.mono up) (Th2.mono up) (Th3.mono up) (Th4.mono up) ?o hgv hwv (up _ mT) (up _ mR) (fun p hp => (congrFun em p.1).trans (hm p (.tail _ (.tail _ hp)))) l9.2.1 ?i hgw dG dV ?d⟩
       case o =>
         intro p hp b hb
         rcases List.mem_cons.mp hp with rfl | hp
         · exact off _ mD b hb
         · exact off p hp b hb
       case i => exact List.forall_mem_cons.mpr ⟨Nat.ne_of_lt l9.2.2.1, fun p hp => Nat.ne_of_lt (allLt_to l9.2.2.2 p hp)⟩
       case d =>
         intro own gv' wv' m' h' tk' ng' nw' hk lg lw eG eV lt F' N'
         refine wpAny_execs_nil (hQ own gv' wv' (rowsDat y0 y1 y2 y3 y4) m' h' tk' ng' nw' ?_ (by omega) (by omega) eG eV (.inr rfl) (fun p hp => ⟨(lt p hp).1, (lt p hp).2.2⟩) F' ?_)
         · exact fun z hz => (hk z hz).trans (congrFun em z)
         · intro p hp
           refine N' p ?_
           simp only [List.mem_cons, List.mem_append] at hp ⊢
           rcases hp with hp | hp | hp | hp
           · exact .inl hp
           · exact .inr (.inl hp)
           · exact .inr (.inr (.inl hp))
           · exact .inr (.inr (.inr (.inr hp))))
end Mine

end

/-! part Prel -/
section
open PySem PySem.W PySem.Calls PyProof.Rows
local macro_rules | `(tactic| walk_at "getAttr ref") => `(tactic| (k_here; k_dflt (first
  | (refine' Mine.own_h ?k1 ?k2 ?k3 ?k4 ?k5 ?k6 ?k7 ?k8 ?k9 ?_; (case k1 => k_asm); (case k2 => k_asm); (case k3 => k_inst); (case k4 => k_is); (case k5 => k_is); (case k6 => k_is); (case k7 => k_is); (case k8 => first | assumption | k_get); (case k9 => k_handed); k_whole)
  | (refine' Mine.prop_h ?k1 ?k2 ?k3 ?k4 ?k10 ?k5 ?k6 ?k7 ?k8 ?k9 ?_; (case k1 => k_asm); (case k2 => k_asm); (case k3 => k_inst); (case k4 => k_is); (case k10 => k_is); (case k5 => k_is); (case k6 => k_is); (case k7 => k_is); (case k8 => k_is); (case k9 => k_is); k_whole; k_enter)
  | (refine' Mine.bound_h ?k1 ?k2 ?k3 ?k4 ?k5 ?k10 ?k6 ?k7 ?k8 ?k9 ?k11 ?k12 ?k13 ?_; (case k4 => k_inst); (case k1 => k_asm); (case k2 => k_asm); (case k7 => k_is); (case k3 => k_asm); (case k5 => k_is); (case k10 => k_is); (case k6 => k_is); (case k8 => k_is); (case k9 => k_is); (case k11 => k_is); (case k12 => decide +kernel); (case k13 => first | assumption | k_get); k_whole; intro q' h' F' N' l1; (try k_lt l1); (try k_sweep)))))
local macro_rules | `(tactic| walk_at "getMethod ref") => `(tactic| (k_here; k_dflt (refine' Mine.method_h ?k1 ?k2 ?k3 ?k4 ?k5 ?_; (case k1 => k_asm); (case k2 => k_asm); (case k3 => k_inst); (case k4 => k_is); (case k5 => k_is); k_whole)))
local macro_rules | `(tactic| size_fits) => `(tactic| first | ((try simp only [List.size_toArray, Array.size_push, List.push_toArray, List.length_append, List.length_cons, List.length_nil]); (simp only [PySem.sizeLine_eq]); omega) | fail "size_fits: mine")
local macro_rules | `(tactic| walk_at "my_keeps") => `(tactic| (intro z hz; (obtain ⟨i1, i2, i3, i4, i5, i6⟩ := Mine.idle_ne hz); first | rfl | ((refine Eq.trans ?_ (congrFun (by assumption : (_ : Str → Option Value) = _) z)); (try simp only [i1, i2, i3, i4, i5, i6, if_false]); done)))
local macro_rules | `(tactic| walk_at "my_expose") => `(tactic| ((have e1 := (rfl : Mine.lawScope = Mine.lawScope)); (conv at e1 => rhs; whnf); (dsimp only at e1); (conv in (Mine.turnAt _) => whnf); (rw [e1]); clear e1))
local macro_rules | `(tactic| walk_at "my_lt") => `(tactic| first | assumption | exact Mine.allLt_to (by assumption) | (refine List.forall_mem_cons.mpr ⟨by (dsimp only; omega), ?_⟩; walk_at "my_lt"))
local macro_rules | `(tactic| walk_at "my_keepsP") => `(tactic| (intro z hz hp9; (obtain ⟨i1, i2, i3, i4, i5, i6⟩ := Mine.idle_ne hz); first | rfl | ((refine Eq.trans ?_ (congrFun (by assumption : (_ : Str → Option Value) = _) z)); (try simp only [i1, i2, i3, i4, i5, i6, hp9, if_false]); done)))
local macro_rules | `(tactic| walk_at "getAttr ref") => `(tactic| (k_here; (with_reducible show wpAny _ _ (getAttr (Value.ref _) (PySem.Str.ofString "data") _) _ _ _); k_dflt (refine' Mine.data_get ?k1 ?k2 ?k3 ?k4 ?k5 ?k6 ?k7 ?_; (case k1 => k_asm); (case k2 => k_asm); (case k3 => k_asm); (case k4 => k_mem); (case k5 => k_mem); (case k6 => k_asm); (case k7 => first | assumption | (unfold Mine.IsCls; decide)); k_whole)))
local macro_rules | `(tactic| walk_at "my_len") => `(tactic| first | omega | ((try simp only [List.length_append, List.length_cons, List.length_nil, List.length_set, List.length_dropLast, List.length_drop]); omega))
local macro_rules | `(tactic| walk_at "call builtin:len") => `(tactic| (k_here; (with_reducible show wpAny _ _ (call (Value.builtin "len") [Value.ref _]) _ _ _); k_dflt (refine' Mine.len_n ?a ?b ?c ?_; (case a => k_asm); (case b => k_mem); (case c => walk_at "my_len"); k_whole)))
local macro_rules | `(tactic| walk_at "call builtin:list.append") => `(tactic| (k_here; (with_reducible show wpAny _ _ (call (Value.builtin _) [Value.ref _, _]) _ _ _); k_dflt (refine' Mine.append_n ?a ?b ?c ?d ?_; (case a => k_asm); (case b => k_asm); (case c => k_upd); (case d => walk_at "my_len"); k_whole); intro h' F' N'; (try k_sweep)))
local macro_rules | `(tactic| walk_at "call builtin:list.pop") => `(tactic| (k_here; (with_reducible show wpAny _ _ (call (Value.builtin _) [Value.ref _]) _ _ _); k_dflt (refine' Mine.pop_n ?a ?b ?c ?d ?e ?_; (case a => k_asm); (case b => k_asm); (case c => k_upd); (case d => walk_at "my_len"); (case e => walk_at "my_len"); k_whole); intro h' y' F' N'; (try k_sweep)))
local macro_rules | `(tactic| walk_at "setItem ref int") => `(tactic| (k_here; (with_reducible show wpAny _ _ (setItem (Value.ref _) (Value.int _ _) _) _ _ _); k_dflt (refine' Mine.set_n ?a ?b ?c ?d ?e ?f ?_; (case a => k_asm); (case b => k_asm); (case c => k_upd); (case d => first | omega | exact Int.fmod_nonneg_of_pos _ (by omega)); (case e => first | (refine Int.lt_of_lt_of_le (Int.fmod_lt_of_pos _ (by omega)) ?_; walk_at "my_len") | walk_at "my_len"); (case f => walk_at "my_len"); k_whole); intro h' F' N'; (try k_sweep)))
local macro_rules | `(tactic| walk_at "subscriptTail Name Slice ref ref") => `(tactic| (k_here; (with_reducible show wpAny _ _ (subscriptTail _ (PySem.Expr.Slice _ _ none _) (Value.ref _) (Value.ref _)) _ _ _); k_dflt (refine' kms_slice_lit ?F ?N ?l ?p ?q ?e ?_ ?s ?t ?z; (case F => k_asm); (case N => k_asm); (case l => exact PyProof.Rows.News.isList (by k_asm) (by k_mem)); (case p => kmk_part); (case q => kmk_part); (case e => first | exact Mine.pick_from _ | exact Mine.pick_all _); (case s => with_unfolding_all rfl); (case t => kmk_pure); (case z => ((simp only [List.size_toArray, PySem.sizeLine_eq]); omega))); intro D' h' F' N' l1; (try k_lt l1); (try dsimp only at F' N'); (try dsimp only); (try k_sweep)))
local macro_rules | `(tactic| walk_at "subscriptTail") => `(tactic| (k_here; (with_reducible show wpAny _ _ (subscriptTail _ _ (Value.ref _) (Value.int _ _)) _ _ _); k_dflt (refine' Mine.item_n ?a ?b ?c ?d ?e ?_; (case a => k_asm); (case b => k_mem); (case e => first | assumption | with_unfolding_all assumption); (case c => first | omega | exact Int.fmod_nonneg_of_pos _ (by omega)); (case d => first | omega | (refine Int.lt_trans (Int.fmod_lt_of_pos _ (by omega)) ?_; omega)); k_whole)))
local macro_rules | `(tactic| walk_at "subscriptTail Name Name ref int") => `(tactic| (k_here; (with_reducible show wpAny _ _ (subscriptTail _ _ (Value.ref _) (Value.int _ _)) _ _ _); k_dflt (refine' Mine.item_n ?a ?b ?c ?d ?e ?_; (case a => k_asm); (case b => k_mem); (case e => first | assumption | with_unfolding_all assumption); (case c => first | omega | exact Int.fmod_nonneg_of_pos _ (by omega)); (case d => first | omega | (refine Int.lt_trans (Int.fmod_lt_of_pos _ (by omega)) ?_; omega)); k_whole)))
local macro_rules | `(tactic| walk_at "getAttr ref") => `(tactic| (k_here; (with_reducible show wpAny _ _ (getAttr (Value.ref _) (PySem.Str.ofString "waypoint_list") _) _ _ _); k_dflt (refine' Mine.wl_get ?k1 ?k2 ?B ?F ?N ?hk ?hd ?t ?d ?a ?D ?v ?w ?_; (case k1 => k_asm); (case k2 => k_asm); (case B => k_asm); (case F => k_asm); (case N => k_asm); (case hk => first | rfl | assumption); (case hd => first | decide | omega | ktr_room); (case t => k_mem); (case d => k_mem); (case D => k_asm); (case a => k_mem); (case v => walk_at "my_len"); (case w => assumption)); intro D' h' tk' F' N' l1; (try k_lt l1); (try dsimp only at F' N'); (try dsimp only); (try k_sweep)))
namespace Mine
/-- a small text of small signs -/
abbrev Small (x : Str) : Prop := x.length ≤ 3 ∧ ∀ c ∈ x.cps.toList, c < 128
def wordsL : List Str := [S "1", S "a", S "", S "x y", S "-7", S "W3"]
theorem wordsL_small : ∀ x ∈ wordsL, Small x := by decide +kernel
theorem word_get {w : World} {A : Around} {E Q : Value → Shared → Prop} {s : Shared} {h₀ : Heap} {L : Addr} {m : Str → Option Value} {k : Int} {t : Tok} {value slice : PySem.Expr} (KX : (hd.heap_39 w.params).In h₀) (F : Fr h₀ L s.heap m) (h0 : 0 ≤ k) (h1 : k < 6)
    (h : ∀ word t', word ∈ wordsL → Q (.str word t') s) (hs : subscripted slice false (.ref 286) (.int k t) = operate [.ref 286, .int k t] (getItem (.ref 286) (.int k t)) := by with_unfolding_all rfl) :
    wpAny (model PySem.Challenge.rw_dg5010_01.row.prog w) A (subscriptTail value slice (.ref 286) (.int k t)) Q E s := by
  revert KX
  k_fill
  intro KX
  refine' KTb.item_tup (ws := wordsL) ?a ?b h0 ?c (by omega) (fun t' hk => h _ t' ?d) hs
  case a => exact Fr.tup F (tupK (n := 0) (dd := none) (sl := #[]) KX (by k_is))
  case b => unfold wordsL S; repeat constructor
  case c => exact h1
  case d => rw [List.getD_eq_getElem?_getD, List.getElem?_eq_getElem hk]; exact List.getElem_mem hk

local macro_rules | `(tactic| walk_at "subscriptTail") => `(tactic| (k_here; (with_reducible show wpAny _ _ (subscriptTail _ _ (Value.ref 286) (Value.int _ _)) _ _ _); k_dflt (refine' Mine.word_get ?a ?b ?c ?d ?_; (case a => k_asm); (case b => k_asm); (case c => exact Int.fmod_nonneg_of_pos _ (by omega)); (case d => exact Int.fmod_lt_of_pos _ (by omega)); k_whole); intro word' t' hw'))
def turnNames : List Str := [S "n", S "which", S "deed", S "m", S "word", S "thing", S "page"]
theorem turn_ne {z : Str} (h : turnNames.contains z = false) : z ≠ S "n" ∧ z ≠ S "which" ∧ z ≠ S "deed" ∧ z ≠ S "m" ∧ z ≠ S "word" ∧ z ≠ S "thing" ∧ z ≠ S "page" := by
  simp only [turnNames, List.contains_cons, List.contains_nil, Bool.or_false, Bool.or_eq_false_iff, beq_eq_false_iff_ne] at h
  exact h
theorem prel {w : World} {mean : ExcName → Option Value} {mg mb : Str → Option Value} {L fa : Addr} {cd : Value} {h₀ : Heap} (KX : (hd.heap_39 w.params).In h₀) (T : Top hd.view_39 loosesW mean mg mb h₀) (K0 : Below callerA h₀ [] h₀)
  {Q : Flow → Shared → Prop} {E : Value → Shared → Prop} {s : Shared} {m : Str → Option Value} {D Ta Ra t r nD nT nR : Nat} {dv tv pv : List Value} {rs : List (Addr × Obj)} {ai nn : Int} {at' nt : Nat} {rest : List Stmt}
  (ha0 : 0 ≤ ai) (ha1 : ai < 1000) (hd' : dv[ai.toNat]? = some (.int nn nt)) (ht : tv[(nn.fmod 5).toNat]? = some (.ref t)) (hr : pv[(nn.fmod 5).toNat]? = some (.ref r))
  (F : Fr h₀ L s.heap m) (hm : ∀ p ∈ [(S "deeds", Value.ref D), (S "at", .int ai at'), (S "things", .ref Ta), (S "rows", .ref Ra)], m p.1 = some p.2)
  (N : News h₀ L s.heap ((D, listOf dv.toArray nD) :: (Ta, listOf tv.toArray nT) :: (Ra, listOf pv.toArray nR) :: rs))
  (hQ : ∀ m' h' tk' word t1 t2 t3 t4, word ∈ wordsL → Fr h₀ L h' m' → News h₀ L h' ((D, listOf dv.toArray nD) :: (Ta, listOf tv.toArray nT) :: (Ra, listOf pv.toArray nR) :: rs) →
    (∀ p ∈ [(S "which", Value.int (nn.fmod 5) t1), (S "deed", .int ((nn.fdiv 5).fmod 6) t2), (S "m", .int (nn.fdiv 30) t3), (S "word", .str word t4), (S "thing", .ref t), (S "page", .ref r)], m' p.1 = some p.2) → (∀ z, turnNames.contains z = false → m' z = m z) →
    wpAny (model PySem.Challenge.rw_dg5010_01.row.prog w) (callerA.deeper (envOf (Str.ofString "law") lawScope L fa cd)) (execs rest (envOf (Str.ofString "law") lawScope L fa cd)) Q E { s with heap := h', toks := tk' }) :
  wpAny (model PySem.Challenge.rw_dg5010_01.row.prog w) (callerA.deeper (envOf (Str.ofString "law") lawScope L fa cd)) (execs (turnAt 0 :: turnAt 1 :: turnAt 2 :: turnAt 3 :: turnAt 4 :: turnAt 5 :: turnAt 6 :: rest) (envOf (Str.ofString "law") lawScope L fa cd)) Q E s := by
  revert KX
  k_fill
  intro KX
  have e1 := (rfl : lawScope = lawScope)
  conv at e1 => rhs; whnf
  dsimp only at e1
  conv in (turnAt 0) => whnf
  conv in (turnAt 1) => whnf
  conv in (turnAt 2) => whnf
  conv in (turnAt 3) => whnf
  conv in (turnAt 4) => whnf
  conv in (turnAt 5) => whnf
  conv in (turnAt 6) => whnf
  rw [e1] at hQ ⊢
  clear e1
  replace F := frK F _ hm
  have em := frE _ hm
  simp only [kstB] at F em
  k_steps
  rename Fr _ _ _ _ => F9
  rename News _ _ _ _ => N9
  rename _ ∈ wordsL => hW
  refine hQ _ _ _ _ ?t1 ?t2 ?t3 ?t4 hW F9 N9 ?hp ?hk
  case hp =>
    refine List.forall_mem_cons.mpr ⟨?_, List.forall_mem_cons.mpr ⟨?_, List.forall_mem_cons.mpr ⟨?_, List.forall_mem_cons.mpr ⟨?_, List.forall_mem_cons.mpr ⟨?_, List.forall_mem_cons.mpr ⟨?_, List.forall_mem_nil _⟩⟩⟩⟩⟩⟩
    all_goals with_unfolding_all rfl
  case hk =>
    intro z hz
    obtain ⟨i1, i2, i3, i4, i5, i6, i7⟩ := turn_ne hz
    refine Eq.trans ?_ (congrFun em z)
    simp only [i1, i2, i3, i4, i5, i6, i7, if_false]
end Mine

end

/-! part State -/
section
open PySem PySem.W PySem.Calls PyProof.Rows
namespace Mine
/-- where the law's objects lie -/
structure Ad where
  a : Nat → Nat
  r : Nat → Nat
  t : Nat → Nat
  d : Nat → Nat
  h : Nat → Nat
  H : Nat
  R : Nat
  T : Nat
  g : Nat
  wn : Nat
  D : Nat
  es : Nat → List DictEntry
  n : Nat → Nat
  nH : Nat
  nR : Nat
  nT : Nat
  nD : Nat
  dv : List Value
abbrev St := Nat → List Value × Nat
def cell (c : St) (b : Nat) : Addr × Obj := (b, listOf (c b).1.toArray (c b).2)
def Ad.adr (x : Ad) : List Nat := [x.h 0, x.h 1, x.h 2, x.r 0, x.r 1, x.r 2, x.r 3, x.r 4, x.a 0, x.a 1, x.a 2, x.a 3, x.a 4, x.g, x.wn]
def Ad.led (x : Ad) (c : St) : List (Addr × Obj) := x.adr.map (cell c)
def Ad.hs (x : Ad) : List Value := [.ref (x.h 0), .ref (x.h 1), .ref (x.h 2)]
def Ad.rs (x : Ad) : List Value := [.ref (x.r 0), .ref (x.r 1), .ref (x.r 2), .ref (x.r 3), .ref (x.r 4)]
def Ad.ts (x : Ad) : List Value := [.ref (x.t 0), .ref (x.t 1), .ref (x.t 2), .ref (x.t 3), .ref (x.t 4)]
def Ad.thing (x : Ad) (k : Nat) : List (Addr × Obj) := [(x.t k, instObj (clsOf k) (x.d k)), (x.d k, dictOf (x.es k) (x.n k))]
def Ad.cst (x : Ad) : List (Addr × Obj) := (x.H, listOf x.hs.toArray x.nH) :: (x.R, listOf x.rs.toArray x.nR) :: (x.T, listOf x.ts.toArray x.nT) :: (x.D, listOf x.dv.toArray x.nD) :: (x.thing 0 ++ (x.thing 1 ++ (x.thing 2 ++ (x.thing 3 ++ x.thing 4))))
structure Ad.Ok (x : Ad) : Prop where
  ch : ∀ k, k < 5 → x.r k < x.R ∧ x.R < x.d k ∧ x.d k < x.t k ∧ x.t k < x.a k ∧ x.a k < x.T ∧ x.T < x.g ∧ x.g < x.wn
  aa : ∀ i j, i < 5 → j < 5 → i ≠ j → x.a i ≠ x.a j
  rr : ∀ i j, i < 5 → j < 5 → i ≠ j → x.r i ≠ x.r j
  hr : ∀ j k, j < 3 → k < 5 → x.h j < x.r k
  hh : ∀ i j, i < 3 → j < 3 → i ≠ j → x.h i ≠ x.h j
  off : OwnOff x.cst x.adr
  dict : ∀ k, k < 5 → DictIs (x.es k) (x.a k) ∧ KindIs (x.es k) k

theorem Ad.a_mem (x : Ad) {k : Nat} (h : k < 5) : x.a k ∈ x.adr := by
  match k, h with
  | 0, _ | 1, _ | 2, _ | 3, _ | 4, _ => simp [Ad.adr]
theorem Ad.r_mem (x : Ad) {k : Nat} (h : k < 5) : x.r k ∈ x.adr := by
  match k, h with
  | 0, _ | 1, _ | 2, _ | 3, _ | 4, _ => simp [Ad.adr]
theorem Ad.h_mem (x : Ad) {k : Nat} (h : k < 3) : x.h k ∈ x.adr := by
  match k, h with
  | 0, _ | 1, _ | 2, _ => simp [Ad.adr]
theorem Ad.g_mem (x : Ad) : x.g ∈ x.adr := by simp [Ad.adr]
theorem Ad.w_mem (x : Ad) : x.wn ∈ x.adr := by simp [Ad.adr]
theorem Ad.t_cst (x : Ad) {k : Nat} (h : k < 5) : (x.t k, instObj (clsOf k) (x.d k)) ∈ x.cst := by
  match k, h with
  | 0, _ | 1, _ | 2, _ | 3, _ | 4, _ => simp [Ad.cst, Ad.thing]
theorem Ad.d_cst (x : Ad) {k : Nat} (h : k < 5) : (x.d k, dictOf (x.es k) (x.n k)) ∈ x.cst := by
  match k, h with
  | 0, _ | 1, _ | 2, _ | 3, _ | 4, _ => simp [Ad.cst, Ad.thing]
theorem Ad.H_cst (x : Ad) : (x.H, listOf x.hs.toArray x.nH) ∈ x.cst := .head _
theorem Ad.R_cst (x : Ad) : (x.R, listOf x.rs.toArray x.nR) ∈ x.cst := .tail _ (.head _)
theorem Ad.T_cst (x : Ad) : (x.T, listOf x.ts.toArray x.nT) ∈ x.cst := .tail _ (.tail _ (.head _))
theorem Ad.D_cst (x : Ad) : (x.D, listOf x.dv.toArray x.nD) ∈ x.cst := .tail _ (.tail _ (.tail _ (.head _)))

/-- the ledger without the cells l -/
def Ad.rem (x : Ad) (c : St) (M : List (Addr × Obj)) (l : List Nat) : List (Addr × Obj) := ((x.adr.filter fun b => !l.contains b).map (cell c)) ++ M
theorem Ad.rem_off (x : Ad) {c : St} {M : List (Addr × Obj)} {l : List Nat} (hM : OwnOff M x.adr) (hl : ∀ b ∈ l, b ∈ x.adr) : OwnOff (x.rem c M l) l := by
  intro p hp b hb
  rcases List.mem_append.mp hp with hp | hp
  · obtain ⟨q, hq, rfl⟩ := List.mem_map.mp hp
    have h2 := (List.mem_filter.mp hq).2
    intro e
    have e : q = b := e
    subst e
    simp [hb] at h2
  · exact hM p hp b (hl b hb)
theorem Ad.rem_sub (x : Ad) {c : St} {M : List (Addr × Obj)} {l : List Nat} : ∀ p ∈ x.rem c M l, p ∈ x.led c ++ M := by
  intro p hp
  rcases List.mem_append.mp hp with hp | hp
  · obtain ⟨q, hq, rfl⟩ := List.mem_map.mp hp
    exact List.mem_append_left _ (List.mem_map_of_mem (List.mem_filter.mp hq).1)
  · exact List.mem_append_right _ hp
theorem Ad.led_cell (x : Ad) {c : St} {M : List (Addr × Obj)} {b : Nat} (h : b ∈ x.adr) : cell c b ∈ x.led c ++ M := List.mem_append_left _ (List.mem_map_of_mem h)
theorem Ad.back (x : Ad) {c c' : St} {M sm : List (Addr × Obj)} (l : List Nat) (h1 : ∀ b, b ∈ x.adr → b ∉ l → c' b = c b) (h2 : ∀ b ∈ l, cell c' b ∈ sm) (h3 : ∀ p ∈ x.rem c M l, p ∈ sm) : ∀ p ∈ x.led c' ++ M, p ∈ sm := by
  intro p hp
  rcases List.mem_append.mp hp with hp | hp
  · obtain ⟨b, hb, rfl⟩ := List.mem_map.mp hp
    by_cases hbl : b ∈ l
    · exact h2 b hbl
    · refine h3 _ (List.mem_append_left _ ?_)
      refine List.mem_map.mpr ⟨b, List.mem_filter.mpr ⟨hb, by simpa using hbl⟩, ?_⟩
      unfold cell
      rw [h1 b hb hbl]
  · exact h3 _ (List.mem_append_right _ hp)

/-- what is known of the rows, the handed lists and the lengths -/
structure InvR (x : Ad) (c : St) (i : Nat) : Prop where
  rows : ∃ ys : Nat → List Str, ∀ k, k < 5 → StrsAre (c (x.a k)).1 (ys k) ∧ StrsAre (c (x.r k)).1 (ys k) ∧ (ys k).length ≤ 6 + i ∧ ∀ y ∈ ys k, Small y
  hand : ∀ j, j < 3 → (c (x.h j)).1.length ≤ 6 + i
  got : (c x.g).1.length ≤ 5 * i
  want : (c x.wn).1.length ≤ 5 * i
/-- got and want hold the same -/
def InvD (x : Ad) (c : St) (M : List (Addr × Obj)) : Prop := ∃ ds, DatAll M (c x.g).1 ds ∧ DatAll M (c x.wn).1 ds ∧ ∀ d ∈ ds, kqdOk 8 d = true
end Mine

end

/-! part Blk0 -/
section
open PySem PySem.W PySem.Calls PyProof.Rows
local macro_rules | `(tactic| walk_at "getAttr ref") => `(tactic| (k_here; k_dflt (first
  | (refine' Mine.own_h ?k1 ?k2 ?k3 ?k4 ?k5 ?k6 ?k7 ?k8 ?k9 ?_; (case k1 => k_asm); (case k2 => k_asm); (case k3 => k_inst); (case k4 => k_is); (case k5 => k_is); (case k6 => k_is); (case k7 => k_is); (case k8 => first | assumption | k_get); (case k9 => k_handed); k_whole)
  | (refine' Mine.prop_h ?k1 ?k2 ?k3 ?k4 ?k10 ?k5 ?k6 ?k7 ?k8 ?k9 ?_; (case k1 => k_asm); (case k2 => k_asm); (case k3 => k_inst); (case k4 => k_is); (case k10 => k_is); (case k5 => k_is); (case k6 => k_is); (case k7 => k_is); (case k8 => k_is); (case k9 => k_is); k_whole; k_enter)
  | (refine' Mine.bound_h ?k1 ?k2 ?k3 ?k4 ?k5 ?k10 ?k6 ?k7 ?k8 ?k9 ?k11 ?k12 ?k13 ?_; (case k4 => k_inst); (case k1 => k_asm); (case k2 => k_asm); (case k7 => k_is); (case k3 => k_asm); (case k5 => k_is); (case k10 => k_is); (case k6 => k_is); (case k8 => k_is); (case k9 => k_is); (case k11 => k_is); (case k12 => decide +kernel); (case k13 => first | assumption | k_get); k_whole; intro q' h' F' N' l1; (try k_lt l1); (try k_sweep)))))
local macro_rules | `(tactic| walk_at "getMethod ref") => `(tactic| (k_here; k_dflt (refine' Mine.method_h ?k1 ?k2 ?k3 ?k4 ?k5 ?_; (case k1 => k_asm); (case k2 => k_asm); (case k3 => k_inst); (case k4 => k_is); (case k5 => k_is); k_whole)))
local macro_rules | `(tactic| size_fits) => `(tactic| first | ((try simp only [List.size_toArray, Array.size_push, List.push_toArray, List.length_append, List.length_cons, List.length_nil]); (simp only [PySem.sizeLine_eq]); omega) | fail "size_fits: mine")
local macro_rules | `(tactic| walk_at "my_keeps") => `(tactic| (intro z hz; (obtain ⟨i1, i2, i3, i4, i5, i6⟩ := Mine.idle_ne hz); first | rfl | ((refine Eq.trans ?_ (congrFun (by assumption : (_ : Str → Option Value) = _) z)); (try simp only [i1, i2, i3, i4, i5, i6, if_false]); done)))
local macro_rules | `(tactic| walk_at "my_expose") => `(tactic| ((have e1 := (rfl : Mine.lawScope = Mine.lawScope)); (conv at e1 => rhs; whnf); (dsimp only at e1); (conv in (Mine.turnAt _) => whnf); (rw [e1]); clear e1))
local macro_rules | `(tactic| walk_at "my_lt") => `(tactic| first | assumption | exact Mine.allLt_to (by assumption) | (refine List.forall_mem_cons.mpr ⟨by (dsimp only; omega), ?_⟩; walk_at "my_lt"))
local macro_rules | `(tactic| walk_at "my_keepsP") => `(tactic| (intro z hz hp9; (obtain ⟨i1, i2, i3, i4, i5, i6⟩ := Mine.idle_ne hz); first | rfl | ((refine Eq.trans ?_ (congrFun (by assumption : (_ : Str → Option Value) = _) z)); (try simp only [i1, i2, i3, i4, i5, i6, hp9, if_false]); done)))
local macro_rules | `(tactic| walk_at "getAttr ref") => `(tactic| (k_here; (with_reducible show wpAny _ _ (getAttr (Value.ref _) (PySem.Str.ofString "data") _) _ _ _); k_dflt (refine' Mine.data_get ?k1 ?k2 ?k3 ?k4 ?k5 ?k6 ?k7 ?_; (case k1 => k_asm); (case k2 => k_asm); (case k3 => k_asm); (case k4 => k_mem); (case k5 => k_mem); (case k6 => k_asm); (case k7 => first | assumption | (unfold Mine.IsCls; decide)); k_whole)))
local macro_rules | `(tactic| walk_at "my_len") => `(tactic| first | omega | ((try simp only [List.length_append, List.length_cons, List.length_nil, List.length_set, List.length_dropLast, List.length_drop]); omega))
local macro_rules | `(tactic| walk_at "call builtin:len") => `(tactic| (k_here; (with_reducible show wpAny _ _ (call (Value.builtin "len") [Value.ref _]) _ _ _); k_dflt (refine' Mine.len_n ?a ?b ?c ?_; (case a => k_asm); (case b => k_mem); (case c => walk_at "my_len"); k_whole)))
local macro_rules | `(tactic| walk_at "call builtin:list.append") => `(tactic| (k_here; (with_reducible show wpAny _ _ (call (Value.builtin _) [Value.ref _, _]) _ _ _); k_dflt (refine' Mine.append_n ?a ?b ?c ?d ?_; (case a => k_asm); (case b => k_asm); (case c => k_upd); (case d => walk_at "my_len"); k_whole); intro h' F' N'; (try k_sweep)))
local macro_rules | `(tactic| walk_at "call builtin:list.pop") => `(tactic| (k_here; (with_reducible show wpAny _ _ (call (Value.builtin _) [Value.ref _]) _ _ _); k_dflt (refine' Mine.pop_n ?a ?b ?c ?d ?e ?_; (case a => k_asm); (case b => k_asm); (case c => k_upd); (case d => walk_at "my_len"); (case e => walk_at "my_len"); k_whole); intro h' y' F' N'; (try k_sweep)))
local macro_rules | `(tactic| walk_at "setItem ref int") => `(tactic| (k_here; (with_reducible show wpAny _ _ (setItem (Value.ref _) (Value.int _ _) _) _ _ _); k_dflt (refine' Mine.set_n ?a ?b ?c ?d ?e ?f ?_; (case a => k_asm); (case b => k_asm); (case c => k_upd); (case d => first | omega | exact Int.fmod_nonneg_of_pos _ (by omega)); (case e => first | (refine Int.lt_of_lt_of_le (Int.fmod_lt_of_pos _ (by omega)) ?_; walk_at "my_len") | walk_at "my_len"); (case f => walk_at "my_len"); k_whole); intro h' F' N'; (try k_sweep)))
local macro_rules | `(tactic| walk_at "subscriptTail Name Slice ref ref") => `(tactic| (k_here; (with_reducible show wpAny _ _ (subscriptTail _ (PySem.Expr.Slice _ _ none _) (Value.ref _) (Value.ref _)) _ _ _); k_dflt (refine' kms_slice_lit ?F ?N ?l ?p ?q ?e ?_ ?s ?t ?z; (case F => k_asm); (case N => k_asm); (case l => exact PyProof.Rows.News.isList (by k_asm) (by k_mem)); (case p => kmk_part); (case q => kmk_part); (case e => first | exact Mine.pick_from _ | exact Mine.pick_all _); (case s => with_unfolding_all rfl); (case t => kmk_pure); (case z => ((simp only [List.size_toArray, PySem.sizeLine_eq]); omega))); intro D' h' F' N' l1; (try k_lt l1); (try dsimp only at F' N'); (try dsimp only); (try k_sweep)))
local macro_rules | `(tactic| walk_at "subscriptTail") => `(tactic| (k_here; (with_reducible show wpAny _ _ (subscriptTail _ _ (Value.ref _) (Value.int _ _)) _ _ _); k_dflt (refine' Mine.item_n ?a ?b ?c ?d ?e ?_; (case a => k_asm); (case b => k_mem); (case e => first | assumption | with_unfolding_all assumption); (case c => first | omega | exact Int.fmod_nonneg_of_pos _ (by omega)); (case d => first | omega | (refine Int.lt_trans (Int.fmod_lt_of_pos _ (by omega)) ?_; omega)); k_whole)))
local macro_rules | `(tactic| walk_at "subscriptTail Name Name ref int") => `(tactic| (k_here; (with_reducible show wpAny _ _ (subscriptTail _ _ (Value.ref _) (Value.int _ _)) _ _ _); k_dflt (refine' Mine.item_n ?a ?b ?c ?d ?e ?_; (case a => k_asm); (case b => k_mem); (case e => first | assumption | with_unfolding_all assumption); (case c => first | omega | exact Int.fmod_nonneg_of_pos _ (by omega)); (case d => first | omega | (refine Int.lt_trans (Int.fmod_lt_of_pos _ (by omega)) ?_; omega)); k_whole)))
local macro_rules | `(tactic| walk_at "getAttr ref") => `(tactic| (k_here; (with_reducible show wpAny _ _ (getAttr (Value.ref _) (PySem.Str.ofString "waypoint_list") _) _ _ _); k_dflt (refine' Mine.wl_get ?k1 ?k2 ?B ?F ?N ?hk ?hd ?t ?d ?a ?D ?v ?w ?_; (case k1 => k_asm); (case k2 => k_asm); (case B => k_asm); (case F => k_asm); (case N => k_asm); (case hk => first | rfl | assumption); (case hd => first | decide | omega | ktr_room); (case t => k_mem); (case d => k_mem); (case D => k_asm); (case a => k_mem); (case v => walk_at "my_len"); (case w => assumption)); intro D' h' tk' F' N' l1; (try k_lt l1); (try dsimp only at F' N'); (try dsimp only); (try k_sweep)))
namespace Mine

theorem blk0s {w : World} {mean : ExcName → Option Value} {mg mb : Str → Option Value} {L fa : Addr} {cd : Value} {h₀ : Heap} (KX : (hd.heap_39 w.params).In h₀) (T : Top hd.view_39 loosesW mean mg mb h₀) (K0 : Below callerA h₀ [] h₀)
  {Q : Flow → Shared → Prop} {E : Value → Shared → Prop} {s : Shared} {m : Str → Option Value} {t d a C n na : Nat} {es : List DictEntry} {rs : List (Addr × Obj)} {vs ws : List Value} {deed wv : Int} {dt wt : Nat}
  (D : DictIs es a) (hv : vs.length ≤ 1000) (hw : wv < 2 → (C = 260 ∧ ws = vs.drop 4 ∨ C = 281 ∧ ws = vs)) (hwl : ws.length ≤ vs.length)
  (F : Fr h₀ L s.heap m) (hm : ∀ p ∈ [(S "deed", Value.int deed dt), (S "which", .int wv wt), (S "thing", .ref t)], m p.1 = some p.2)
  (N : News h₀ L s.heap ((a, listOf vs.toArray na) :: (t, instObj C d) :: (d, dictOf es n) :: rs))
  (hQ : ∀ m' h' tk', Keeps m m' → Fr h₀ L h' m' → News h₀ L h' ((a, listOf vs.toArray na) :: (t, instObj C d) :: (d, dictOf es n) :: rs) → Q .next { s with heap := h', toks := tk' }) :
  wpAny (model PySem.Challenge.rw_dg5010_01.row.prog w) (callerA.deeper (envOf (Str.ofString "law") lawScope L fa cd)) (exec (turnAt 7) (envOf (Str.ofString "law") lawScope L fa cd)) Q E s := by
  revert KX
  k_fill
  intro KX
  walk_at "my_expose"
  replace F := frK F _ hm
  have em := frE _ hm
  simp only [kstB] at F em
  by_cases hw2 : wv < 2
  · have hw3 := hw hw2
    clear hw
    k_steps
    all_goals (rename Fr _ _ _ _ => F9; rename News _ _ _ _ => N9; first | exact hQ _ _ _ (by walk_at "my_keeps") F9 N9 | exact hQ _ _ _ (by walk_at "my_keeps") F9 (fun p hp => N9 p (.tail _ hp)))
  · clear hw
    k_steps
    all_goals (rename Fr _ _ _ _ => F9; rename News _ _ _ _ => N9; first | exact hQ _ _ _ (by walk_at "my_keeps") F9 N9 | exact hQ _ _ _ (by walk_at "my_keeps") F9 (fun p hp => N9 p (.tail _ hp)))
end Mine

end

/-! part Blk1 -/
section
open PySem PySem.W PySem.Calls PyProof.Rows
local macro_rules | `(tactic| walk_at "getAttr ref") => `(tactic| (k_here; k_dflt (first
  | (refine' Mine.own_h ?k1 ?k2 ?k3 ?k4 ?k5 ?k6 ?k7 ?k8 ?k9 ?_; (case k1 => k_asm); (case k2 => k_asm); (case k3 => k_inst); (case k4 => k_is); (case k5 => k_is); (case k6 => k_is); (case k7 => k_is); (case k8 => first | assumption | k_get); (case k9 => k_handed); k_whole)
  | (refine' Mine.prop_h ?k1 ?k2 ?k3 ?k4 ?k10 ?k5 ?k6 ?k7 ?k8 ?k9 ?_; (case k1 => k_asm); (case k2 => k_asm); (case k3 => k_inst); (case k4 => k_is); (case k10 => k_is); (case k5 => k_is); (case k6 => k_is); (case k7 => k_is); (case k8 => k_is); (case k9 => k_is); k_whole; k_enter)
  | (refine' Mine.bound_h ?k1 ?k2 ?k3 ?k4 ?k5 ?k10 ?k6 ?k7 ?k8 ?k9 ?k11 ?k12 ?k13 ?_; (case k4 => k_inst); (case k1 => k_asm); (case k2 => k_asm); (case k7 => k_is); (case k3 => k_asm); (case k5 => k_is); (case k10 => k_is); (case k6 => k_is); (case k8 => k_is); (case k9 => k_is); (case k11 => k_is); (case k12 => decide +kernel); (case k13 => first | assumption | k_get); k_whole; intro q' h' F' N' l1; (try k_lt l1); (try k_sweep)))))
local macro_rules | `(tactic| walk_at "getMethod ref") => `(tactic| (k_here; k_dflt (refine' Mine.method_h ?k1 ?k2 ?k3 ?k4 ?k5 ?_; (case k1 => k_asm); (case k2 => k_asm); (case k3 => k_inst); (case k4 => k_is); (case k5 => k_is); k_whole)))
local macro_rules | `(tactic| size_fits) => `(tactic| first | ((try simp only [List.size_toArray, Array.size_push, List.push_toArray, List.length_append, List.length_cons, List.length_nil]); (simp only [PySem.sizeLine_eq]); omega) | fail "size_fits: mine")
local macro_rules | `(tactic| walk_at "my_keeps") => `(tactic| (intro z hz; (obtain ⟨i1, i2, i3, i4, i5, i6⟩ := Mine.idle_ne hz); first | rfl | ((refine Eq.trans ?_ (congrFun (by assumption : (_ : Str → Option Value) = _) z)); (try simp only [i1, i2, i3, i4, i5, i6, if_false]); done)))
local macro_rules | `(tactic| walk_at "my_expose") => `(tactic| ((have e1 := (rfl : Mine.lawScope = Mine.lawScope)); (conv at e1 => rhs; whnf); (dsimp only at e1); (conv in (Mine.turnAt _) => whnf); (rw [e1]); clear e1))
local macro_rules | `(tactic| walk_at "my_lt") => `(tactic| first | assumption | exact Mine.allLt_to (by assumption) | (refine List.forall_mem_cons.mpr ⟨by (dsimp only; omega), ?_⟩; walk_at "my_lt"))
local macro_rules | `(tactic| walk_at "my_keepsP") => `(tactic| (intro z hz hp9; (obtain ⟨i1, i2, i3, i4, i5, i6⟩ := Mine.idle_ne hz); first | rfl | ((refine Eq.trans ?_ (congrFun (by assumption : (_ : Str → Option Value) = _) z)); (try simp only [i1, i2, i3, i4, i5, i6, hp9, if_false]); done)))
local macro_rules | `(tactic| walk_at "getAttr ref") => `(tactic| (k_here; (with_reducible show wpAny _ _ (getAttr (Value.ref _) (PySem.Str.ofString "data") _) _ _ _); k_dflt (refine' Mine.data_get ?k1 ?k2 ?k3 ?k4 ?k5 ?k6 ?k7 ?_; (case k1 => k_asm); (case k2 => k_asm); (case k3 => k_asm); (case k4 => k_mem); (case k5 => k_mem); (case k6 => k_asm); (case k7 => first | assumption | (unfold Mine.IsCls; decide)); k_whole)))
local macro_rules | `(tactic| walk_at "my_len") => `(tactic| first | omega | ((try simp only [List.length_append, List.length_cons, List.length_nil, List.length_set, List.length_dropLast, List.length_drop]); omega))
local macro_rules | `(tactic| walk_at "call builtin:len") => `(tactic| (k_here; (with_reducible show wpAny _ _ (call (Value.builtin "len") [Value.ref _]) _ _ _); k_dflt (refine' Mine.len_n ?a ?b ?c ?_; (case a => k_asm); (case b => k_mem); (case c => walk_at "my_len"); k_whole)))
local macro_rules | `(tactic| walk_at "call builtin:list.append") => `(tactic| (k_here; (with_reducible show wpAny _ _ (call (Value.builtin _) [Value.ref _, _]) _ _ _); k_dflt (refine' Mine.append_n ?a ?b ?c ?d ?_; (case a => k_asm); (case b => k_asm); (case c => k_upd); (case d => walk_at "my_len"); k_whole); intro h' F' N'; (try k_sweep)))
local macro_rules | `(tactic| walk_at "call builtin:list.pop") => `(tactic| (k_here; (with_reducible show wpAny _ _ (call (Value.builtin _) [Value.ref _]) _ _ _); k_dflt (refine' Mine.pop_n ?a ?b ?c ?d ?e ?_; (case a => k_asm); (case b => k_asm); (case c => k_upd); (case d => walk_at "my_len"); (case e => walk_at "my_len"); k_whole); intro h' y' F' N'; (try k_sweep)))
local macro_rules | `(tactic| walk_at "setItem ref int") => `(tactic| (k_here; (with_reducible show wpAny _ _ (setItem (Value.ref _) (Value.int _ _) _) _ _ _); k_dflt (refine' Mine.set_n ?a ?b ?c ?d ?e ?f ?_; (case a => k_asm); (case b => k_asm); (case c => k_upd); (case d => first | omega | exact Int.fmod_nonneg_of_pos _ (by omega)); (case e => first | (refine Int.lt_of_lt_of_le (Int.fmod_lt_of_pos _ (by omega)) ?_; walk_at "my_len") | walk_at "my_len"); (case f => walk_at "my_len"); k_whole); intro h' F' N'; (try k_sweep)))
local macro_rules | `(tactic| walk_at "subscriptTail Name Slice ref ref") => `(tactic| (k_here; (with_reducible show wpAny _ _ (subscriptTail _ (PySem.Expr.Slice _ _ none _) (Value.ref _) (Value.ref _)) _ _ _); k_dflt (refine' kms_slice_lit ?F ?N ?l ?p ?q ?e ?_ ?s ?t ?z; (case F => k_asm); (case N => k_asm); (case l => exact PyProof.Rows.News.isList (by k_asm) (by k_mem)); (case p => kmk_part); (case q => kmk_part); (case e => first | exact Mine.pick_from _ | exact Mine.pick_all _); (case s => with_unfolding_all rfl); (case t => kmk_pure); (case z => ((simp only [List.size_toArray, PySem.sizeLine_eq]); omega))); intro D' h' F' N' l1; (try k_lt l1); (try dsimp only at F' N'); (try dsimp only); (try k_sweep)))
local macro_rules | `(tactic| walk_at "subscriptTail") => `(tactic| (k_here; (with_reducible show wpAny _ _ (subscriptTail _ _ (Value.ref _) (Value.int _ _)) _ _ _); k_dflt (refine' Mine.item_n ?a ?b ?c ?d ?e ?_; (case a => k_asm); (case b => k_mem); (case e => first | assumption | with_unfolding_all assumption); (case c => first | omega | exact Int.fmod_nonneg_of_pos _ (by omega)); (case d => first | omega | (refine Int.lt_trans (Int.fmod_lt_of_pos _ (by omega)) ?_; omega)); k_whole)))
local macro_rules | `(tactic| walk_at "subscriptTail Name Name ref int") => `(tactic| (k_here; (with_reducible show wpAny _ _ (subscriptTail _ _ (Value.ref _) (Value.int _ _)) _ _ _); k_dflt (refine' Mine.item_n ?a ?b ?c ?d ?e ?_; (case a => k_asm); (case b => k_mem); (case e => first | assumption | with_unfolding_all assumption); (case c => first | omega | exact Int.fmod_nonneg_of_pos _ (by omega)); (case d => first | omega | (refine Int.lt_trans (Int.fmod_lt_of_pos _ (by omega)) ?_; omega)); k_whole)))
namespace Mine

theorem blk1s {w : World} {mean : ExcName → Option Value} {mg mb : Str → Option Value} {L fa : Addr} {cd : Value} {h₀ : Heap} (KX : (hd.heap_39 w.params).In h₀) (T : Top hd.view_39 loosesW mean mg mb h₀) (K0 : Below callerA h₀ [] h₀)
  {Q : Flow → Shared → Prop} {E : Value → Shared → Prop} {s : Shared} {m : Str → Option Value} {t d a r : Nat} {C n na nr : Nat} {es : List DictEntry} {rs : List (Addr × Obj)} {vs ps : List Value} {deed : Int} {dt wt : Nat} {word : Str}
  (har : a ≠ r) (hta : t ≠ a) (htr : t ≠ r) (hda : d ≠ a) (hdr : d ≠ r) (off : OwnOff rs [a, r]) (D : DictIs es a) (hC : IsCls C) (hv : vs.length ≤ 1000) (hp : ps.length ≤ 1000)
  (F : Fr h₀ L s.heap m) (hm : ∀ p ∈ [(S "deed", Value.int deed dt), (S "word", .str word wt), (S "thing", .ref t), (S "page", .ref r)], m p.1 = some p.2)
  (N : News h₀ L s.heap ((a, listOf vs.toArray na) :: (r, listOf ps.toArray nr) :: (t, instObj C d) :: (d, dictOf es n) :: rs))
  (hQ : ∀ m' h' tk' vs' ps' na' nr', Keeps m m' → Fr h₀ L h' m' → News h₀ L h' ((a, listOf vs'.toArray na') :: (r, listOf ps'.toArray nr') :: (t, instObj C d) :: (d, dictOf es n) :: rs) →
    (vs' = vs ∧ ps' = ps ∨ ∃ t1 t2, vs' = vs ++ [.str word t1] ∧ ps' = ps ++ [.str word t2]) → Q .next { s with heap := h', toks := tk' }) :
  wpAny (model PySem.Challenge.rw_dg5010_01.row.prog w) (callerA.deeper (envOf (Str.ofString "law") lawScope L fa cd)) (exec (turnAt 8) (envOf (Str.ofString "law") lawScope L fa cd)) Q E s := by
  revert KX
  k_fill
  intro KX
  have e1 := (rfl : lawScope = lawScope)
  conv at e1 => rhs; whnf
  dsimp only at e1
  have e2 := (rfl : turnAt 8 = turnAt 8)
  conv at e2 => rhs; whnf
  rw [e1, e2]
  clear e1 e2
  replace F := frK F _ hm
  have em := frE _ hm
  simp only [kstB] at F em
  k_steps
  · rename Fr _ _ _ _ => F9
    rename News _ _ _ _ => N9
    exact hQ _ _ _ _ _ _ _ (by walk_at "my_keeps") F9 N9 (.inr ⟨_, _, rfl, rfl⟩)
  · exact hQ _ _ _ _ _ _ _ (by walk_at "my_keeps") F N (.inl ⟨rfl, rfl⟩)
end Mine

end

/-! part Blk2 -/
section
open PySem PySem.W PySem.Calls PyProof.Rows
local macro_rules | `(tactic| walk_at "my_pad0") => `(tactic| fail)
local macro_rules | `(tactic| walk_at "getAttr ref") => `(tactic| (k_here; k_dflt (first
  | (refine' Mine.own_h ?k1 ?k2 ?k3 ?k4 ?k5 ?k6 ?k7 ?k8 ?k9 ?_; (case k1 => k_asm); (case k2 => k_asm); (case k3 => k_inst); (case k4 => k_is); (case k5 => k_is); (case k6 => k_is); (case k7 => k_is); (case k8 => first | assumption | k_get); (case k9 => k_handed); k_whole)
  | (refine' Mine.prop_h ?k1 ?k2 ?k3 ?k4 ?k10 ?k5 ?k6 ?k7 ?k8 ?k9 ?_; (case k1 => k_asm); (case k2 => k_asm); (case k3 => k_inst); (case k4 => k_is); (case k10 => k_is); (case k5 => k_is); (case k6 => k_is); (case k7 => k_is); (case k8 => k_is); (case k9 => k_is); k_whole; k_enter)
  | (refine' Mine.bound_h ?k1 ?k2 ?k3 ?k4 ?k5 ?k10 ?k6 ?k7 ?k8 ?k9 ?k11 ?k12 ?k13 ?_; (case k4 => k_inst); (case k1 => k_asm); (case k2 => k_asm); (case k7 => k_is); (case k3 => k_asm); (case k5 => k_is); (case k10 => k_is); (case k6 => k_is); (case k8 => k_is); (case k9 => k_is); (case k11 => k_is); (case k12 => decide +kernel); (case k13 => first | assumption | k_get); k_whole; intro q' h' F' N' l1; (try k_lt l1); (try k_sweep)))))
local macro_rules | `(tactic| walk_at "getMethod ref") => `(tactic| (k_here; k_dflt (refine' Mine.method_h ?k1 ?k2 ?k3 ?k4 ?k5 ?_; (case k1 => k_asm); (case k2 => k_asm); (case k3 => k_inst); (case k4 => k_is); (case k5 => k_is); k_whole)))
local macro_rules | `(tactic| size_fits) => `(tactic| first | ((try simp only [List.size_toArray, Array.size_push, List.push_toArray, List.length_append, List.length_cons, List.length_nil]); (simp only [PySem.sizeLine_eq]); omega) | fail "size_fits: mine")
local macro_rules | `(tactic| walk_at "my_keeps") => `(tactic| (intro z hz; (obtain ⟨i1, i2, i3, i4, i5, i6⟩ := Mine.idle_ne hz); first | rfl | ((refine Eq.trans ?_ (congrFun (by assumption : (_ : Str → Option Value) = _) z)); (try simp only [i1, i2, i3, i4, i5, i6, if_false]); done)))
local macro_rules | `(tactic| walk_at "my_expose") => `(tactic| ((have e1 := (rfl : Mine.lawScope = Mine.lawScope)); (conv at e1 => rhs; whnf); (dsimp only at e1); (conv in (Mine.turnAt _) => whnf); (rw [e1]); clear e1))
local macro_rules | `(tactic| walk_at "my_lt") => `(tactic| first | assumption | exact Mine.allLt_to (by assumption) | (refine List.forall_mem_cons.mpr ⟨by (dsimp only; omega), ?_⟩; walk_at "my_lt"))
local macro_rules | `(tactic| walk_at "my_keepsP") => `(tactic| (intro z hz hp9; (obtain ⟨i1, i2, i3, i4, i5, i6⟩ := Mine.idle_ne hz); first | rfl | ((refine Eq.trans ?_ (congrFun (by assumption : (_ : Str → Option Value) = _) z)); (try simp only [i1, i2, i3, i4, i5, i6, hp9, if_false]); done)))
local macro_rules | `(tactic| walk_at "getAttr ref") => `(tactic| (k_here; (with_reducible show wpAny _ _ (getAttr (Value.ref _) (PySem.Str.ofString "data") _) _ _ _); k_dflt (refine' Mine.data_get ?k1 ?k2 ?k3 ?k4 ?k5 ?k6 ?k7 ?_; (case k1 => k_asm); (case k2 => k_asm); (case k3 => k_asm); (case k4 => k_mem); (case k5 => k_mem); (case k6 => k_asm); (case k7 => first | assumption | (unfold Mine.IsCls; decide)); k_whole)))
local macro_rules | `(tactic| walk_at "my_len") => `(tactic| first | omega | ((try simp only [List.length_append, List.length_cons, List.length_nil, List.length_set, List.length_dropLast, List.length_drop]); omega))
local macro_rules | `(tactic| walk_at "call builtin:len") => `(tactic| (k_here; (with_reducible show wpAny _ _ (call (Value.builtin "len") [Value.ref _]) _ _ _); k_dflt (refine' Mine.len_n ?a ?b ?c ?_; (case a => k_asm); (case b => k_mem); (case c => walk_at "my_len"); k_whole)))
local macro_rules | `(tactic| walk_at "call builtin:list.append") => `(tactic| (k_here; (with_reducible show wpAny _ _ (call (Value.builtin _) [Value.ref _, _]) _ _ _); k_dflt (refine' Mine.append_n ?a ?b ?c ?d ?_; (case a => k_asm); (case b => k_asm); (case c => k_upd); (case d => walk_at "my_len"); k_whole); intro h' F' N'; (try k_sweep)))
local macro_rules | `(tactic| walk_at "call builtin:list.pop") => `(tactic| (k_here; (with_reducible show wpAny _ _ (call (Value.builtin _) [Value.ref _]) _ _ _); k_dflt (refine' Mine.pop_n ?a ?b ?c ?d ?e ?_; (case a => k_asm); (case b => k_asm); (case c => k_upd); (case d => walk_at "my_len"); (case e => walk_at "my_len"); k_whole); intro h' y' F' N'; (try k_sweep)))
local macro_rules | `(tactic| walk_at "setItem ref int") => `(tactic| (k_here; (with_reducible show wpAny _ _ (setItem (Value.ref _) (Value.int _ _) _) _ _ _); k_dflt (refine' Mine.set_n ?a ?b ?c ?d ?e ?f ?_; (case a => k_asm); (case b => k_asm); (case c => k_upd); (case d => first | omega | exact Int.fmod_nonneg_of_pos _ (by omega)); (case e => first | (refine Int.lt_of_lt_of_le (Int.fmod_lt_of_pos _ (by omega)) ?_; walk_at "my_len") | walk_at "my_len"); (case f => walk_at "my_len"); k_whole); intro h' F' N'; (try k_sweep)))
local macro_rules | `(tactic| walk_at "subscriptTail Name Slice ref ref") => `(tactic| (k_here; (with_reducible show wpAny _ _ (subscriptTail _ (PySem.Expr.Slice _ _ none _) (Value.ref _) (Value.ref _)) _ _ _); k_dflt (refine' kms_slice_lit ?F ?N ?l ?p ?q ?e ?_ ?s ?t ?z; (case F => k_asm); (case N => k_asm); (case l => exact PyProof.Rows.News.isList (by k_asm) (by k_mem)); (case p => kmk_part); (case q => kmk_part); (case e => first | exact Mine.pick_from _ | exact Mine.pick_all _); (case s => with_unfolding_all rfl); (case t => kmk_pure); (case z => ((simp only [List.size_toArray, PySem.sizeLine_eq]); omega))); intro D' h' F' N' l1; (try k_lt l1); (try dsimp only at F' N'); (try dsimp only); (try k_sweep)))
local macro_rules | `(tactic| walk_at "subscriptTail") => `(tactic| (k_here; (with_reducible show wpAny _ _ (subscriptTail _ _ (Value.ref _) (Value.int _ _)) _ _ _); k_dflt (refine' Mine.item_n ?a ?b ?c ?d ?e ?_; (case a => k_asm); (case b => k_mem); (case e => first | assumption | with_unfolding_all assumption); (case c => first | omega | exact Int.fmod_nonneg_of_pos _ (by omega)); (case d => first | omega | (refine Int.lt_trans (Int.fmod_lt_of_pos _ (by omega)) ?_; omega)); k_whole)))
local macro_rules | `(tactic| walk_at "subscriptTail Name Name ref int") => `(tactic| (k_here; (with_reducible show wpAny _ _ (subscriptTail _ _ (Value.ref _) (Value.int _ _)) _ _ _); k_dflt (refine' Mine.item_n ?a ?b ?c ?d ?e ?_; (case a => k_asm); (case b => k_mem); (case e => first | assumption | with_unfolding_all assumption); (case c => first | omega | exact Int.fmod_nonneg_of_pos _ (by omega)); (case d => first | omega | (refine Int.lt_trans (Int.fmod_lt_of_pos _ (by omega)) ?_; omega)); k_whole)))
namespace Mine

theorem blk2s {w : World} {mean : ExcName → Option Value} {mg mb : Str → Option Value} {L fa : Addr} {cd : Value} {h₀ : Heap} (KX : (hd.heap_39 w.params).In h₀) (T : Top hd.view_39 loosesW mean mg mb h₀) (K0 : Below callerA h₀ [] h₀)
  {Q : Flow → Shared → Prop} {E : Value → Shared → Prop} {s : Shared} {m : Str → Option Value} {t d a r : Nat} {C n na nr : Nat} {es : List DictEntry} {rs : List (Addr × Obj)} {vs ps : List Value} {deed mm : Int} {dt wt mt : Nat} {word : Str}
  (har : a ≠ r) (hta : t ≠ a) (htr : t ≠ r) (hda : d ≠ a) (hdr : d ≠ r) (off : OwnOff rs [a, r]) (D : DictIs es a) (hC : IsCls C) (hv : vs.length ≤ 1000) (hp : ps.length = vs.length)
  (F : Fr h₀ L s.heap m) (hm : ∀ p ∈ [(S "deed", Value.int deed dt), (S "word", .str word wt), (S "thing", .ref t), (S "page", .ref r), (S "m", .int mm mt)], m p.1 = some p.2)
  (N : News h₀ L s.heap ((a, listOf vs.toArray na) :: (r, listOf ps.toArray nr) :: (t, instObj C d) :: (d, dictOf es n) :: rs))
  (hQ : ∀ m' h' tk' vs' ps' na' nr', Keeps m m' → Fr h₀ L h' m' → News h₀ L h' ((a, listOf vs'.toArray na') :: (r, listOf ps'.toArray nr') :: (t, instObj C d) :: (d, dictOf es n) :: rs) →
    (vs' = vs ∧ ps' = ps ∨ ∃ (i : Nat) (t1 t2 : Tok), i < vs.length ∧ vs' = vs.set i (.str word t1) ∧ ps' = ps.set i (.str word t2)) → Q .next { s with heap := h', toks := tk' }) :
  wpAny (model PySem.Challenge.rw_dg5010_01.row.prog w) (callerA.deeper (envOf (Str.ofString "law") lawScope L fa cd)) (exec (turnAt 9) (envOf (Str.ofString "law") lawScope L fa cd)) Q E s := by
  revert KX
  k_fill
  intro KX
  walk_at "my_expose"
  replace F := frK F _ hm
  have em := frE _ hm
  simp only [kstB] at F em
  k_steps
  all_goals first
    | (rename Fr _ _ _ _ => F9; rename News _ _ _ _ => N9; have h8 := Int.fmod_lt_of_pos mm (b := (ps.length : Int)) (by omega); have h9 := Int.fmod_nonneg_of_pos mm (b := (ps.length : Int)) (by omega); exact hQ _ _ _ _ _ _ _ (by walk_at "my_keeps") F9 N9 (.inr ⟨_, _, _, by omega, rfl, rfl⟩))
    | exact hQ _ _ _ _ _ _ _ (by walk_at "my_keeps") F N (.inl ⟨rfl, rfl⟩)
end Mine

end

/-! part Blk3 -/
section
open PySem PySem.W PySem.Calls PyProof.Rows
local macro_rules | `(tactic| walk_at "getAttr ref") => `(tactic| (k_here; k_dflt (first
  | (refine' Mine.own_h ?k1 ?k2 ?k3 ?k4 ?k5 ?k6 ?k7 ?k8 ?k9 ?_; (case k1 => k_asm); (case k2 => k_asm); (case k3 => k_inst); (case k4 => k_is); (case k5 => k_is); (case k6 => k_is); (case k7 => k_is); (case k8 => first | assumption | k_get); (case k9 => k_handed); k_whole)
  | (refine' Mine.prop_h ?k1 ?k2 ?k3 ?k4 ?k10 ?k5 ?k6 ?k7 ?k8 ?k9 ?_; (case k1 => k_asm); (case k2 => k_asm); (case k3 => k_inst); (case k4 => k_is); (case k10 => k_is); (case k5 => k_is); (case k6 => k_is); (case k7 => k_is); (case k8 => k_is); (case k9 => k_is); k_whole; k_enter)
  | (refine' Mine.bound_h ?k1 ?k2 ?k3 ?k4 ?k5 ?k10 ?k6 ?k7 ?k8 ?k9 ?k11 ?k12 ?k13 ?_; (case k4 => k_inst); (case k1 => k_asm); (case k2 => k_asm); (case k7 => k_is); (case k3 => k_asm); (case k5 => k_is); (case k10 => k_is); (case k6 => k_is); (case k8 => k_is); (case k9 => k_is); (case k11 => k_is); (case k12 => decide +kernel); (case k13 => first | assumption | k_get); k_whole; intro q' h' F' N' l1; (try k_lt l1); (try k_sweep)))))
local macro_rules | `(tactic| walk_at "getMethod ref") => `(tactic| (k_here; k_dflt (refine' Mine.method_h ?k1 ?k2 ?k3 ?k4 ?k5 ?_; (case k1 => k_asm); (case k2 => k_asm); (case k3 => k_inst); (case k4 => k_is); (case k5 => k_is); k_whole)))
local macro_rules | `(tactic| size_fits) => `(tactic| first | ((try simp only [List.size_toArray, Array.size_push, List.push_toArray, List.length_append, List.length_cons, List.length_nil]); (simp only [PySem.sizeLine_eq]); omega) | fail "size_fits: mine")
local macro_rules | `(tactic| walk_at "my_keeps") => `(tactic| (intro z hz; (obtain ⟨i1, i2, i3, i4, i5, i6⟩ := Mine.idle_ne hz); first | rfl | ((refine Eq.trans ?_ (congrFun (by assumption : (_ : Str → Option Value) = _) z)); (try simp only [i1, i2, i3, i4, i5, i6, if_false]); done)))
local macro_rules | `(tactic| walk_at "my_expose") => `(tactic| ((have e1 := (rfl : Mine.lawScope = Mine.lawScope)); (conv at e1 => rhs; whnf); (dsimp only at e1); (conv in (Mine.turnAt _) => whnf); (rw [e1]); clear e1))
local macro_rules | `(tactic| walk_at "my_lt") => `(tactic| first | assumption | exact Mine.allLt_to (by assumption) | (refine List.forall_mem_cons.mpr ⟨by (dsimp only; omega), ?_⟩; walk_at "my_lt"))
local macro_rules | `(tactic| walk_at "my_keepsP") => `(tactic| (intro z hz hp9; (obtain ⟨i1, i2, i3, i4, i5, i6⟩ := Mine.idle_ne hz); first | rfl | ((refine Eq.trans ?_ (congrFun (by assumption : (_ : Str → Option Value) = _) z)); (try simp only [i1, i2, i3, i4, i5, i6, hp9, if_false]); done)))
local macro_rules | `(tactic| walk_at "getAttr ref") => `(tactic| (k_here; (with_reducible show wpAny _ _ (getAttr (Value.ref _) (PySem.Str.ofString "data") _) _ _ _); k_dflt (refine' Mine.data_get ?k1 ?k2 ?k3 ?k4 ?k5 ?k6 ?k7 ?_; (case k1 => k_asm); (case k2 => k_asm); (case k3 => k_asm); (case k4 => k_mem); (case k5 => k_mem); (case k6 => k_asm); (case k7 => first | assumption | (unfold Mine.IsCls; decide)); k_whole)))
local macro_rules | `(tactic| walk_at "my_len") => `(tactic| first | omega | ((try simp only [List.length_append, List.length_cons, List.length_nil, List.length_set, List.length_dropLast, List.length_drop]); omega))
local macro_rules | `(tactic| walk_at "call builtin:len") => `(tactic| (k_here; (with_reducible show wpAny _ _ (call (Value.builtin "len") [Value.ref _]) _ _ _); k_dflt (refine' Mine.len_n ?a ?b ?c ?_; (case a => k_asm); (case b => k_mem); (case c => walk_at "my_len"); k_whole)))
local macro_rules | `(tactic| walk_at "call builtin:list.append") => `(tactic| (k_here; (with_reducible show wpAny _ _ (call (Value.builtin _) [Value.ref _, _]) _ _ _); k_dflt (refine' Mine.append_n ?a ?b ?c ?d ?_; (case a => k_asm); (case b => k_asm); (case c => k_upd); (case d => walk_at "my_len"); k_whole); intro h' F' N'; (try k_sweep)))
local macro_rules | `(tactic| walk_at "call builtin:list.pop") => `(tactic| (k_here; (with_reducible show wpAny _ _ (call (Value.builtin _) [Value.ref _]) _ _ _); k_dflt (refine' Mine.pop_n ?a ?b ?c ?d ?e ?_; (case a => k_asm); (case b => k_asm); (case c => k_upd); (case d => walk_at "my_len"); (case e => walk_at "my_len"); k_whole); intro h' y' F' N'; (try k_sweep)))
local macro_rules | `(tactic| walk_at "setItem ref int") => `(tactic| (k_here; (with_reducible show wpAny _ _ (setItem (Value.ref _) (Value.int _ _) _) _ _ _); k_dflt (refine' Mine.set_n ?a ?b ?c ?d ?e ?f ?_; (case a => k_asm); (case b => k_asm); (case c => k_upd); (case d => first | omega | exact Int.fmod_nonneg_of_pos _ (by omega)); (case e => first | (refine Int.lt_of_lt_of_le (Int.fmod_lt_of_pos _ (by omega)) ?_; walk_at "my_len") | walk_at "my_len"); (case f => walk_at "my_len"); k_whole); intro h' F' N'; (try k_sweep)))
local macro_rules | `(tactic| walk_at "subscriptTail Name Slice ref ref") => `(tactic| (k_here; (with_reducible show wpAny _ _ (subscriptTail _ (PySem.Expr.Slice _ _ none _) (Value.ref _) (Value.ref _)) _ _ _); k_dflt (refine' kms_slice_lit ?F ?N ?l ?p ?q ?e ?_ ?s ?t ?z; (case F => k_asm); (case N => k_asm); (case l => exact PyProof.Rows.News.isList (by k_asm) (by k_mem)); (case p => kmk_part); (case q => kmk_part); (case e => first | exact Mine.pick_from _ | exact Mine.pick_all _); (case s => with_unfolding_all rfl); (case t => kmk_pure); (case z => ((simp only [List.size_toArray, PySem.sizeLine_eq]); omega))); intro D' h' F' N' l1; (try k_lt l1); (try dsimp only at F' N'); (try dsimp only); (try k_sweep)))
local macro_rules | `(tactic| walk_at "subscriptTail") => `(tactic| (k_here; (with_reducible show wpAny _ _ (subscriptTail _ _ (Value.ref _) (Value.int _ _)) _ _ _); k_dflt (refine' Mine.item_n ?a ?b ?c ?d ?e ?_; (case a => k_asm); (case b => k_mem); (case e => first | assumption | with_unfolding_all assumption); (case c => first | omega | exact Int.fmod_nonneg_of_pos _ (by omega)); (case d => first | omega | (refine Int.lt_trans (Int.fmod_lt_of_pos _ (by omega)) ?_; omega)); k_whole)))
local macro_rules | `(tactic| walk_at "subscriptTail Name Name ref int") => `(tactic| (k_here; (with_reducible show wpAny _ _ (subscriptTail _ _ (Value.ref _) (Value.int _ _)) _ _ _); k_dflt (refine' Mine.item_n ?a ?b ?c ?d ?e ?_; (case a => k_asm); (case b => k_mem); (case e => first | assumption | with_unfolding_all assumption); (case c => first | omega | exact Int.fmod_nonneg_of_pos _ (by omega)); (case d => first | omega | (refine Int.lt_trans (Int.fmod_lt_of_pos _ (by omega)) ?_; omega)); k_whole)))
namespace Mine

theorem blk3s {w : World} {mean : ExcName → Option Value} {mg mb : Str → Option Value} {L fa : Addr} {cd : Value} {h₀ : Heap} (KX : (hd.heap_39 w.params).In h₀) (T : Top hd.view_39 loosesW mean mg mb h₀) (K0 : Below callerA h₀ [] h₀)
  {Q : Flow → Shared → Prop} {E : Value → Shared → Prop} {s : Shared} {m : Str → Option Value} {t d a r : Nat} {C n na nr : Nat} {es : List DictEntry} {rs : List (Addr × Obj)} {vs ps : List Value} {deed mm : Int} {dt wt mt : Nat} {word : Str}
  (har : a ≠ r) (hta : t ≠ a) (htr : t ≠ r) (hda : d ≠ a) (hdr : d ≠ r) (off : OwnOff rs [a, r]) (D : DictIs es a) (hC : IsCls C) (hv : vs.length ≤ 1000) (hp : ps.length = vs.length)
  (F : Fr h₀ L s.heap m) (hm : ∀ p ∈ [(S "deed", Value.int deed dt), (S "thing", .ref t), (S "page", .ref r)], m p.1 = some p.2)
  (N : News h₀ L s.heap ((a, listOf vs.toArray na) :: (r, listOf ps.toArray nr) :: (t, instObj C d) :: (d, dictOf es n) :: rs))
  (hQ : ∀ m' h' tk' vs' ps' na' nr', Keeps m m' → Fr h₀ L h' m' → News h₀ L h' ((a, listOf vs'.toArray na') :: (r, listOf ps'.toArray nr') :: (t, instObj C d) :: (d, dictOf es n) :: rs) →
    (vs' = vs ∧ ps' = ps ∨ vs' = vs.dropLast ∧ ps' = ps.dropLast) → Q .next { s with heap := h', toks := tk' }) :
  wpAny (model PySem.Challenge.rw_dg5010_01.row.prog w) (callerA.deeper (envOf (Str.ofString "law") lawScope L fa cd)) (exec (turnAt 10) (envOf (Str.ofString "law") lawScope L fa cd)) Q E s := by
  revert KX
  k_fill
  intro KX
  walk_at "my_expose"
  replace F := frK F _ hm
  have em := frE _ hm
  simp only [kstB] at F em
  k_steps
  all_goals first
    | (rename Fr _ _ _ _ => F9; rename News _ _ _ _ => N9; exact hQ _ _ _ _ _ _ _ (by walk_at "my_keeps") F9 N9 (.inr ⟨rfl, rfl⟩))
    | exact hQ _ _ _ _ _ _ _ (by walk_at "my_keeps") F N (.inl ⟨rfl, rfl⟩)
end Mine

end

/-! part Blk4 -/
section
open PySem PySem.W PySem.Calls PyProof.Rows
local macro_rules | `(tactic| walk_at "my_pad0") => `(tactic| fail)
local macro_rules | `(tactic| walk_at "getAttr ref") => `(tactic| (k_here; k_dflt (first
  | (refine' Mine.own_h ?k1 ?k2 ?k3 ?k4 ?k5 ?k6 ?k7 ?k8 ?k9 ?_; (case k1 => k_asm); (case k2 => k_asm); (case k3 => k_inst); (case k4 => k_is); (case k5 => k_is); (case k6 => k_is); (case k7 => k_is); (case k8 => first | assumption | k_get); (case k9 => k_handed); k_whole)
  | (refine' Mine.prop_h ?k1 ?k2 ?k3 ?k4 ?k10 ?k5 ?k6 ?k7 ?k8 ?k9 ?_; (case k1 => k_asm); (case k2 => k_asm); (case k3 => k_inst); (case k4 => k_is); (case k10 => k_is); (case k5 => k_is); (case k6 => k_is); (case k7 => k_is); (case k8 => k_is); (case k9 => k_is); k_whole; k_enter)
  | (refine' Mine.bound_h ?k1 ?k2 ?k3 ?k4 ?k5 ?k10 ?k6 ?k7 ?k8 ?k9 ?k11 ?k12 ?k13 ?_; (case k4 => k_inst); (case k1 => k_asm); (case k2 => k_asm); (case k7 => k_is); (case k3 => k_asm); (case k5 => k_is); (case k10 => k_is); (case k6 => k_is); (case k8 => k_is); (case k9 => k_is); (case k11 => k_is); (case k12 => decide +kernel); (case k13 => first | assumption | k_get); k_whole; intro q' h' F' N' l1; (try k_lt l1); (try k_sweep)))))
local macro_rules | `(tactic| walk_at "getMethod ref") => `(tactic| (k_here; k_dflt (refine' Mine.method_h ?k1 ?k2 ?k3 ?k4 ?k5 ?_; (case k1 => k_asm); (case k2 => k_asm); (case k3 => k_inst); (case k4 => k_is); (case k5 => k_is); k_whole)))
local macro_rules | `(tactic| size_fits) => `(tactic| first | ((try simp only [List.size_toArray, Array.size_push, List.push_toArray, List.length_append, List.length_cons, List.length_nil]); (simp only [PySem.sizeLine_eq]); omega) | fail "size_fits: mine")
local macro_rules | `(tactic| walk_at "my_keeps") => `(tactic| (intro z hz; (obtain ⟨i1, i2, i3, i4, i5, i6⟩ := Mine.idle_ne hz); first | rfl | ((refine Eq.trans ?_ (congrFun (by assumption : (_ : Str → Option Value) = _) z)); (try simp only [i1, i2, i3, i4, i5, i6, if_false]); done)))
local macro_rules | `(tactic| walk_at "my_expose") => `(tactic| ((have e1 := (rfl : Mine.lawScope = Mine.lawScope)); (conv at e1 => rhs; whnf); (dsimp only at e1); (conv in (Mine.turnAt _) => whnf); (rw [e1]); clear e1))
local macro_rules | `(tactic| walk_at "my_lt") => `(tactic| first | assumption | exact Mine.allLt_to (by assumption) | (refine List.forall_mem_cons.mpr ⟨by (dsimp only; omega), ?_⟩; walk_at "my_lt"))
local macro_rules | `(tactic| walk_at "my_keepsP") => `(tactic| (intro z hz hp9; (obtain ⟨i1, i2, i3, i4, i5, i6⟩ := Mine.idle_ne hz); first | rfl | ((refine Eq.trans ?_ (congrFun (by assumption : (_ : Str → Option Value) = _) z)); (try simp only [i1, i2, i3, i4, i5, i6, hp9, if_false]); done)))
local macro_rules | `(tactic| walk_at "getAttr ref") => `(tactic| (k_here; (with_reducible show wpAny _ _ (getAttr (Value.ref _) (PySem.Str.ofString "data") _) _ _ _); k_dflt (refine' Mine.data_get ?k1 ?k2 ?k3 ?k4 ?k5 ?k6 ?k7 ?_; (case k1 => k_asm); (case k2 => k_asm); (case k3 => k_asm); (case k4 => k_mem); (case k5 => k_mem); (case k6 => k_asm); (case k7 => first | assumption | (unfold Mine.IsCls; decide)); k_whole)))
local macro_rules | `(tactic| walk_at "my_len") => `(tactic| first | omega | ((try simp only [List.length_append, List.length_cons, List.length_nil, List.length_set, List.length_dropLast, List.length_drop]); omega))
local macro_rules | `(tactic| walk_at "call builtin:len") => `(tactic| (k_here; (with_reducible show wpAny _ _ (call (Value.builtin "len") [Value.ref _]) _ _ _); k_dflt (refine' Mine.len_n ?a ?b ?c ?_; (case a => k_asm); (case b => k_mem); (case c => walk_at "my_len"); k_whole)))
local macro_rules | `(tactic| walk_at "call builtin:list.append") => `(tactic| (k_here; (with_reducible show wpAny _ _ (call (Value.builtin _) [Value.ref _, _]) _ _ _); k_dflt (refine' Mine.append_n ?a ?b ?c ?d ?_; (case a => k_asm); (case b => k_asm); (case c => k_upd); (case d => walk_at "my_len"); k_whole); intro h' F' N'; (try k_sweep)))
local macro_rules | `(tactic| walk_at "call builtin:list.pop") => `(tactic| (k_here; (with_reducible show wpAny _ _ (call (Value.builtin _) [Value.ref _]) _ _ _); k_dflt (refine' Mine.pop_n ?a ?b ?c ?d ?e ?_; (case a => k_asm); (case b => k_asm); (case c => k_upd); (case d => walk_at "my_len"); (case e => walk_at "my_len"); k_whole); intro h' y' F' N'; (try k_sweep)))
local macro_rules | `(tactic| walk_at "setItem ref int") => `(tactic| (k_here; (with_reducible show wpAny _ _ (setItem (Value.ref _) (Value.int _ _) _) _ _ _); k_dflt (refine' Mine.set_n ?a ?b ?c ?d ?e ?f ?_; (case a => k_asm); (case b => k_asm); (case c => k_upd); (case d => first | omega | exact Int.fmod_nonneg_of_pos _ (by omega)); (case e => first | (refine Int.lt_of_lt_of_le (Int.fmod_lt_of_pos _ (by omega)) ?_; walk_at "my_len") | walk_at "my_len"); (case f => walk_at "my_len"); k_whole); intro h' F' N'; (try k_sweep)))
local macro_rules | `(tactic| walk_at "subscriptTail Name Slice ref ref") => `(tactic| (k_here; (with_reducible show wpAny _ _ (subscriptTail _ (PySem.Expr.Slice _ _ none _) (Value.ref _) (Value.ref _)) _ _ _); k_dflt (refine' kms_slice_lit ?F ?N ?l ?p ?q ?e ?_ ?s ?t ?z; (case F => k_asm); (case N => k_asm); (case l => exact PyProof.Rows.News.isList (by k_asm) (by k_mem)); (case p => kmk_part); (case q => kmk_part); (case e => first | exact Mine.pick_from _ | exact Mine.pick_all _); (case s => with_unfolding_all rfl); (case t => kmk_pure); (case z => ((simp only [List.size_toArray, PySem.sizeLine_eq]); omega))); intro D' h' F' N' l1; (try k_lt l1); (try dsimp only at F' N'); (try dsimp only); (try k_sweep)))
local macro_rules | `(tactic| walk_at "subscriptTail") => `(tactic| (k_here; (with_reducible show wpAny _ _ (subscriptTail _ _ (Value.ref _) (Value.int _ _)) _ _ _); k_dflt (refine' Mine.item_n ?a ?b ?c ?d ?e ?_; (case a => k_asm); (case b => k_mem); (case e => first | assumption | with_unfolding_all assumption); (case c => first | omega | exact Int.fmod_nonneg_of_pos _ (by omega)); (case d => first | omega | (refine Int.lt_trans (Int.fmod_lt_of_pos _ (by omega)) ?_; omega)); k_whole)))
local macro_rules | `(tactic| walk_at "subscriptTail Name Name ref int") => `(tactic| (k_here; (with_reducible show wpAny _ _ (subscriptTail _ _ (Value.ref _) (Value.int _ _)) _ _ _); k_dflt (refine' Mine.item_n ?a ?b ?c ?d ?e ?_; (case a => k_asm); (case b => k_mem); (case e => first | assumption | with_unfolding_all assumption); (case c => first | omega | exact Int.fmod_nonneg_of_pos _ (by omega)); (case d => first | omega | (refine Int.lt_trans (Int.fmod_lt_of_pos _ (by omega)) ?_; omega)); k_whole)))
namespace Mine

theorem blk4s {w : World} {mean : ExcName → Option Value} {mg mb : Str → Option Value} {L fa : Addr} {cd : Value} {h₀ : Heap} (KX : (hd.heap_39 w.params).In h₀) (T : Top hd.view_39 loosesW mean mg mb h₀) (K0 : Below callerA h₀ [] h₀)
  {Q : Flow → Shared → Prop} {E : Value → Shared → Prop} {s : Shared} {m : Str → Option Value} {H b : Nat} {e n : Nat} {hs cs : List Value} {rs : List (Addr × Obj)} {deed wv : Int} {dt wt : Nat}
  (hbH : H ≠ b) (off : OwnOff rs [b]) (hc : cs.length ≤ 1000) (hx : hs[(wv.fmod 3).toNat]? = some (.ref b))
  (F : Fr h₀ L s.heap m) (hm : ∀ p ∈ [(S "deed", Value.int deed dt), (S "which", .int wv wt), (S "handed", .ref H)], m p.1 = some p.2)
  (N : News h₀ L s.heap ((H, listOf hs.toArray n) :: (b, listOf cs.toArray e) :: rs))
  (hQ : ∀ m' h' tk' (cs' : List Value) e', Keeps m m' → Fr h₀ L h' m' → News h₀ L h' ((H, listOf hs.toArray n) :: (b, listOf cs'.toArray e') :: rs) → cs'.length ≤ cs.length + 1 → Q .next { s with heap := h', toks := tk' }) :
  wpAny (model PySem.Challenge.rw_dg5010_01.row.prog w) (callerA.deeper (envOf (Str.ofString "law") lawScope L fa cd)) (exec (turnAt 11) (envOf (Str.ofString "law") lawScope L fa cd)) Q E s := by
  revert KX
  k_fill
  intro KX
  walk_at "my_expose"
  replace F := frK F _ hm
  have em := frE _ hm
  simp only [kstB] at F em
  k_steps
  all_goals first
    | (rename Fr _ _ _ _ => F9; rename News _ _ _ _ => N9; exact hQ _ _ _ _ _ (by walk_at "my_keeps") F9 N9 (by walk_at "my_len"))
    | exact hQ _ _ _ _ _ (by walk_at "my_keeps") F N (by walk_at "my_len")
end Mine

end

/-! part Blk5 -/
section
open PySem PySem.W PySem.Calls PyProof.Rows
local macro_rules | `(tactic| walk_at "getAttr ref") => `(tactic| (k_here; k_dflt (first
  | (refine' Mine.own_h ?k1 ?k2 ?k3 ?k4 ?k5 ?k6 ?k7 ?k8 ?k9 ?_; (case k1 => k_asm); (case k2 => k_asm); (case k3 => k_inst); (case k4 => k_is); (case k5 => k_is); (case k6 => k_is); (case k7 => k_is); (case k8 => first | assumption | k_get); (case k9 => k_handed); k_whole)
  | (refine' Mine.prop_h ?k1 ?k2 ?k3 ?k4 ?k10 ?k5 ?k6 ?k7 ?k8 ?k9 ?_; (case k1 => k_asm); (case k2 => k_asm); (case k3 => k_inst); (case k4 => k_is); (case k10 => k_is); (case k5 => k_is); (case k6 => k_is); (case k7 => k_is); (case k8 => k_is); (case k9 => k_is); k_whole; k_enter)
  | (refine' Mine.bound_h ?k1 ?k2 ?k3 ?k4 ?k5 ?k10 ?k6 ?k7 ?k8 ?k9 ?k11 ?k12 ?k13 ?_; (case k4 => k_inst); (case k1 => k_asm); (case k2 => k_asm); (case k7 => k_is); (case k3 => k_asm); (case k5 => k_is); (case k10 => k_is); (case k6 => k_is); (case k8 => k_is); (case k9 => k_is); (case k11 => k_is); (case k12 => decide +kernel); (case k13 => first | assumption | k_get); k_whole; intro q' h' F' N' l1; (try k_lt l1); (try k_sweep)))))
local macro_rules | `(tactic| walk_at "getMethod ref") => `(tactic| (k_here; k_dflt (refine' Mine.method_h ?k1 ?k2 ?k3 ?k4 ?k5 ?_; (case k1 => k_asm); (case k2 => k_asm); (case k3 => k_inst); (case k4 => k_is); (case k5 => k_is); k_whole)))
local macro_rules | `(tactic| size_fits) => `(tactic| first | ((try simp only [List.size_toArray, Array.size_push, List.push_toArray, List.length_append, List.length_cons, List.length_nil]); (simp only [PySem.sizeLine_eq]); omega) | fail "size_fits: mine")
local macro_rules | `(tactic| walk_at "my_keeps") => `(tactic| (intro z hz; (obtain ⟨i1, i2, i3, i4, i5, i6⟩ := Mine.idle_ne hz); first | rfl | ((refine Eq.trans ?_ (congrFun (by assumption : (_ : Str → Option Value) = _) z)); (try simp only [i1, i2, i3, i4, i5, i6, if_false]); done)))
local macro_rules | `(tactic| walk_at "my_expose") => `(tactic| ((have e1 := (rfl : Mine.lawScope = Mine.lawScope)); (conv at e1 => rhs; whnf); (dsimp only at e1); (conv in (Mine.turnAt _) => whnf); (rw [e1]); clear e1))
local macro_rules | `(tactic| walk_at "my_lt") => `(tactic| first | assumption | exact Mine.allLt_to (by assumption) | (refine List.forall_mem_cons.mpr ⟨by (dsimp only; omega), ?_⟩; walk_at "my_lt"))
local macro_rules | `(tactic| walk_at "my_keepsP") => `(tactic| (intro z hz hp9; (obtain ⟨i1, i2, i3, i4, i5, i6⟩ := Mine.idle_ne hz); first | rfl | ((refine Eq.trans ?_ (congrFun (by assumption : (_ : Str → Option Value) = _) z)); (try simp only [i1, i2, i3, i4, i5, i6, hp9, if_false]); done)))
local macro_rules | `(tactic| walk_at "getAttr ref") => `(tactic| (k_here; (with_reducible show wpAny _ _ (getAttr (Value.ref _) (PySem.Str.ofString "data") _) _ _ _); k_dflt (refine' Mine.data_get ?k1 ?k2 ?k3 ?k4 ?k5 ?k6 ?k7 ?_; (case k1 => k_asm); (case k2 => k_asm); (case k3 => k_asm); (case k4 => k_mem); (case k5 => k_mem); (case k6 => k_asm); (case k7 => first | assumption | (unfold Mine.IsCls; decide)); k_whole)))
local macro_rules | `(tactic| walk_at "my_len") => `(tactic| first | omega | ((try simp only [List.length_append, List.length_cons, List.length_nil, List.length_set, List.length_dropLast, List.length_drop]); omega))
local macro_rules | `(tactic| walk_at "call builtin:len") => `(tactic| (k_here; (with_reducible show wpAny _ _ (call (Value.builtin "len") [Value.ref _]) _ _ _); k_dflt (refine' Mine.len_n ?a ?b ?c ?_; (case a => k_asm); (case b => k_mem); (case c => walk_at "my_len"); k_whole)))
local macro_rules | `(tactic| walk_at "call builtin:list.append") => `(tactic| (k_here; (with_reducible show wpAny _ _ (call (Value.builtin _) [Value.ref _, _]) _ _ _); k_dflt (refine' Mine.append_n ?a ?b ?c ?d ?_; (case a => k_asm); (case b => k_asm); (case c => k_upd); (case d => walk_at "my_len"); k_whole); intro h' F' N'; (try k_sweep)))
local macro_rules | `(tactic| walk_at "call builtin:list.pop") => `(tactic| (k_here; (with_reducible show wpAny _ _ (call (Value.builtin _) [Value.ref _]) _ _ _); k_dflt (refine' Mine.pop_n ?a ?b ?c ?d ?e ?_; (case a => k_asm); (case b => k_asm); (case c => k_upd); (case d => walk_at "my_len"); (case e => walk_at "my_len"); k_whole); intro h' y' F' N'; (try k_sweep)))
local macro_rules | `(tactic| walk_at "setItem ref int") => `(tactic| (k_here; (with_reducible show wpAny _ _ (setItem (Value.ref _) (Value.int _ _) _) _ _ _); k_dflt (refine' Mine.set_n ?a ?b ?c ?d ?e ?f ?_; (case a => k_asm); (case b => k_asm); (case c => k_upd); (case d => first | omega | exact Int.fmod_nonneg_of_pos _ (by omega)); (case e => first | (refine Int.lt_of_lt_of_le (Int.fmod_lt_of_pos _ (by omega)) ?_; walk_at "my_len") | walk_at "my_len"); (case f => walk_at "my_len"); k_whole); intro h' F' N'; (try k_sweep)))
local macro_rules | `(tactic| walk_at "subscriptTail Name Slice ref ref") => `(tactic| (k_here; (with_reducible show wpAny _ _ (subscriptTail _ (PySem.Expr.Slice _ _ none _) (Value.ref _) (Value.ref _)) _ _ _); k_dflt (refine' kms_slice_lit ?F ?N ?l ?p ?q ?e ?_ ?s ?t ?z; (case F => k_asm); (case N => k_asm); (case l => exact PyProof.Rows.News.isList (by k_asm) (by k_mem)); (case p => kmk_part); (case q => kmk_part); (case e => first | exact Mine.pick_from _ | exact Mine.pick_all _); (case s => with_unfolding_all rfl); (case t => kmk_pure); (case z => ((simp only [List.size_toArray, PySem.sizeLine_eq]); omega))); intro D' h' F' N' l1; (try k_lt l1); (try dsimp only at F' N'); (try dsimp only); (try k_sweep)))
local macro_rules | `(tactic| walk_at "subscriptTail") => `(tactic| (k_here; (with_reducible show wpAny _ _ (subscriptTail _ _ (Value.ref _) (Value.int _ _)) _ _ _); k_dflt (refine' Mine.item_n ?a ?b ?c ?d ?e ?_; (case a => k_asm); (case b => k_mem); (case e => first | assumption | with_unfolding_all assumption); (case c => first | omega | exact Int.fmod_nonneg_of_pos _ (by omega)); (case d => first | omega | (refine Int.lt_trans (Int.fmod_lt_of_pos _ (by omega)) ?_; omega)); k_whole)))
local macro_rules | `(tactic| walk_at "subscriptTail Name Name ref int") => `(tactic| (k_here; (with_reducible show wpAny _ _ (subscriptTail _ _ (Value.ref _) (Value.int _ _)) _ _ _); k_dflt (refine' Mine.item_n ?a ?b ?c ?d ?e ?_; (case a => k_asm); (case b => k_mem); (case e => first | assumption | with_unfolding_all assumption); (case c => first | omega | exact Int.fmod_nonneg_of_pos _ (by omega)); (case d => first | omega | (refine Int.lt_trans (Int.fmod_lt_of_pos _ (by omega)) ?_; omega)); k_whole)))
local macro_rules | `(tactic| walk_at "getAttr ref") => `(tactic| (k_here; (with_reducible show wpAny _ _ (getAttr (Value.ref _) (PySem.Str.ofString "waypoint_list") _) _ _ _); k_dflt (refine' Mine.wl_get ?k1 ?k2 ?B ?F ?N ?hk ?hd ?t ?d ?a ?D ?v ?w ?_; (case k1 => k_asm); (case k2 => k_asm); (case B => k_asm); (case F => k_asm); (case N => k_asm); (case hk => first | rfl | assumption); (case hd => first | decide | omega | ktr_room); (case t => k_mem); (case d => k_mem); (case D => k_asm); (case a => k_mem); (case v => walk_at "my_len"); (case w => assumption)); intro D' h' tk' F' N' l1; (try k_lt l1); (try dsimp only at F' N'); (try dsimp only); (try k_sweep)))
local macro_rules | `(tactic| walk_at "eval DictComp") => `(tactic| (k_here; with_unfolding_all refine' Mine.dictcomp_k ?a ?b ?c ?d ?e ?_; (case a => with_unfolding_all rfl); (case b => with_unfolding_all rfl); (case c => decide); (case d => (intro _; rfl)); (case e => rfl); (try dsimp only)))
local macro_rules | `(tactic| walk_at "call type:enumerate") => `(tactic| (k_here; (first
  | ((with_reducible show wpAny _ _ (call (Value.type "enumerate") [Value.ref 249]) _ _ _); (with_unfolding_all refine' Mine.comp_call (names := Mine.namesL) ?hh ?F ?N (Mine.fields_rte ?K).1 ?l ?z Mine.namesL_nodup (Mine.fields_rte ?K).2 ?c ?k ?f ?g ?n ?o ?p ?_))
  | ((with_reducible show wpAny _ _ (call (Value.type "enumerate") [Value.ref 99]) _ _ _); (with_unfolding_all refine' Mine.comp_call (names := []) ?hh ?F ?N (Mine.fields_base ?K).1 ?l ?z List.nodup_nil (Mine.fields_base ?K).2 ?c ?k ?f ?g ?n ?o ?p ?_))); (case K => k_asm); (case F => k_asm); (case N => k_asm); (case hh => with_unfolding_all rfl); (case l => rfl); (case z => decide); (case c => decide); (case k => rfl); (case f => with_unfolding_all rfl); (case g => with_unfolding_all rfl); (case n => decide); (case o => decide); (case p => decide); intro D' kvs' h' tk' hlt' F' N' hd' hkv'; (try k_sweep)))
local macro_rules | `(tactic| walk_at "subscriptTail") => `(tactic| (k_here; (with_reducible show wpAny _ _ (subscriptTail _ _ (Value.ref _) (Value.str _ _)) _ _ _); (rename Mine.Kvs _ _ => hkv9); (rename Heap.DictOf _ _ _ _ => hd9); (obtain ⟨t9, hv9⟩ := Mine.Kvs.valueAt hkv9 Mine.namesL_nodup (by assumption)); k_dflt (refine' Mine.item_kvs hd9 hv9 ?_; k_whole); clear hv9 hkv9 hd9))
local macro_rules | `(tactic| walk_at "setItem ref int") => `(tactic| (k_here; (with_reducible show wpAny _ _ (setItem (Value.ref _) (Value.int _ _) _) _ _ _); k_dflt (refine' Mine.setItem_oob ?a ?b ?c ?d ?e ?_; (case a => with_unfolding_all rfl); (case b => exact PyProof.Rows.News.isList (by k_asm) (by k_mem)); (case c => omega); (case d => omega); (case e => ((simp only [List.size_toArray]); omega)); k_whole); intro h' tk' e' hexc'))
namespace Mine
theorem tl {h₀ h : Heap} {L : Addr} {x : Addr × Obj} {l : List (Addr × Obj)} (N : News h₀ L h (x :: l)) : News h₀ L h l := fun p hp => N p (.tail _ hp)

theorem name_get {w : World} {A : Around} {E Q : Value → Shared → Prop} {s : Shared} {h₀ : Heap} {L : Addr} {m : Str → Option Value} {k : Int} {t : Tok} {value slice : PySem.Expr} (KX : (hd.heap_39 w.params).In h₀) (F : Fr h₀ L s.heap m) (h0 : 0 ≤ k) (h1 : k < 4)
    (h : ∀ nm t', namesL[k.toNat]? = some nm → Q (.str nm t') s) (hs : subscripted slice false (.ref 285) (.int k t) = operate [.ref 285, .int k t] (getItem (.ref 285) (.int k t)) := by with_unfolding_all rfl) :
    wpAny (model PySem.Challenge.rw_dg5010_01.row.prog w) A (subscriptTail value slice (.ref 285) (.int k t)) Q E s := by
  revert KX
  k_fill
  intro KX
  refine' KTb.item_tup (ws := namesL) ?a ?b h0 ?c (by omega) (fun t' hk => h _ t' ?d) hs
  case a => exact Fr.tup F (tupK (n := 0) (dd := none) (sl := #[]) KX (by k_is))
  case b => unfold namesL S; repeat constructor
  case c => exact h1
  case d => rw [List.getD_eq_getElem?_getD, List.getElem?_eq_getElem hk]; rfl
local macro_rules | `(tactic| walk_at "subscriptTail") => `(tactic| (k_here; (with_reducible show wpAny _ _ (subscriptTail _ _ (Value.ref 285) (Value.int _ _)) _ _ _); k_dflt (refine' Mine.name_get ?a ?b ?c ?d ?_; (case a => k_asm); (case b => k_asm); (case c => assumption); (case d => assumption); k_whole); intro nm' t' hnm'))
local macro_rules | `(tactic| walk_at "call type:str") => `(tactic| ((with_reducible show wpAny _ _ (call (Value.type "str") [Value.str _ _]) _ _ _); refine P.str_of_str ?_))
theorem blk5s {w : World} {mean : ExcName → Option Value} {mg mb : Str → Option Value} {L fa : Addr} {cd : Value} {h₀ : Heap} (KX : (hd.heap_39 w.params).In h₀) (T : Top hd.view_39 loosesW mean mg mb h₀) (K0 : Below callerA h₀ [] h₀)
  {Q : Flow → Shared → Prop} {s : Shared} {m : Str → Option Value} {t d a r Ta Ra g wn : Nat} {n na nr nT nR ng nw : Nat} {es : List DictEntry} {rs : List (Addr × Obj)} {vs ps tv pv gv wv : List Value} {deed mm : Int} {dt wt mt : Nat} {word : Str}
  (hch : r < Ra ∧ Ra < d ∧ d < t ∧ t < a ∧ a < Ta ∧ Ta < g ∧ g < wn) (off : OwnOff rs [a, r, g, wn]) (D : DictIs es a) (hv : vs.length ≤ 1000) (hp : ps.length = vs.length) (hgv : gv.length ≤ 1000) (hwv : wv.length ≤ 1000)
  (htv : tv[(0 : Int).toNat]? = some (.ref t)) (hpv : pv[(0 : Int).toNat]? = some (.ref r))
  (F : Fr h₀ L s.heap m) (hm : ∀ p ∈ [(S "deed", Value.int deed dt), (S "m", .int mm mt), (S "word", .str word wt), (S "rows", .ref Ra), (S "things", .ref Ta), (S "got", .ref g), (S "want", .ref wn)], m p.1 = some p.2)
  (N : News h₀ L s.heap ((a, listOf vs.toArray na) :: (r, listOf ps.toArray nr) :: (g, listOf gv.toArray ng) :: (wn, listOf wv.toArray nw) :: (t, instObj 260 d) :: (d, dictOf es n) :: (Ta, listOf tv.toArray nT) :: (Ra, listOf pv.toArray nR) :: rs))
  (hQ : ∀ m' h' tk' vs' ps' na' nr' gv' wv' ng' nw', KeepsP m m' → Fr h₀ L h' m' → News h₀ L h' ((a, listOf vs'.toArray na') :: (r, listOf ps'.toArray nr') :: (g, listOf gv'.toArray ng') :: (wn, listOf wv'.toArray nw') :: (t, instObj 260 d) :: (d, dictOf es n) :: (Ta, listOf tv.toArray nT) :: (Ra, listOf pv.toArray nR) :: rs) →
    (vs' = vs ∧ ps' = ps ∧ gv' = gv ∧ wv' = wv ∨ (∃ (x : Str) (t1 t2 : Tok), gv' = gv ++ [.str x t1] ∧ wv' = wv ++ [.str x t2] ∧ PyData.strOk x = true ∧ (vs' = vs ∧ ps' = ps ∨ ∃ (i : Nat) (t1 t2 : Tok), i < vs.length ∧ vs' = vs.set i (.str word t1) ∧ ps' = ps.set i (.str word t2)))) → Q .next { s with heap := h', toks := tk' }) :
  wpAny (model PySem.Challenge.rw_dg5010_01.row.prog w) (callerA.deeper (envOf (Str.ofString "law") lawScope L fa cd)) (exec (turnAt 12) (envOf (Str.ofString "law") lawScope L fa cd)) Q (fun _ _ => False) s := by
  revert KX
  k_fill
  intro KX
  walk_at "my_expose"
  replace F := frK F _ hm
  have em := frE _ hm
  simp only [kstB] at F em
  have Dsf := D.sf
  have hm0 : 0 ≤ mm.fmod 4 := Int.fmod_nonneg_of_pos _ (by decide)
  have hm4 : mm.fmod 4 < 4 := Int.fmod_lt_of_pos _ (by decide)
  by_cases hlt : mm.fmod 4 < (vs.length : Int)
  · k_steps
    all_goals first
      | (rename Fr _ _ _ _ => F9
         rename News _ _ _ _ => N9
         exact hQ _ _ _ _ _ _ _ _ _ _ _ (by walk_at "my_keepsP") F9 N9 (.inl ⟨rfl, rfl, rfl, rfl⟩))
      | (rename Fr _ _ _ _ => F9
         rename News _ _ _ _ => N9
         have N8 := Mine.tl N9
         have hK := hQ _ _ tk _ _ _ _ _ _ _ _ (by walk_at "my_keepsP") F9 N8
         refine hK (.inr ⟨_, _, _, rfl, rfl, by decide +kernel, ?_⟩)
         first | exact .inl ⟨rfl, rfl⟩ | exact .inr ⟨_, _, _, by omega, rfl, rfl⟩)
  · k_steps
    all_goals first
      | (rename Fr _ _ _ _ => F9
         rename News _ _ _ _ => N9
         exact hQ _ _ _ _ _ _ _ _ _ _ _ (by walk_at "my_keepsP") F9 N9 (.inl ⟨rfl, rfl, rfl, rfl⟩))
      | (rename Fr _ _ _ _ => F9
         rename News _ _ _ _ => N9
         have N8 := Mine.tl N9
         have hK := hQ _ _ tk _ _ _ _ _ _ _ _ (by walk_at "my_keepsP") F9 N8
         refine hK (.inr ⟨_, _, _, rfl, rfl, by decide +kernel, ?_⟩)
         first | exact .inl ⟨rfl, rfl⟩ | exact .inr ⟨_, _, _, by omega, rfl, rfl⟩)
end Mine

end

/-! part Full -/
section
open PySem PySem.W PySem.Calls PyProof.Rows
namespace Mine
theorem strs_app {vs ws : List Value} {ys zs : List Str} (h : StrsAre vs ys) (k : StrsAre ws zs) : StrsAre (vs ++ ws) (ys ++ zs) := by
  induction h with
  | nil => exact k
  | cons y t _ ih => exact .cons y t ih
theorem strs_set {vs : List Value} {ys : List Str} (h : StrsAre vs ys) (x : Str) (t : Tok) : ∀ i : Nat, StrsAre (vs.set i (.str x t)) (ys.set i x) := by
  induction h with
  | nil => intro i; exact .nil
  | cons y t' h ih => intro i; cases i with
    | zero => exact .cons x t h
    | succ i => exact .cons y t' (ih i)
theorem strs_drop {vs : List Value} {ys : List Str} (h : StrsAre vs ys) : StrsAre vs.dropLast ys.dropLast := by
  induction h with
  | nil => exact .nil
  | cons y t h ih => cases h with
    | nil => exact .nil
    | cons y' t' h => exact .cons y t ih
theorem small_app {ys : List Str} {x : Str} (h : ∀ y ∈ ys, Small y) (hx : Small x) : ∀ y ∈ ys ++ [x], Small y := by
  intro y hy
  rcases List.mem_append.mp hy with hy | hy
  · exact h y hy
  · rw [List.mem_singleton.mp hy]; exact hx
theorem small_set {ys : List Str} {x : Str} {i : Nat} (h : ∀ y ∈ ys, Small y) (hx : Small x) : ∀ y ∈ ys.set i x, Small y := by
  intro y hy
  rcases List.mem_or_eq_of_mem_set hy with hy | rfl
  · exact h y hy
  · exact hx
theorem small_drop {ys : List Str} (h : ∀ y ∈ ys, Small y) : ∀ y ∈ ys.dropLast, Small y := fun y hy => h y (List.dropLast_subset _ hy)

def up2 (c : St) (a : Nat) (v : List Value × Nat) (r : Nat) (w : List Value × Nat) : St := fun b => if b = a then v else if b = r then w else c b
theorem up2_a {c : St} {a r : Nat} {v w} : up2 c a v r w a = v := if_pos rfl
theorem up2_r {c : St} {a r : Nat} {v w} (h : a ≠ r) : up2 c a v r w r = w := (if_neg (Ne.symm h)).trans (if_pos rfl)
theorem up2_o {c : St} {a r b : Nat} {v w} (h : b ≠ a) (h' : b ≠ r) : up2 c a v r w b = c b := (if_neg h).trans (if_neg h')

section
variable {x : Ad} {c : St} {i k : Nat} {M M0 : List (Addr × Obj)}
theorem Ad.Ok.ar (ok : x.Ok) {j k : Nat} (hj : j < 5) (hk : k < 5) : x.r k < x.a j := by
  have h1 := ok.ch j hj
  have h2 := ok.ch k hk
  omega
theorem InvR.up (ok : x.Ok) (hk : k < 5) (I : InvR x c i) {vs' ps' : List Value} {na' nr' : Nat} {zs : List Str} (h1 : StrsAre vs' zs) (h2 : StrsAre ps' zs) (h3 : zs.length ≤ 6 + (i + 1)) (h4 : ∀ y ∈ zs, Small y) :
    InvR x (up2 c (x.a k) (vs', na') (x.r k) (ps', nr')) (i + 1) := by
  have e0 := ok.ch k hk
  obtain ⟨ys, hys⟩ := I.rows
  refine ⟨⟨fun j => if j = k then zs else ys j, fun j hj => ?_⟩, fun j hj => ?_, ?_, ?_⟩
  · have e1 := ok.ch j hj
    by_cases hjk : j = k
    · subst hjk
      dsimp only
      rw [up2_a, up2_r (Nat.ne_of_gt (ok.ar hj hj)), if_pos rfl]
      exact ⟨h1, h2, h3, h4⟩
    · dsimp only
      rw [up2_o (ok.aa j k hj hk hjk) (Nat.ne_of_gt (ok.ar hj hk)), up2_o (Nat.ne_of_lt (ok.ar hk hj)) (ok.rr j k hj hk hjk), if_neg hjk]
      have q := hys j hj
      exact ⟨q.1, q.2.1, by omega, q.2.2.2⟩
  · have e1 := ok.hr j k hj hk
    rw [up2_o (by omega) (by omega)]
    have := I.hand j hj
    omega
  · rw [up2_o (by omega) (by omega)]
    have := I.got
    omega
  · rw [up2_o (by omega) (by omega)]
    have := I.want
    omega
theorem InvD.up (ok : x.Ok) (hk : k < 5) (J : InvD x c M0) {v w : List Value × Nat} : InvD x (up2 c (x.a k) v (x.r k) w) M0 := by
  have e0 := ok.ch k hk
  obtain ⟨ds, h1, h2, h3⟩ := J
  refine ⟨ds, ?_, ?_, h3⟩
  · rw [up2_o (by omega) (by omega)]; exact h1
  · rw [up2_o (by omega) (by omega)]; exact h2
theorem InvR.len (ok : x.Ok) (hk : k < 5) (I : InvR x c i) : (c (x.a k)).1.length ≤ 6 + i ∧ (c (x.r k)).1.length = (c (x.a k)).1.length := by
  obtain ⟨ys, hys⟩ := I.rows
  have q := hys k hk
  rw [q.1.len_eq, q.2.1.len_eq]
  exact ⟨q.2.2.1, rfl⟩
theorem InvR.more (I : InvR x c i) : InvR x c (i + 1) := by
  obtain ⟨ys, hys⟩ := I.rows
  refine ⟨⟨ys, fun j hj => ?_⟩, fun j hj => ?_, ?_, ?_⟩
  · have q := hys j hj
    exact ⟨q.1, q.2.1, by omega, q.2.2.2⟩
  · have := I.hand j hj; omega
  · have := I.got; omega
  · have := I.want; omega
end

section
variable {w : World} {mean : ExcName → Option Value} {mg mb : Str → Option Value} {L fa : Addr} {cd : Value} {h₀ : Heap} {Q : Flow → Shared → Prop} {E : Value → Shared → Prop} {s : Shared} {m : Str → Option Value}
  {x : Ad} {c : St} {i k : Nat} {M M0 : List (Addr × Obj)} {deed mm wv : Int} {dt wt mt : Nat} {word : Str}

theorem small_news (ok : x.Ok) (hk : k < 5) (hc : ∀ p ∈ x.cst, p ∈ M) {h : Heap} (N : News h₀ L h (x.led c ++ M)) :
    News h₀ L h ((x.a k, listOf (c (x.a k)).1.toArray (c (x.a k)).2) :: (x.r k, listOf (c (x.r k)).1.toArray (c (x.r k)).2) :: (x.t k, instObj (clsOf k) (x.d k)) :: (x.d k, dictOf (x.es k) (x.n k)) :: x.rem c M [x.a k, x.r k]) := by
  intro p hp
  refine N p ?_
  simp only [List.mem_cons] at hp
  rcases hp with rfl | rfl | rfl | rfl | hp
  · exact x.led_cell (x.a_mem hk)
  · exact x.led_cell (x.r_mem hk)
  · exact List.mem_append_right _ (hc _ (x.t_cst hk))
  · exact List.mem_append_right _ (hc _ (x.d_cst hk))
  · exact x.rem_sub p hp
theorem back_news (ok : x.Ok) (hk : k < 5) {h : Heap} {vs' ps' : List Value} {na' nr' : Nat} {p1 p2 : Addr × Obj} (N : News h₀ L h ((x.a k, listOf vs'.toArray na') :: (x.r k, listOf ps'.toArray nr') :: p1 :: p2 :: x.rem c M [x.a k, x.r k])) :
    News h₀ L h (x.led (up2 c (x.a k) (vs', na') (x.r k) (ps', nr')) ++ M) := by
  intro p hp
  refine N p (x.back [x.a k, x.r k] (fun b hb hbl => ?_) (fun b hb => ?_) (fun q hq => .tail _ (.tail _ (.tail _ (.tail _ hq)))) p hp)
  · simp only [List.mem_cons, List.not_mem_nil, or_false, not_or] at hbl
    exact up2_o hbl.1 hbl.2
  · simp only [List.mem_cons, List.not_mem_nil, or_false] at hb
    rcases hb with rfl | rfl
    · unfold cell; rw [up2_a]; exact .head _
    · unfold cell; rw [up2_r (Nat.ne_of_gt (ok.ar hk hk))]; exact .tail _ (.head _)

theorem full1 (KX : (hd.heap_39 w.params).In h₀) (T : Top hd.view_39 loosesW mean mg mb h₀) (K0 : Below callerA h₀ [] h₀) (ok : x.Ok) (hk : k < 5) (hM : OwnOff M x.adr) (hc : ∀ p ∈ x.cst, p ∈ M) (I : InvR x c i) (J : InvD x c M0) (hi : i ≤ 195) (hw : word ∈ wordsL)
  (F : Fr h₀ L s.heap m) (hm : ∀ p ∈ [(S "deed", Value.int deed dt), (S "word", .str word wt), (S "thing", .ref (x.t k)), (S "page", .ref (x.r k))], m p.1 = some p.2)
  (N : News h₀ L s.heap (x.led c ++ M))
  (hQ : ∀ m' h' tk' c', Keeps m m' → Fr h₀ L h' m' → News h₀ L h' (x.led c' ++ M) → InvR x c' (i + 1) → InvD x c' M0 → Q .next { s with heap := h', toks := tk' }) :
  wpAny (model PySem.Challenge.rw_dg5010_01.row.prog w) (callerA.deeper (envOf (Str.ofString "law") lawScope L fa cd)) (exec (turnAt 8) (envOf (Str.ofString "law") lawScope L fa cd)) Q E s := by
  have e0 := ok.ch k hk
  have e1 := InvR.len ok hk I
  obtain ⟨ys, hys⟩ := I.rows
  have q := hys k hk
  refine blk1s KX T K0 (by omega) (by omega) (by omega) (by omega) (by omega) (x.rem_off hM (by simp [x.a_mem hk, x.r_mem hk])) (ok.dict k hk).1 (clsOf_is k) (by omega) (by omega) F hm (small_news ok hk hc N) fun m' h' tk' vs' ps' na' nr' hk' F' N' hcase => ?_
  refine hQ m' h' tk' _ hk' F' (back_news ok hk N') ?_ (J.up ok hk)
  rcases hcase with ⟨rfl, rfl⟩ | ⟨t1, t2, rfl, rfl⟩
  · exact I.up ok hk q.1 q.2.1 (by omega) q.2.2.2
  · exact I.up ok hk (strs_app q.1 (.cons _ _ .nil)) (strs_app q.2.1 (.cons _ _ .nil)) (by simp; omega) (small_app q.2.2.2 (wordsL_small _ hw))

theorem full2 (KX : (hd.heap_39 w.params).In h₀) (T : Top hd.view_39 loosesW mean mg mb h₀) (K0 : Below callerA h₀ [] h₀) (ok : x.Ok) (hk : k < 5) (hM : OwnOff M x.adr) (hc : ∀ p ∈ x.cst, p ∈ M) (I : InvR x c i) (J : InvD x c M0) (hi : i ≤ 195) (hw : word ∈ wordsL)
  (F : Fr h₀ L s.heap m) (hm : ∀ p ∈ [(S "deed", Value.int deed dt), (S "word", .str word wt), (S "thing", .ref (x.t k)), (S "page", .ref (x.r k)), (S "m", .int mm mt)], m p.1 = some p.2)
  (N : News h₀ L s.heap (x.led c ++ M))
  (hQ : ∀ m' h' tk' c', Keeps m m' → Fr h₀ L h' m' → News h₀ L h' (x.led c' ++ M) → InvR x c' (i + 1) → InvD x c' M0 → Q .next { s with heap := h', toks := tk' }) :
  wpAny (model PySem.Challenge.rw_dg5010_01.row.prog w) (callerA.deeper (envOf (Str.ofString "law") lawScope L fa cd)) (exec (turnAt 9) (envOf (Str.ofString "law") lawScope L fa cd)) Q E s := by
  have e0 := ok.ch k hk
  have e1 := InvR.len ok hk I
  obtain ⟨ys, hys⟩ := I.rows
  have q := hys k hk
  refine blk2s KX T K0 (by omega) (by omega) (by omega) (by omega) (by omega) (x.rem_off hM (by simp [x.a_mem hk, x.r_mem hk])) (ok.dict k hk).1 (clsOf_is k) (by omega) (by omega) F hm (small_news ok hk hc N) fun m' h' tk' vs' ps' na' nr' hk' F' N' hcase => ?_
  refine hQ m' h' tk' _ hk' F' (back_news ok hk N') ?_ (J.up ok hk)
  rcases hcase with ⟨rfl, rfl⟩ | ⟨ix, t1, t2, hix, rfl, rfl⟩
  · exact I.up ok hk q.1 q.2.1 (by omega) q.2.2.2
  · exact I.up ok hk (strs_set q.1 _ _ _) (strs_set q.2.1 _ _ _) (by simp; omega) (small_set q.2.2.2 (wordsL_small _ hw))

theorem full3 (KX : (hd.heap_39 w.params).In h₀) (T : Top hd.view_39 loosesW mean mg mb h₀) (K0 : Below callerA h₀ [] h₀) (ok : x.Ok) (hk : k < 5) (hM : OwnOff M x.adr) (hc : ∀ p ∈ x.cst, p ∈ M) (I : InvR x c i) (J : InvD x c M0) (hi : i ≤ 195)
  (F : Fr h₀ L s.heap m) (hm : ∀ p ∈ [(S "deed", Value.int deed dt), (S "thing", .ref (x.t k)), (S "page", .ref (x.r k))], m p.1 = some p.2)
  (N : News h₀ L s.heap (x.led c ++ M))
  (hQ : ∀ m' h' tk' c', Keeps m m' → Fr h₀ L h' m' → News h₀ L h' (x.led c' ++ M) → InvR x c' (i + 1) → InvD x c' M0 → Q .next { s with heap := h', toks := tk' }) :
  wpAny (model PySem.Challenge.rw_dg5010_01.row.prog w) (callerA.deeper (envOf (Str.ofString "law") lawScope L fa cd)) (exec (turnAt 10) (envOf (Str.ofString "law") lawScope L fa cd)) Q E s := by
  have e0 := ok.ch k hk
  have e1 := InvR.len ok hk I
  obtain ⟨ys, hys⟩ := I.rows
  have q := hys k hk
  refine blk3s (mm := 0) (mt := 0) (wt := 0) (word := S "") KX T K0 (by omega) (by omega) (by omega) (by omega) (by omega) (x.rem_off hM (by simp [x.a_mem hk, x.r_mem hk])) (ok.dict k hk).1 (clsOf_is k) (by omega) (by omega) F hm (small_news ok hk hc N) fun m' h' tk' vs' ps' na' nr' hk' F' N' hcase => ?_
  refine hQ m' h' tk' _ hk' F' (back_news ok hk N') ?_ (J.up ok hk)
  rcases hcase with ⟨rfl, rfl⟩ | ⟨rfl, rfl⟩
  · exact I.up ok hk q.1 q.2.1 (by omega) q.2.2.2
  · exact I.up ok hk (strs_drop q.1) (strs_drop q.2.1) (by simp; omega) (small_drop q.2.2.2)
end
end Mine

end

/-! part Full2 -/
section
open PySem PySem.W PySem.Calls PyProof.Rows
namespace Mine
def up1 (c : St) (a : Nat) (v : List Value × Nat) : St := fun b => if b = a then v else c b
theorem up1_a {c : St} {a : Nat} {v} : up1 c a v a = v := if_pos rfl
theorem up1_o {c : St} {a b : Nat} {v} (h : b ≠ a) : up1 c a v b = c b := if_neg h
section
variable {x : Ad} {c : St} {i k : Nat} {M M0 : List (Addr × Obj)}
theorem InvR.hup (ok : x.Ok) {j : Nat} (hj : j < 3) (I : InvR x c i) {cs : List Value} {e : Nat} (hl : cs.length ≤ 6 + (i + 1)) : InvR x (up1 c (x.h j) (cs, e)) (i + 1) := by
  have e0 := ok.ch 0 (by omega)
  have e2 := ok.hr j 0 hj (by omega)
  obtain ⟨ys, hys⟩ := I.rows
  refine ⟨⟨ys, fun k hk => ?_⟩, fun j' hj' => ?_, ?_, ?_⟩
  · have q := hys k hk
    have e1 := ok.hr j k hj hk
    have e3 := ok.ch k hk
    rw [up1_o (by omega), up1_o (by omega)]
    exact ⟨q.1, q.2.1, by omega, q.2.2.2⟩
  · by_cases h : j' = j
    · subst h; rw [up1_a]; exact hl
    · rw [up1_o (ok.hh j' j hj' hj h)]; have := I.hand j' hj'; omega
  · rw [up1_o (by omega)]; have := I.got; omega
  · rw [up1_o (by omega)]; have := I.want; omega
theorem InvD.hup (ok : x.Ok) {j : Nat} (hj : j < 3) (J : InvD x c M0) {v : List Value × Nat} : InvD x (up1 c (x.h j) v) M0 := by
  have e0 := ok.ch 0 (by omega)
  have e2 := ok.hr j 0 hj (by omega)
  obtain ⟨ds, h1, h2, h3⟩ := J
  refine ⟨ds, ?_, ?_, h3⟩
  · rw [up1_o (by omega)]; exact h1
  · rw [up1_o (by omega)]; exact h2
theorem InvR.gup (ok : x.Ok) (I : InvR x c i) {gv wv : List Value} {ng nw : Nat} (h1 : gv.length ≤ 5 * (i + 1)) (h2 : wv.length ≤ 5 * (i + 1)) : InvR x (up2 c x.g (gv, ng) x.wn (wv, nw)) (i + 1) := by
  have e0 := ok.ch 0 (by omega)
  obtain ⟨ys, hys⟩ := I.rows
  refine ⟨⟨ys, fun k hk => ?_⟩, fun j' hj' => ?_, ?_, ?_⟩
  · have q := hys k hk
    have e3 := ok.ch k hk
    rw [up2_o (by omega) (by omega), up2_o (by omega) (by omega)]
    exact ⟨q.1, q.2.1, by omega, q.2.2.2⟩
  · have e1 := ok.hr j' 0 hj' (by omega)
    rw [up2_o (by omega) (by omega)]; have := I.hand j' hj'; omega
  · rw [up2_a]; exact h1
  · rw [up2_r (by omega)]; exact h2
theorem InvD.gup (ok : x.Ok) {gv wv : List Value} {ng nw : Nat} {ds : List Dat} (h1 : DatAll M0 gv ds) (h2 : DatAll M0 wv ds) (h3 : ∀ d ∈ ds, kqdOk 8 d = true) : InvD x (up2 c x.g (gv, ng) x.wn (wv, nw)) M0 := by
  have e0 := ok.ch 0 (by omega)
  refine ⟨ds, ?_, ?_, h3⟩
  · rw [up2_a]; exact h1
  · rw [up2_r (by omega)]; exact h2
end

section
variable {w : World} {mean : ExcName → Option Value} {mg mb : Str → Option Value} {L fa : Addr} {cd : Value} {h₀ : Heap} {Q : Flow → Shared → Prop} {E : Value → Shared → Prop} {s : Shared} {m : Str → Option Value}
  {x : Ad} {c : St} {i k : Nat} {M M0 : List (Addr × Obj)} {deed mm wv : Int} {dt wt mt : Nat} {word : Str}

theorem full0 (KX : (hd.heap_39 w.params).In h₀) (T : Top hd.view_39 loosesW mean mg mb h₀) (K0 : Below callerA h₀ [] h₀) (ok : x.Ok) (hk : k < 5) (hc : ∀ p ∈ x.cst, p ∈ M) (I : InvR x c i) (hi : i ≤ 195)
  (F : Fr h₀ L s.heap m) (hm : ∀ p ∈ [(S "deed", Value.int deed dt), (S "which", .int (k : Int) wt), (S "thing", .ref (x.t k))], m p.1 = some p.2)
  (N : News h₀ L s.heap (x.led c ++ M))
  (hQ : ∀ m' h' tk', Keeps m m' → Fr h₀ L h' m' → News h₀ L h' (x.led c ++ M) → Q .next { s with heap := h', toks := tk' }) :
  wpAny (model PySem.Challenge.rw_dg5010_01.row.prog w) (callerA.deeper (envOf (Str.ofString "law") lawScope L fa cd)) (exec (turnAt 7) (envOf (Str.ofString "law") lawScope L fa cd)) Q E s := by
  have e1 := InvR.len ok hk I
  refine blk0s KX T K0 (a := x.a k) (t := x.t k) (d := x.d k) (C := clsOf k) (n := x.n k) (na := (c (x.a k)).2) (rs := x.led c ++ M) (vs := (c (x.a k)).1) (ws := if k = 0 then (c (x.a k)).1.drop 4 else (c (x.a k)).1) (ok.dict k hk).1 (by omega) ?w ?l F hm ?n fun m' h' tk' hk' F' N' => hQ m' h' tk' hk' F' fun p hp => N' p (.tail _ (.tail _ (.tail _ hp)))
  case w =>
    intro h2
    by_cases h0 : k = 0
    · subst h0; rw [if_pos rfl]; exact .inl ⟨rfl, rfl⟩
    · have h1 : k = 1 := by omega
      subst h1; rw [if_neg (by decide)]; exact .inr ⟨rfl, rfl⟩
  case l =>
    by_cases h0 : k = 0
    · rw [if_pos h0, List.length_drop]; omega
    · rw [if_neg h0]; exact Nat.le_refl _
  case n =>
    intro p hp
    simp only [List.mem_cons] at hp
    rcases hp with rfl | rfl | rfl | hp
    · exact N _ (x.led_cell (x.a_mem hk))
    · exact N _ (List.mem_append_right _ (hc _ (x.t_cst hk)))
    · exact N _ (List.mem_append_right _ (hc _ (x.d_cst hk)))
    · exact N p hp

theorem hs_get (x : Ad) {k : Nat} (hk : k < 5) : x.hs[((k : Int).fmod 3).toNat]? = some (.ref (x.h (k % 3))) := by
  match k, hk with
  | 0, _ | 1, _ | 2, _ | 3, _ | 4, _ => rfl

theorem full4 (KX : (hd.heap_39 w.params).In h₀) (T : Top hd.view_39 loosesW mean mg mb h₀) (K0 : Below callerA h₀ [] h₀) (ok : x.Ok) (hk : k < 5) (hM : OwnOff M x.adr) (hc : ∀ p ∈ x.cst, p ∈ M) (I : InvR x c i) (J : InvD x c M0) (hi : i ≤ 195)
  (F : Fr h₀ L s.heap m) (hm : ∀ p ∈ [(S "deed", Value.int deed dt), (S "which", .int (k : Int) wt), (S "handed", .ref x.H)], m p.1 = some p.2)
  (N : News h₀ L s.heap (x.led c ++ M))
  (hQ : ∀ m' h' tk' c', Keeps m m' → Fr h₀ L h' m' → News h₀ L h' (x.led c' ++ M) → InvR x c' (i + 1) → InvD x c' M0 → Q .next { s with heap := h', toks := tk' }) :
  wpAny (model PySem.Challenge.rw_dg5010_01.row.prog w) (callerA.deeper (envOf (Str.ofString "law") lawScope L fa cd)) (exec (turnAt 11) (envOf (Str.ofString "law") lawScope L fa cd)) Q E s := by
  have hj : k % 3 < 3 := Nat.mod_lt _ (by omega)
  have hH : x.H ≠ x.h (k % 3) := ok.off _ x.H_cst _ (x.h_mem hj)
  have e1 := I.hand _ hj
  refine blk4s KX T K0 (H := x.H) (b := x.h (k % 3)) (hs := x.hs) (cs := (c (x.h (k % 3))).1) (e := (c (x.h (k % 3))).2) (n := x.nH) (rs := x.rem c M [x.h (k % 3)]) hH (x.rem_off hM (by simp [x.h_mem hj])) (by omega) (hs_get x hk) F hm ?n fun m' h' tk' cs' e' hk' F' N' hl => ?q
  case n =>
    intro p hp
    simp only [List.mem_cons] at hp
    rcases hp with rfl | rfl | hp
    · exact N _ (List.mem_append_right _ (hc _ x.H_cst))
    · exact N _ (x.led_cell (x.h_mem hj))
    · exact N p (x.rem_sub p hp)
  case q =>
    refine hQ m' h' tk' (up1 c (x.h (k % 3)) (cs', e')) hk' F' (fun p hp => N' p (x.back [x.h (k % 3)] (fun b hb hbl => up1_o (by simpa using hbl)) (fun b hb => ?_) (fun q hq => .tail _ (.tail _ hq)) p hp)) (I.hup ok hj (by omega)) (J.hup ok hj)
    rw [List.mem_singleton.mp hb]
    unfold cell
    dsimp only
    rw [up1_a]
    exact .tail _ (.head _)

theorem full5 (KX : (hd.heap_39 w.params).In h₀) (T : Top hd.view_39 loosesW mean mg mb h₀) (K0 : Below callerA h₀ [] h₀) (ok : x.Ok) (hM : OwnOff M x.adr) (hc : ∀ p ∈ x.cst, p ∈ M) (I : InvR x c i) (J : InvD x c M0) (hi : i ≤ 195) (hw : word ∈ wordsL)
  (F : Fr h₀ L s.heap m) (hm : ∀ p ∈ [(S "deed", Value.int deed dt), (S "m", .int mm mt), (S "word", .str word wt), (S "rows", .ref x.R), (S "things", .ref x.T), (S "got", .ref x.g), (S "want", .ref x.wn)], m p.1 = some p.2)
  (N : News h₀ L s.heap (x.led c ++ M))
  (hQ : ∀ m' h' tk' c', KeepsP m m' → Fr h₀ L h' m' → News h₀ L h' (x.led c' ++ M) → InvR x c' (i + 1 + 1) → InvD x c' M0 → Q .next { s with heap := h', toks := tk' }) :
  wpAny (model PySem.Challenge.rw_dg5010_01.row.prog w) (callerA.deeper (envOf (Str.ofString "law") lawScope L fa cd)) (exec (turnAt 12) (envOf (Str.ofString "law") lawScope L fa cd)) Q (fun _ _ => False) s := by
  have hk : 0 < 5 := by omega
  have e0 := ok.ch 0 hk
  have e1 := InvR.len ok hk I
  have e2 := I.got
  have e3 := I.want
  obtain ⟨ys, hys⟩ := I.rows
  have q := hys 0 hk
  refine blk5s KX T K0 (a := x.a 0) (r := x.r 0) (t := x.t 0) (d := x.d 0) (Ta := x.T) (Ra := x.R) (g := x.g) (wn := x.wn) (vs := (c (x.a 0)).1) (ps := (c (x.r 0)).1) (gv := (c x.g).1) (wv := (c x.wn).1) (na := (c (x.a 0)).2) (nr := (c (x.r 0)).2) (ng := (c x.g).2) (nw := (c x.wn).2) (tv := x.ts) (pv := x.rs) (nT := x.nT) (nR := x.nR) (n := x.n 0) (es := x.es 0)
    (rs := x.rem c M [x.a 0, x.r 0, x.g, x.wn]) e0 (x.rem_off hM (by simp [x.a_mem hk, x.r_mem hk, x.g_mem, x.w_mem])) (ok.dict 0 hk).1 (by omega) e1.2 (by omega) (by omega) rfl rfl F hm ?small fun m' h' tk' vs' ps' na' nr' gv' wv' ng' nw' hk' F' N' hcase => ?q
  case small =>
    intro p hp
    simp only [List.mem_cons] at hp
    rcases hp with rfl | rfl | rfl | rfl | rfl | rfl | rfl | rfl | hp
    · exact N _ (x.led_cell (x.a_mem hk))
    · exact N _ (x.led_cell (x.r_mem hk))
    · exact N _ (x.led_cell x.g_mem)
    · exact N _ (x.led_cell x.w_mem)
    · exact N _ (List.mem_append_right _ (hc _ (x.t_cst hk)))
    · exact N _ (List.mem_append_right _ (hc _ (x.d_cst hk)))
    · exact N _ (List.mem_append_right _ (hc _ x.T_cst))
    · exact N _ (List.mem_append_right _ (hc _ x.R_cst))
    · exact N p (x.rem_sub p hp)
  case q =>
    have gd : gv'.length ≤ 5 * (i + 1) ∧ wv'.length ≤ 5 * (i + 1) ∧ ∃ ds, DatAll M0 gv' ds ∧ DatAll M0 wv' ds ∧ ∀ d ∈ ds, kqdOk 8 d = true := by
      obtain ⟨ds, h1, h2, h3⟩ := J
      rcases hcase with ⟨_, _, rfl, rfl⟩ | ⟨z, t1, t2, rfl, rfl, hz, _⟩
      · exact ⟨by omega, by omega, ds, h1, h2, h3⟩
      · refine ⟨by simp; omega, by simp; omega, ds ++ [Dat.str z], h1.append (.one (.str z t1)), h2.append (.one (.str z t2)), fun d hd => ?_⟩
        rcases List.mem_append.mp hd with hd | hd
        · exact h3 d hd
        · rw [List.mem_singleton.mp hd]; exact hz
    have rd : ∃ zs, StrsAre vs' zs ∧ StrsAre ps' zs ∧ zs.length ≤ 6 + (i + 1 + 1) ∧ ∀ y ∈ zs, Small y := by
      have keep : ∃ zs, StrsAre (c (x.a 0)).1 zs ∧ StrsAre (c (x.r 0)).1 zs ∧ zs.length ≤ 6 + (i + 1 + 1) ∧ ∀ y ∈ zs, Small y := ⟨ys 0, q.1, q.2.1, by omega, q.2.2.2⟩
      rcases hcase with ⟨rfl, rfl, _, _⟩ | ⟨z, t1, t2, _, _, _, ⟨rfl, rfl⟩ | ⟨ix, u1, u2, hix, rfl, rfl⟩⟩
      · exact keep
      · exact keep
      · exact ⟨(ys 0).set ix word, strs_set q.1 _ _ _, strs_set q.2.1 _ _ _, by simp; omega, small_set q.2.2.2 (wordsL_small _ hw)⟩
    obtain ⟨g1, g2, ds, g3, g4, g5⟩ := gd
    obtain ⟨zs, r1, r2, r3, r4⟩ := rd
    refine hQ m' h' tk' (up2 (up2 c x.g (gv', ng') x.wn (wv', nw')) (x.a 0) (vs', na') (x.r 0) (ps', nr')) hk' F' (fun p hp => N' p (x.back [x.a 0, x.r 0, x.g, x.wn] (fun b hb hbl => ?_) (fun b hb => ?_) (fun q hq => .tail _ (.tail _ (.tail _ (.tail _ (.tail _ (.tail _ (.tail _ (.tail _ hq)))))))) p hp))
      ((I.gup ok g1 g2).up ok hk r1 r2 r3 r4) (InvD.up ok hk (InvD.gup ok g3 g4 g5))
    · simp only [List.mem_cons, List.not_mem_nil, or_false, not_or] at hbl
      rw [up2_o hbl.1 hbl.2.1, up2_o hbl.2.2.1 hbl.2.2.2]
    · simp only [List.mem_cons, List.not_mem_nil, or_false] at hb
      unfold cell
      rcases hb with rfl | rfl | rfl | rfl
      · rw [up2_a]; exact .head _
      · rw [up2_r (by omega)]; exact .tail _ (.head _)
      · rw [up2_o (by omega) (by omega), up2_a]; exact .tail _ (.tail _ (.head _))
      · rw [up2_o (by omega) (by omega), up2_r (by omega)]; exact .tail _ (.tail _ (.tail _ (.head _)))
end
end Mine

end

/-! part Low -/
section
open PySem PySem.W PySem.Calls PyProof.Rows
namespace Mine
theorem low_sjoin {sep : Str} (hs : Low sep) : ∀ ys : List Str, (∀ y ∈ ys, Low y) → Low (Str.join sep ys)
  | [], _ => by intro c hc; simp [Str.join, Str.empty] at hc
  | [x], h => h x (.head _)
  | x :: y :: r, h => by
    show Low (x ++ sep ++ Str.join sep (y :: r))
    exact low_app (low_app (h x (.head _)) hs) (low_sjoin hs (y :: r) fun z hz => h z (.tail _ hz))
theorem low_join {ys : List Str} (h : ∀ y ∈ ys, Small y) : Low (Txt.join (Str.ofString ",") ys) := by
  show Low (Builtin.Str.glued (Str.ofString ",") ys)
  rw [StrLaws.glued_eq_join]
  exact low_sjoin (by unfold Low; decide +kernel) ys fun y hy => (h y hy).2
theorem low_head (k : Nat) (hk : k < 5) : Low (headS k) := by
  match k, hk with
  | 0, _ | 1, _ | 2, _ | 3, _ | 4, _ => unfold Low; decide +kernel
theorem low_plain {k : Nat} (hk : k < 5) {ys : List Str} (h : ∀ y ∈ ys, Small y) : Low (plainS k ys) := low_app (low_head k hk) (low_join h)
theorem low_ok {x : Str} (h : Low x) : PyData.strOk x = true := by
  unfold PyData.strOk
  rw [Array.all_eq_true_iff_forall_mem]
  intro c hc
  have := h c (by simpa using hc)
  simp only [decide_eq_true_eq]
  omega
theorem strs_ok {ys : List Str} (h : ∀ y ∈ ys, Small y) (n : Nat) : kqdOk (n + 1) (.list (ys.map Dat.str)) = true := by
  show (ys.map Dat.str).all (kqdOk n) = true
  rw [List.all_eq_true]
  intro d hd
  obtain ⟨y, hy, rfl⟩ := List.mem_map.mp hd
  have := low_ok (h y hy).2
  cases n <;> exact this
theorem row_ok {k : Nat} (hk : k < 5) {ys : List Str} (h : ∀ y ∈ ys, Small y) : kqdOk 8 (rowDat k ys) = true := by
  show ([Dat.list (ys.map Dat.str), toldDat ys k, Dat.str (plainS k ys)]).all (kqdOk 7) = true
  rw [List.all_eq_true]
  intro d hd
  simp only [List.mem_cons, List.not_mem_nil, or_false] at hd
  rcases hd with rfl | rfl | rfl
  · exact strs_ok h 6
  · match k, hk with
    | 0, _ => exact strs_ok (fun y hy => h y (List.mem_of_mem_drop hy)) 6
    | 1, _ => exact strs_ok h 6
    | 2, _ | 3, _ | 4, _ => exact low_ok (by unfold Low; decide +kernel)
  · exact low_ok (low_plain hk h)
theorem sum_small {ys : List Str} (h : ∀ y ∈ ys, Small y) : (ys.map (·.length)).sum ≤ 3 * ys.length := by
  induction ys with
  | nil => exact Nat.le_refl _
  | cons y ys ih =>
    have := ih fun z hz => h z (.tail _ hz)
    have := (h y (.head _)).1
    simp only [List.map_cons, List.sum_cons, List.length_cons]
    omega
end Mine

end

/-! part Sum -/
section
open PySem PySem.W PySem.Calls PyProof.Rows
namespace Mine
theorem codes_xor (x : Str) : (KStt.codes x).foldl Builtin.bitXor 0 = xorOf x := by
  rw [← xor_signs_all]
  unfold KStt.codes signs
  rw [List.foldl_map, List.foldl_map]
  rfl
theorem hex_char : ∀ n : Nat, n < 16 → Txt.item (Str.ofString "0123456789ABCDEF") (n : Int) = ⟨#[hexDig n]⟩ := by decide +kernel
theorem hex_item {prog : Program} {w : World} {A : Around} {E : Value → Shared → Prop} {s : Shared} {k : Int} {t u : Tok} {Q : Value → Shared → Prop} {value slice : PySem.Expr} (h0 : 0 ≤ k) (h1 : k < 16)
    (h : ∀ t' tk, Q (.str ⟨#[hexDig k.toNat]⟩ t') { s with toks := tk })
    (hs : subscripted slice false (.str (Str.ofString "0123456789ABCDEF") t) (.int k u) = operate [.str (Str.ofString "0123456789ABCDEF") t, .int k u] (getItem (.str (Str.ofString "0123456789ABCDEF") t) (.int k u)) := by with_unfolding_all rfl)
    (ht : ∀ r, letTemporaryGo value (.str (Str.ofString "0123456789ABCDEF") t) r = pure () := by intro _; with_unfolding_all rfl) :
    wpAny (model prog w) A (subscriptTail value slice (.str (Str.ofString "0123456789ABCDEF") t) (.int k u)) Q E s := by
  obtain ⟨n, rfl⟩ := Int.eq_ofNat_of_zero_le h0
  have hl : (Str.ofString "0123456789ABCDEF").length = 16 := by decide +kernel
  refine item_str (fitsSsize_of (N := 9223372036854775808) (by omega) (by omega) (Int.le_refl _)) (by rw [hl]; omega) (by rw [hl]; omega) (fun _ => ?_) hs ht
  rw [hex_char n (by omega)]
  exact h _ _
theorem hex_hi {x : Str} (hx : Low x) : 0 ≤ ((KStt.codes x).foldl Builtin.bitXor 0).fdiv 16 ∧ ((KStt.codes x).foldl Builtin.bitXor 0).fdiv 16 < 16 := by
  rw [codes_xor, fdiv_eq]
  · have := xor_low hx
    omega
  · decide
theorem hex_lo (v : Int) : 0 ≤ v.fmod 16 ∧ v.fmod 16 < 16 := ⟨Int.fmod_nonneg_of_pos _ (by decide), Int.fmod_lt_of_pos _ (by decide)⟩
theorem hex_whole {x : Str} (hx : Low x) : (⟨#[hexDig (((KStt.codes x).foldl Builtin.bitXor 0).fdiv 16).toNat]⟩ : Str) ++ ⟨#[hexDig (((KStt.codes x).foldl Builtin.bitXor 0).fmod 16).toNat]⟩ = hexOf (xorOf x).toNat := by
  rw [codes_xor]
  obtain ⟨h0, h1⟩ := xor_low hx
  obtain ⟨n, e⟩ := Int.eq_ofNat_of_zero_le h0
  rw [e]
  have a : ((n : Int).fdiv 16).toNat = n / 16 := by rw [Int.fdiv_eq_ediv_of_nonneg _ (by decide)]; omega
  have b : ((n : Int).fmod 16).toNat = n % 16 := by rw [Int.fmod_eq_emod_of_nonneg _ (by decide)]; omega
  rw [a, b]
  rfl
local macro_rules | `(tactic| walk_at "subscriptTail Name BinOp str int") => `(tactic| (k_here; (with_reducible show wpAny _ _ (subscriptTail _ _ (Value.str (PySem.Str.ofString "0123456789ABCDEF") _) (Value.int _ _)) _ _ _); (try (with_reducible rename _ = List.foldl Builtin.bitXor 0 _ => kI9; subst kI9)); k_dflt (refine' Mine.hex_item ?a ?b ?_; (case a => first | exact (Mine.hex_lo _).1 | exact (Mine.hex_hi (by assumption)).1); (case b => first | exact (Mine.hex_lo _).2 | exact (Mine.hex_hi (by assumption)).2); k_whole); intro t9 k9))
theorem sum_k {w : World} {mean : ExcName → Option Value} {mg mb : Str → Option Value} {L fa : Addr} {cd : Value} {h₀ : Heap} (KX : (hd.heap_39 w.params).In h₀) (T : Top hd.view_39 loosesW mean mg mb h₀) (K0 : Below callerA h₀ [] h₀)
  {Q E : Value → Shared → Prop} {s : Shared} {m : Str → Option Value} {news : List (Addr × Obj)} {x : Str} {t : Tok} (hx : Low x) (hl : x.length ≤ 40000) (F : Fr h₀ L s.heap m) (N : News h₀ L s.heap news)
  (hQ : ∀ h' tk t', Fr h₀ L h' m → News h₀ L h' news → Q (.str (hexOf (xorOf x).toNat) t') { s with heap := h', toks := tk }) :
  wpAny (model PySem.Challenge.rw_dg5010_01.row.prog w) (callerA.deeper (envOf (Str.ofString "law") lawScope L fa cd)) (call (.ref 293) [.str x t]) Q E s := by
  revert KX
  k_fill
  intro KX
  have e1 := (rfl : lawScope = lawScope)
  conv at e1 => rhs; whnf
  dsimp only at e1
  rw [e1]
  clear e1
  k_with "pyIter str" => k_state (fun pre a => a = pre.foldl Builtin.bitXor 0) "total"
  k_steps
  rw [hex_whole hx]
  rename Fr _ _ _ _ => F9
  rename News _ _ _ _ => N9
  exact hQ _ _ _ F9 N9
end Mine

end

/-! part FinD -/
section
open PySem PySem.W PySem.Calls PyProof.Rows
namespace Mine
noncomputable def finBody : List Stmt := bodyOf (lawAt 7)
/-- the text of the k-th thing laid out whole -/
def finS (k : Nat) (ys : List Str) : Str := Str.ofString "$" ++ (plainS k ys ++ (Str.ofString "*" ++ hexOf (xorOf (plainS k ys)).toNat))
theorem fin_got {k : Nat} {ys : List Str} {i : Str} (h : i = headS k) : Str.ofString "$" ++ ((i ++ Txt.join (Str.ofString ",") ys) ++ (Str.ofString "*" ++ hexOf (xorOf (i ++ Txt.join (Str.ofString ",") ys)).toNat)) = finS k ys := by
  subst h
  rfl
theorem app_assoc (x y z : Str) : (x ++ y) ++ z = x ++ (y ++ z) := by
  have e : ((x ++ y) ++ z).cps = (x ++ (y ++ z)).cps := by
    simp only [Str.cps_append, Array.append_assoc]
  exact congrArg Str.mk e
theorem fin_want {k : Nat} {ys : List Str} {i : Str} (h : i = headS k) : ((Str.ofString "$" ++ (i ++ Txt.join (Str.ofString ",") ys)) ++ Str.ofString "*") ++ hexOf (xorOf (i ++ Txt.join (Str.ofString ",") ys)).toNat = finS k ys := by
  subst h
  rw [app_assoc, app_assoc]
  rfl
theorem fin_low {k : Nat} (hk : k < 5) {ys : List Str} (h : ∀ y ∈ ys, Small y) : Low (finS k ys) := by
  refine low_app (by unfold Low; decide +kernel) (low_app (low_plain hk h) (low_app (by unfold Low; decide +kernel) ?_))
  obtain ⟨h0, h1⟩ := xor_low (low_plain hk h)
  have q : ∀ n, n < 128 → Low (hexOf n) := by unfold Low; decide +kernel
  exact q _ (by omega)
end Mine

end

/-! part Lbase -/
section
open PySem PySem.W PySem.Calls PyProof.Rows
local macro_rules | `(tactic| walk_at "getAttr ref") => `(tactic| (k_here; k_dflt (first
  | (refine' Mine.own_h ?k1 ?k2 ?k3 ?k4 ?k5 ?k6 ?k7 ?k8 ?k9 ?_; (case k1 => k_asm); (case k2 => k_asm); (case k3 => k_inst); (case k4 => k_is); (case k5 => k_is); (case k6 => k_is); (case k7 => k_is); (case k8 => first | assumption | k_get); (case k9 => k_handed); k_whole)
  | (refine' Mine.prop_h ?k1 ?k2 ?k3 ?k4 ?k10 ?k5 ?k6 ?k7 ?k8 ?k9 ?_; (case k1 => k_asm); (case k2 => k_asm); (case k3 => k_inst); (case k4 => k_is); (case k10 => k_is); (case k5 => k_is); (case k6 => k_is); (case k7 => k_is); (case k8 => k_is); (case k9 => k_is); k_whole; k_enter)
  | (refine' Mine.bound_h ?k1 ?k2 ?k3 ?k4 ?k5 ?k10 ?k6 ?k7 ?k8 ?k9 ?k11 ?k12 ?k13 ?_; (case k4 => k_inst); (case k1 => k_asm); (case k2 => k_asm); (case k7 => k_is); (case k3 => k_asm); (case k5 => k_is); (case k10 => k_is); (case k6 => k_is); (case k8 => k_is); (case k9 => k_is); (case k11 => k_is); (case k12 => decide +kernel); (case k13 => first | assumption | k_get); k_whole; intro q' h' F' N' l1; (try k_lt l1); (try k_sweep)))))
local macro_rules | `(tactic| walk_at "getMethod ref") => `(tactic| (k_here; k_dflt (refine' Mine.method_h ?k1 ?k2 ?k3 ?k4 ?k5 ?_; (case k1 => k_asm); (case k2 => k_asm); (case k3 => k_inst); (case k4 => k_is); (case k5 => k_is); k_whole)))
local macro_rules | `(tactic| size_fits) => `(tactic| first | ((try simp only [List.size_toArray, Array.size_push, List.push_toArray, List.length_append, List.length_cons, List.length_nil]); (simp only [PySem.sizeLine_eq]); omega) | fail "size_fits: mine")
local macro_rules | `(tactic| walk_at "my_keeps") => `(tactic| (intro z hz; (obtain ⟨i1, i2, i3, i4, i5, i6⟩ := Mine.idle_ne hz); first | rfl | ((refine Eq.trans ?_ (congrFun (by assumption : (_ : Str → Option Value) = _) z)); (try simp only [i1, i2, i3, i4, i5, i6, if_false]); done)))
local macro_rules | `(tactic| walk_at "my_expose") => `(tactic| ((have e1 := (rfl : Mine.lawScope = Mine.lawScope)); (conv at e1 => rhs; whnf); (dsimp only at e1); (conv in (Mine.turnAt _) => whnf); (rw [e1]); clear e1))
local macro_rules | `(tactic| walk_at "my_lt") => `(tactic| first | assumption | exact Mine.allLt_to (by assumption) | (refine List.forall_mem_cons.mpr ⟨by (dsimp only; omega), ?_⟩; walk_at "my_lt"))
local macro_rules | `(tactic| walk_at "my_keepsP") => `(tactic| (intro z hz hp9; (obtain ⟨i1, i2, i3, i4, i5, i6⟩ := Mine.idle_ne hz); first | rfl | ((refine Eq.trans ?_ (congrFun (by assumption : (_ : Str → Option Value) = _) z)); (try simp only [i1, i2, i3, i4, i5, i6, hp9, if_false]); done)))
local macro_rules | `(tactic| walk_at "getAttr ref") => `(tactic| (k_here; (with_reducible show wpAny _ _ (getAttr (Value.ref _) (PySem.Str.ofString "data") _) _ _ _); k_dflt (refine' Mine.data_get ?k1 ?k2 ?k3 ?k4 ?k5 ?k6 ?k7 ?_; (case k1 => k_asm); (case k2 => k_asm); (case k3 => k_asm); (case k4 => k_mem); (case k5 => k_mem); (case k6 => k_asm); (case k7 => first | assumption | (unfold Mine.IsCls; decide)); k_whole)))
local macro_rules | `(tactic| walk_at "my_len") => `(tactic| first | omega | ((try simp only [List.length_append, List.length_cons, List.length_nil, List.length_set, List.length_dropLast, List.length_drop]); omega))
local macro_rules | `(tactic| walk_at "call builtin:len") => `(tactic| (k_here; (with_reducible show wpAny _ _ (call (Value.builtin "len") [Value.ref _]) _ _ _); k_dflt (refine' Mine.len_n ?a ?b ?c ?_; (case a => k_asm); (case b => k_mem); (case c => walk_at "my_len"); k_whole)))
local macro_rules | `(tactic| walk_at "call builtin:list.append") => `(tactic| (k_here; (with_reducible show wpAny _ _ (call (Value.builtin _) [Value.ref _, _]) _ _ _); k_dflt (refine' Mine.append_n ?a ?b ?c ?d ?_; (case a => k_asm); (case b => k_asm); (case c => k_upd); (case d => walk_at "my_len"); k_whole); intro h' F' N'; (try k_sweep)))
local macro_rules | `(tactic| walk_at "call builtin:list.pop") => `(tactic| (k_here; (with_reducible show wpAny _ _ (call (Value.builtin _) [Value.ref _]) _ _ _); k_dflt (refine' Mine.pop_n ?a ?b ?c ?d ?e ?_; (case a => k_asm); (case b => k_asm); (case c => k_upd); (case d => walk_at "my_len"); (case e => walk_at "my_len"); k_whole); intro h' y' F' N'; (try k_sweep)))
local macro_rules | `(tactic| walk_at "setItem ref int") => `(tactic| (k_here; (with_reducible show wpAny _ _ (setItem (Value.ref _) (Value.int _ _) _) _ _ _); k_dflt (refine' Mine.set_n ?a ?b ?c ?d ?e ?f ?_; (case a => k_asm); (case b => k_asm); (case c => k_upd); (case d => first | omega | exact Int.fmod_nonneg_of_pos _ (by omega)); (case e => first | (refine Int.lt_of_lt_of_le (Int.fmod_lt_of_pos _ (by omega)) ?_; walk_at "my_len") | walk_at "my_len"); (case f => walk_at "my_len"); k_whole); intro h' F' N'; (try k_sweep)))
local macro_rules | `(tactic| walk_at "subscriptTail Name Slice ref ref") => `(tactic| (k_here; (with_reducible show wpAny _ _ (subscriptTail _ (PySem.Expr.Slice _ _ none _) (Value.ref _) (Value.ref _)) _ _ _); k_dflt (refine' kms_slice_lit ?F ?N ?l ?p ?q ?e ?_ ?s ?t ?z; (case F => k_asm); (case N => k_asm); (case l => exact PyProof.Rows.News.isList (by k_asm) (by k_mem)); (case p => kmk_part); (case q => kmk_part); (case e => first | exact Mine.pick_from _ | exact Mine.pick_all _); (case s => with_unfolding_all rfl); (case t => kmk_pure); (case z => ((simp only [List.size_toArray, PySem.sizeLine_eq]); omega))); intro D' h' F' N' l1; (try k_lt l1); (try dsimp only at F' N'); (try dsimp only); (try k_sweep)))
local macro_rules | `(tactic| walk_at "subscriptTail") => `(tactic| (k_here; (with_reducible show wpAny _ _ (subscriptTail _ _ (Value.ref _) (Value.int _ _)) _ _ _); k_dflt (refine' Mine.item_n ?a ?b ?c ?d ?e ?_; (case a => k_asm); (case b => k_mem); (case e => first | assumption | with_unfolding_all assumption); (case c => first | omega | exact Int.fmod_nonneg_of_pos _ (by omega)); (case d => first | omega | (refine Int.lt_trans (Int.fmod_lt_of_pos _ (by omega)) ?_; omega)); k_whole)))
local macro_rules | `(tactic| walk_at "subscriptTail Name Name ref int") => `(tactic| (k_here; (with_reducible show wpAny _ _ (subscriptTail _ _ (Value.ref _) (Value.int _ _)) _ _ _); k_dflt (refine' Mine.item_n ?a ?b ?c ?d ?e ?_; (case a => k_asm); (case b => k_mem); (case e => first | assumption | with_unfolding_all assumption); (case c => first | omega | exact Int.fmod_nonneg_of_pos _ (by omega)); (case d => first | omega | (refine Int.lt_trans (Int.fmod_lt_of_pos _ (by omega)) ?_; omega)); k_whole)))
local macro_rules | `(tactic| walk_at "getAttr ref") => `(tactic| (k_here; (with_reducible show wpAny _ _ (getAttr (Value.ref _) (PySem.Str.ofString "waypoint_list") _) _ _ _); k_dflt (refine' Mine.wl_get ?k1 ?k2 ?B ?F ?N ?hk ?hd ?t ?d ?a ?D ?v ?w ?_; (case k1 => k_asm); (case k2 => k_asm); (case B => k_asm); (case F => k_asm); (case N => k_asm); (case hk => first | rfl | assumption); (case hd => first | decide | omega | ktr_room); (case t => k_mem); (case d => k_mem); (case D => k_asm); (case a => k_mem); (case v => walk_at "my_len"); (case w => assumption)); intro D' h' tk' F' N' l1; (try k_lt l1); (try dsimp only at F' N'); (try dsimp only); (try k_sweep)))
local macro_rules | `(tactic| walk_at "eval DictComp") => `(tactic| (k_here; with_unfolding_all refine' Mine.dictcomp_k ?a ?b ?c ?d ?e ?_; (case a => with_unfolding_all rfl); (case b => with_unfolding_all rfl); (case c => decide); (case d => (intro _; rfl)); (case e => rfl); (try dsimp only)))
local macro_rules | `(tactic| walk_at "call type:enumerate") => `(tactic| (k_here; (first
  | ((with_reducible show wpAny _ _ (call (Value.type "enumerate") [Value.ref 249]) _ _ _); (with_unfolding_all refine' Mine.comp_call (names := Mine.namesL) ?hh ?F ?N (Mine.fields_rte ?K).1 ?l ?z Mine.namesL_nodup (Mine.fields_rte ?K).2 ?c ?k ?f ?g ?n ?o ?p ?_))
  | ((with_reducible show wpAny _ _ (call (Value.type "enumerate") [Value.ref 99]) _ _ _); (with_unfolding_all refine' Mine.comp_call (names := []) ?hh ?F ?N (Mine.fields_base ?K).1 ?l ?z List.nodup_nil (Mine.fields_base ?K).2 ?c ?k ?f ?g ?n ?o ?p ?_))); (case K => k_asm); (case F => k_asm); (case N => k_asm); (case hh => with_unfolding_all rfl); (case l => rfl); (case z => decide); (case c => decide); (case k => rfl); (case f => with_unfolding_all rfl); (case g => with_unfolding_all rfl); (case n => decide); (case o => decide); (case p => decide); intro D' kvs' h' tk' hlt' F' N' hd' hkv'; (try k_sweep)))
local macro_rules | `(tactic| walk_at "subscriptTail") => `(tactic| (k_here; (with_reducible show wpAny _ _ (subscriptTail _ _ (Value.ref _) (Value.str _ _)) _ _ _); (rename Mine.Kvs _ _ => hkv9); (rename Heap.DictOf _ _ _ _ => hd9); (obtain ⟨t9, hv9⟩ := Mine.Kvs.valueAt hkv9 Mine.namesL_nodup (by assumption)); k_dflt (refine' Mine.item_kvs hd9 hv9 ?_; k_whole); clear hv9 hkv9 hd9))
local macro_rules | `(tactic| walk_at "setItem ref int") => `(tactic| (k_here; (with_reducible show wpAny _ _ (setItem (Value.ref _) (Value.int _ _) _) _ _ _); k_dflt (refine' Mine.setItem_oob ?a ?b ?c ?d ?e ?_; (case a => with_unfolding_all rfl); (case b => exact PyProof.Rows.News.isList (by k_asm) (by k_mem)); (case c => omega); (case d => omega); (case e => ((simp only [List.size_toArray]); omega)); k_whole); intro h' tk' e' hexc'))
local macro_rules | `(tactic| walk_at "call builtin:str.join") => `(tactic| (k_here; (with_reducible show wpAny _ _ (call (Value.builtin _) [Value.str _ _, Value.ref _]) _ _ _); k_dflt (refine' Mine.join_n ?a ?b ?c ?d ?e ?_; (case a => k_asm); (case b => k_mem); (case c => assumption); (case d => decide); (case e => assumption); k_whole); intro t9 k9))
local macro_rules | `(tactic| walk_at "binaryOp Add str str") => `(tactic| (k_here; (with_reducible show wpAny _ _ (binaryOp Operator.Add (Value.str _ _) (Value.str _ _)) _ _ _); k_dflt (refine' Mine.add_n ?a ?b ?_; (case a => decide +kernel); (case b => assumption); k_whole); intro t9 k9))
local macro_rules | `(tactic| walk_at "subscriptTail Name Name ref int") => `(tactic| (k_here; (with_reducible show wpAny _ _ (subscriptTail _ _ (Value.ref 284) (Value.int _ _)) _ _ _); k_dflt (refine' Mine.head_get ?a ?b ?c ?d ?_; (case a => k_asm); (case b => k_asm); (case c => decide); (case d => decide); k_whole); intro t9))
local macro_rules | `(tactic| walk_at "call ref") => `(tactic| (k_here; (with_reducible show wpAny _ _ (call (Value.ref 314) _) _ _ _); k_dflt (refine wpAny_call ?_; kts_go)))
local macro_rules | `(tactic| walk_at "exec Raise some none") => `(tactic| (k_here; (with_reducible show wpAny _ _ (exec (Stmt.Raise (some (Expr.Name ("NotImplementedError" : Str) _)) none _) _) _ _ _); (with_reducible rename Fr _ _ _ _ => kF); k_dflt (refine' Raise_classB ?hh excClass_NotImplementedError ?hself ?hx ?_; (case hh => rfl); (case hself => (rw [isSubtype_type]; kernel_rfl)); (case hx => (refine' name_B kF ?k1 ?k2 ?k3 ?k4 ?k5 ?_; (case k1 => k_asm); (case k2 => k_asm); (case k3 => k_is); (case k4 => boot_by_name); (case k5 => decide); exact ⟨rfl, rfl⟩))); intro h' e' hexc'))
local macro_rules | `(tactic| walk_at "exec For Name Call cons nil") => `(tactic| (k_here; (with_reducible show wpAny _ _ (exec (Stmt.For (Expr.Name ("way" : Str) _) _ _ _ _) _) _ _ _); (with_unfolding_all refine' Mine.for_K (n := 3) (b := 3) ?F ?N ?B ?X ?T ?D ?k1 ?k2 ?k3 ?k4 ?k5 ?_; (case F => k_asm); (case N => k_asm); (case B => k_asm); (case X => assumption); (case T => assumption); (case D => assumption); (case k1 => rfl); (case k2 => rfl); (case k3 => rfl); (case k4 => decide); (case k5 => rfl))))
local macro_rules | `(tactic| walk_at "RangeMade") => `(tactic| (refine' ⟨_, _, _, _, rfl, ?a, ?b, ?c, ?_⟩; (case a => assumption); (case b => k_asm); (case c => k_asm); intro I' h' l1; (try k_lt l1)))
local macro_rules | `(tactic| walk_at "RestT") => `(tactic| ((with_unfolding_all first | (refine Mine.RestT.succ ?_; intro g' t' h' tk' hC' F' N') | (refine Mine.RestT.zero ?_; intro g' h' tk' hC' F' N')); (obtain ⟨kT', kB', kX', kP', kD'⟩ := hC'); (try dsimp only)))
local macro_rules | `(tactic| walk_at "TurnEnd") => `(tactic| (k_dflt (refine' Mine.turn_end (o1 := instObj 155 _) (o2 := dictOf [] 0) (o3 := listOf _ _) ?F ?N ?T ?B ?X ?P ?D ?m1 ?m2 ?m3 ?mn ?hI ?hn ?_; (case F => k_asm); (case N => k_asm); (case T => first | assumption | exact KtsTurn.refl); (case B => assumption); (case X => assumption); (case P => assumption); (case D => assumption); (case m1 => k_mem); (case m2 => k_mem); (case m3 => k_mem); (case hn => assumption); (case mn => (intro p9 hp9; (repeat (first | exact hp9 | refine List.Mem.tail _ ?_)))); (case hI => k_mem); k_whole)))
local macro_rules | `(tactic| walk_at "subscriptTail Name Name ref str") => `(tactic| (k_here; (with_reducible show wpAny _ _ (subscriptTail _ _ (Value.ref _) (Value.str _ _)) _ _ _); (rename Mine.Kvs [] _ => hkv9); k_dflt (refine' Mine.item_miss (ft := 99) ?a hkv9 ?c ?d ?e ?_; (case a => assumption); (case c => assumption); (case d => decide); (case e => with_unfolding_all rfl); k_whole); intro h' e' hexc'; clear hkv9))
local macro_rules | `(tactic| walk_at "getAttr ref") => `(tactic| (k_here; (with_reducible show wpAny _ _ (getAttr (Value.ref _) ("data" : Str) _) _ _ _); k_dflt (refine' Mine.miss_h (C := 155) (f := 125) ?k1 ?k2 ?k3 ?k4 ?k5 ?k6 ?k7 ?_; (case k3 => k_inst); (case k1 => k_asm); (case k2 => k_asm); (case k4 => k_is); (case k5 => (refine Mine.findObj_none ?h1 ?h2 ?h3 ?h4; (case h1 => k_is); (case h2 => k_is); (case h3 => decide +kernel); (case h4 => rfl))); (case k6 => k_is); (case k7 => k_is); k_whole)))
local macro_rules | `(tactic| walk_at "my_low") => `(tactic| first | (with_reducible assumption) | (with_reducible refine Mine.low_app ?_ ?_ <;> walk_at "my_low") | (unfold Mine.Low; decide +kernel))
local macro_rules | `(tactic| walk_at "my_slen") => `(tactic| with_reducible first | assumption | exact Mine.hex_len _ | (refine' Mine.len_app ?ha ?hb; (case ha => walk_at "my_slen"); (case hb => walk_at "my_slen")) | exact Nat.le_refl _)
local macro_rules | `(tactic| walk_at "call type:map") => `(tactic| (k_here; (with_reducible show wpAny _ _ (call (Value.type "map") [Value.builtin "ord", Value.str _ _]) _ _ _); k_dflt (refine' Mine.map_k ?a ?b ?c ?_; (case a => k_asm); (case b => k_asm); (case c => walk_at "my_low"); k_whole); intro I' h' F' N' M' l1 lL' hb'))
local macro_rules | `(tactic| walk_at "call builtin:_functools.reduce") => `(tactic| (k_here; (with_reducible show wpAny _ _ (call (Value.builtin _) [Value.builtin _, Value.ref _, Value.int _ _]) _ _ _); k_dflt (refine' Mine.reduce_k ?a ?b ?c ?d ?e ?f ?g ?_; (case a => with_unfolding_all rfl); (case b => k_asm); (case c => k_asm); (case d => assumption); (case e => assumption); (case f => assumption); (case g => assumption); k_whole); intro h' tk' t' F' N'))
local macro_rules | `(tactic| walk_at "call ref") => `(tactic| (k_here; (with_reducible show wpAny _ _ (call (Value.ref 293) [Value.str _ _]) _ _ _); k_dflt (refine' Mine.sum_k ?a ?b ?c ?d ?e ?f ?g ?_; (case a => assumption); (case b => assumption); (case c => assumption); (case d => walk_at "my_low"); (case f => k_asm); (case g => k_asm); (case e => (refine' Nat.le_trans ?p ?q; (case p => walk_at "my_slen"); (case q => decide +kernel)))); intro h' tk' t' F' N'))
local macro_rules | `(tactic| walk_at "binaryOp Mod str int") => `(tactic| (k_here; (with_reducible show wpAny _ _ (binaryOp Operator.Mod (Value.str _ _) (Value.int (Mine.xorOf _) _)) _ _ _); k_dflt (refine' Mine.mod_hex ?a ?b ?_; (case a => exact (Mine.xor_low (by walk_at "my_low")).1); (case b => exact (Mine.xor_low (by walk_at "my_low")).2); k_whole); intro t' k'))
local macro_rules | `(tactic| walk_at "binaryOp Add str str") => `(tactic| (k_here; (with_reducible show wpAny _ _ (binaryOp Operator.Add (Value.str _ _) (Value.str _ _)) _ _ _); k_dflt (refine' Mine.add_m ?a ?_; (case a => (refine' Nat.le_trans ?p ?q; (case p => walk_at "my_slen"); (case q => decide +kernel))); k_whole); intro t9 k9))
local macro_rules | `(tactic| walk_at "inplaceOp Add str str") => `(tactic| (k_here; (with_reducible show wpAny _ _ (inplaceOp Operator.Add (Value.str _ _) (Value.str _ _)) _ _ _); k_dflt (refine' Mine.iadd_m ?a ?_; (case a => (refine' Nat.le_trans ?p ?q; (case p => walk_at "my_slen"); (case q => decide +kernel))); k_whole); intro t9 k9))
local macro_rules | `(tactic| walk_at "getAttr ref") => `(tactic| (k_here; (with_reducible show wpAny _ _ (getAttr (Value.ref _) ("data" : Str) _) _ _ _); k_dflt (refine' Mine.data_miss ?KX ?T ?X ?P ?B ?D ?F ?N ?hk ?hdp ?hx ?hdd ?_; (case F => k_asm); (case N => k_asm); (case B => assumption); (case D => assumption); (case KX => assumption); (case T => assumption); (case X => k_asm); (case P => k_asm); (case hk => rfl); (case hdp => first | decide | omega | ktr_room); (case hx => k_mem); (case hdd => k_mem)); intro e' G' h' tk' FG' S' R' U'))
local macro_rules | `(tactic| walk_at "noteFrame ref") => `(tactic| (k_here; (rename RaisedSN _ _ _ _ _ _ _ => rsX); (with_reducible show wpAny _ _ (noteFrame _ _) (fun _ s₂ => wpAny _ _ (setFlight _ none) (fun _ s₃ => wpAny _ _ (handleBy _ _ (ExceptHandler.ExceptHandler (some (Expr.Name ("AttributeError" : Str) _)) none _ _ :: _)) _ _ s₃) _ s₂) _ _); k_dflt (refine' caught_SN0 (T' := "AttributeError") ?R ?F ?K ?U ?XB ?TB ?D ?T0 ?ex ?hv ?hn Mine.ae_base Mine.ae_notTuple sub_AttributeError ?_; (case R => assumption); (case F => assumption); (case K => assumption); (case U => assumption); (case XB => assumption); (case TB => assumption); (case D => assumption); (case T0 => first | assumption | exact KtsTurn.refl); (case ex => k_is); (case hv => boot_by_name); (case hn => decide); k_whole); intro h' g' T' F' N' K' X' P' D'; (try k_lift K'); (try k_sweep)))
local macro_rules | `(tactic| walk_at "call ref") => `(tactic| (k_here; (with_reducible show wpAny _ _ (call (Value.ref _) []) _ _ _); k_dflt (refine' call_meth (f := Value.ref 137) ?k1 ?k2 ?_; (case k1 => k_asm); (case k2 => k_mem); (refine' Mine.idf_raise ?KX ?T ?X ?P ?B ?D ?F ?N ?hk ?hdp ?hx ?hdd ?_; (case F => k_asm); (case N => k_asm); (case B => assumption); (case D => assumption); (case KX => assumption); (case T => assumption); (case X => k_asm); (case P => k_asm); (case hk => first | rfl | assumption); (case hdp => first | decide | ktr_room); (case hx => first | k_mem | (repeat (first | assumption | refine List.Mem.tail _ ?_))); (case hdd => first | k_mem | (repeat (first | assumption | refine List.Mem.tail _ ?_))))); intro e' G' h' tk' FG' S' R' U'; (try dsimp only)))
local macro_rules | `(tactic| walk_at "call ref") => `(tactic| (k_here; (with_reducible show wpAny _ _ (call (Value.ref _) []) _ _ _); k_dflt (refine' call_meth (f := Value.ref 145) ?k1 ?k2 ?_; (case k1 => k_asm); (case k2 => k_mem); (refine' Mine.ren_raise ?KX ?T ?X ?P ?B ?D ?F ?N ?hk ?hdp ?hx ?hdd ?_; (case F => k_asm); (case N => k_asm); (case B => assumption); (case D => assumption); (case KX => assumption); (case T => assumption); (case X => k_asm); (case P => k_asm); (case hk => first | rfl | assumption); (case hdp => first | decide | ktr_room); (case hx => first | k_mem | (repeat (first | assumption | refine List.Mem.tail _ ?_))); (case hdd => first | k_mem | (repeat (first | assumption | refine List.Mem.tail _ ?_))))); intro e' G' h' tk' FG' S' R' U'; (try dsimp only)))
local macro_rules | `(tactic| walk_at "call ref") => `(tactic| (k_here; (with_reducible show wpAny _ _ (call (Value.ref _) []) _ _ _); k_dflt (refine' call_meth (f := Value.ref 152) ?k1 ?k2 ?_; (case k1 => k_asm); (case k2 => k_mem); (refine' Mine.str_raise ?KX ?T ?X ?P ?B ?D ?F ?N ?hk ?hdp ?hx ?hdd ?_; (case F => k_asm); (case N => k_asm); (case B => assumption); (case D => assumption); (case KX => assumption); (case T => assumption); (case X => k_asm); (case P => k_asm); (case hk => first | rfl | assumption); (case hdp => first | decide | ktr_room); (case hx => first | k_mem | (repeat (first | assumption | refine List.Mem.tail _ ?_))); (case hdd => first | k_mem | (repeat (first | assumption | refine List.Mem.tail _ ?_))))); intro e' G' h' tk' FG' S' R' U'; (try dsimp only)))
local macro_rules | `(tactic| walk_at "call ref") => `(tactic| (k_here; (with_reducible show wpAny _ _ (call (Value.ref _) [Value.str _ _, Value.int _ _]) _ _ _); k_dflt (refine' call_meth (f := Value.ref 130) ?k1 ?k2 ?_; (case k1 => k_asm); (case k2 => k_mem); (refine' Mine.set_raise ?KX ?T ?X ?P ?B ?D ?F ?N ?hk ?hdp ?hx ?hdd ?_; (case F => k_asm); (case N => k_asm); (case B => assumption); (case D => assumption); (case KX => assumption); (case T => assumption); (case X => k_asm); (case P => k_asm); (case hk => first | rfl | assumption); (case hdp => first | decide | ktr_room); (case hx => first | k_mem | (repeat (first | assumption | refine List.Mem.tail _ ?_))); (case hdd => first | k_mem | (repeat (first | assumption | refine List.Mem.tail _ ?_))))); intro e' G' h' tk' FG' S' R' U'; (try dsimp only)))
local macro_rules | `(tactic| k_enter) => `(tactic| ((with_reducible show codeAny _ _ (Code.call (Value.ref 152) _) _ _); k_dflt (refine' Mine.str_raise ?KX ?T ?X ?P ?B ?D ?F ?N ?hk ?hdp ?hx ?hdd ?_; (case F => k_asm); (case N => k_asm); (case B => assumption); (case D => assumption); (case KX => assumption); (case T => assumption); (case X => k_asm); (case P => k_asm); (case hk => first | rfl | assumption); (case hdp => first | decide | ktr_room); (case hx => first | k_mem | (repeat (first | assumption | refine List.Mem.tail _ ?_))); (case hdd => first | k_mem | (repeat (first | assumption | refine List.Mem.tail _ ?_)))); intro e' G' h' tk' FG' S' R' U'; (try dsimp only)))
namespace Mine
def baseDat : List Dat := [.str (S "refused"), .str (S "refused"), .str (S "refused"), .str (S "no such name"), .str (S "no data"), .int 0]
theorem base_k {w : World} {mean : ExcName → Option Value} {mg mb : Str → Option Value} {L fa : Addr} {cd : Value} {h₀ : Heap} (KX : (hd.heap_39 w.params).In h₀) (T : Top hd.view_39 loosesW mean mg mb h₀) (K0 : Below callerA h₀ [] h₀)
  {Q : Value → Shared → Prop} {s : Shared} {m : Str → Option Value} {news : List (Addr × Obj)} (F : Fr h₀ L s.heap m) (N : News h₀ L s.heap news)
  (hQ : ∀ (l n : Nat) (vs : List Value) h' tk, Fr h₀ L h' m → News h₀ L h' ((l, listOf vs.toArray n) :: news) → DatAll [] vs baseDat → (∀ p ∈ news, p.1 < l) → Q (.ref l) { s with heap := h', toks := tk }) :
  wpAny (model PySem.Challenge.rw_dg5010_01.row.prog w) (callerA.deeper (envOf (Str.ofString "law") lawScope L fa cd)) (call (.ref 314) []) Q (fun _ _ => False) s := by
  revert KX
  k_fill
  intro KX
  have e1 := (rfl : lawScope = lawScope)
  conv at e1 => rhs; whnf
  dsimp only at e1
  rw [e1]
  clear e1
  k_steps
  rename Fr h₀ _ _ _ => F9
  rename News h₀ _ _ _ => N9
  refine hQ _ _ _ _ _ F9 (fun p hp => N9 p (.tail _ (.tail _ (.tail _ hp)))) ?_ (by assumption)
  exact .cons (.str _ _) (.cons (.str _ _) (.cons (.str _ _) (.cons (.str _ _) (.cons (.str _ _) (.cons (.int _ _) .nil)))))
end Mine

end

/-! part FinG -/
section
open PySem PySem.W PySem.Calls PyProof.Rows
local macro_rules | `(tactic| walk_at "getAttr ref") => `(tactic| (k_here; k_dflt (first
  | (refine' Mine.own_h ?k1 ?k2 ?k3 ?k4 ?k5 ?k6 ?k7 ?k8 ?k9 ?_; (case k1 => k_asm); (case k2 => k_asm); (case k3 => k_inst); (case k4 => k_is); (case k5 => k_is); (case k6 => k_is); (case k7 => k_is); (case k8 => first | assumption | k_get); (case k9 => k_handed); k_whole)
  | (refine' Mine.prop_h ?k1 ?k2 ?k3 ?k4 ?k10 ?k5 ?k6 ?k7 ?k8 ?k9 ?_; (case k1 => k_asm); (case k2 => k_asm); (case k3 => k_inst); (case k4 => k_is); (case k10 => k_is); (case k5 => k_is); (case k6 => k_is); (case k7 => k_is); (case k8 => k_is); (case k9 => k_is); k_whole; k_enter)
  | (refine' Mine.bound_h ?k1 ?k2 ?k3 ?k4 ?k5 ?k10 ?k6 ?k7 ?k8 ?k9 ?k11 ?k12 ?k13 ?_; (case k4 => k_inst); (case k1 => k_asm); (case k2 => k_asm); (case k7 => k_is); (case k3 => k_asm); (case k5 => k_is); (case k10 => k_is); (case k6 => k_is); (case k8 => k_is); (case k9 => k_is); (case k11 => k_is); (case k12 => decide +kernel); (case k13 => first | assumption | k_get); k_whole; intro q' h' F' N' l1; (try k_lt l1); (try k_sweep)))))
local macro_rules | `(tactic| walk_at "getMethod ref") => `(tactic| (k_here; k_dflt (refine' Mine.method_h ?k1 ?k2 ?k3 ?k4 ?k5 ?_; (case k1 => k_asm); (case k2 => k_asm); (case k3 => k_inst); (case k4 => k_is); (case k5 => k_is); k_whole)))
local macro_rules | `(tactic| size_fits) => `(tactic| first | ((try simp only [List.size_toArray, Array.size_push, List.push_toArray, List.length_append, List.length_cons, List.length_nil]); (simp only [PySem.sizeLine_eq]); omega) | fail "size_fits: mine")
local macro_rules | `(tactic| walk_at "my_keeps") => `(tactic| (intro z hz; (obtain ⟨i1, i2, i3, i4, i5, i6⟩ := Mine.idle_ne hz); first | rfl | ((refine Eq.trans ?_ (congrFun (by assumption : (_ : Str → Option Value) = _) z)); (try simp only [i1, i2, i3, i4, i5, i6, if_false]); done)))
local macro_rules | `(tactic| walk_at "my_expose") => `(tactic| ((have e1 := (rfl : Mine.lawScope = Mine.lawScope)); (conv at e1 => rhs; whnf); (dsimp only at e1); (conv in (Mine.turnAt _) => whnf); (rw [e1]); clear e1))
local macro_rules | `(tactic| walk_at "my_lt") => `(tactic| first | assumption | exact Mine.allLt_to (by assumption) | (refine List.forall_mem_cons.mpr ⟨by (dsimp only; omega), ?_⟩; walk_at "my_lt"))
local macro_rules | `(tactic| walk_at "my_keepsP") => `(tactic| (intro z hz hp9; (obtain ⟨i1, i2, i3, i4, i5, i6⟩ := Mine.idle_ne hz); first | rfl | ((refine Eq.trans ?_ (congrFun (by assumption : (_ : Str → Option Value) = _) z)); (try simp only [i1, i2, i3, i4, i5, i6, hp9, if_false]); done)))
local macro_rules | `(tactic| walk_at "getAttr ref") => `(tactic| (k_here; (with_reducible show wpAny _ _ (getAttr (Value.ref _) (PySem.Str.ofString "data") _) _ _ _); k_dflt (refine' Mine.data_get ?k1 ?k2 ?k3 ?k4 ?k5 ?k6 ?k7 ?_; (case k1 => k_asm); (case k2 => k_asm); (case k3 => k_asm); (case k4 => k_mem); (case k5 => k_mem); (case k6 => k_asm); (case k7 => first | assumption | (unfold Mine.IsCls; decide)); k_whole)))
local macro_rules | `(tactic| walk_at "my_len") => `(tactic| first | omega | ((try simp only [List.length_append, List.length_cons, List.length_nil, List.length_set, List.length_dropLast, List.length_drop]); omega))
local macro_rules | `(tactic| walk_at "call builtin:len") => `(tactic| (k_here; (with_reducible show wpAny _ _ (call (Value.builtin "len") [Value.ref _]) _ _ _); k_dflt (refine' Mine.len_n ?a ?b ?c ?_; (case a => k_asm); (case b => k_mem); (case c => walk_at "my_len"); k_whole)))
local macro_rules | `(tactic| walk_at "call builtin:list.append") => `(tactic| (k_here; (with_reducible show wpAny _ _ (call (Value.builtin _) [Value.ref _, _]) _ _ _); k_dflt (refine' Mine.append_n ?a ?b ?c ?d ?_; (case a => k_asm); (case b => k_asm); (case c => k_upd); (case d => walk_at "my_len"); k_whole); intro h' F' N'; (try k_sweep)))
local macro_rules | `(tactic| walk_at "call builtin:list.pop") => `(tactic| (k_here; (with_reducible show wpAny _ _ (call (Value.builtin _) [Value.ref _]) _ _ _); k_dflt (refine' Mine.pop_n ?a ?b ?c ?d ?e ?_; (case a => k_asm); (case b => k_asm); (case c => k_upd); (case d => walk_at "my_len"); (case e => walk_at "my_len"); k_whole); intro h' y' F' N'; (try k_sweep)))
local macro_rules | `(tactic| walk_at "setItem ref int") => `(tactic| (k_here; (with_reducible show wpAny _ _ (setItem (Value.ref _) (Value.int _ _) _) _ _ _); k_dflt (refine' Mine.set_n ?a ?b ?c ?d ?e ?f ?_; (case a => k_asm); (case b => k_asm); (case c => k_upd); (case d => first | omega | exact Int.fmod_nonneg_of_pos _ (by omega)); (case e => first | (refine Int.lt_of_lt_of_le (Int.fmod_lt_of_pos _ (by omega)) ?_; walk_at "my_len") | walk_at "my_len"); (case f => walk_at "my_len"); k_whole); intro h' F' N'; (try k_sweep)))
local macro_rules | `(tactic| walk_at "subscriptTail Name Slice ref ref") => `(tactic| (k_here; (with_reducible show wpAny _ _ (subscriptTail _ (PySem.Expr.Slice _ _ none _) (Value.ref _) (Value.ref _)) _ _ _); k_dflt (refine' kms_slice_lit ?F ?N ?l ?p ?q ?e ?_ ?s ?t ?z; (case F => k_asm); (case N => k_asm); (case l => exact PyProof.Rows.News.isList (by k_asm) (by k_mem)); (case p => kmk_part); (case q => kmk_part); (case e => first | exact Mine.pick_from _ | exact Mine.pick_all _); (case s => with_unfolding_all rfl); (case t => kmk_pure); (case z => ((simp only [List.size_toArray, PySem.sizeLine_eq]); omega))); intro D' h' F' N' l1; (try k_lt l1); (try dsimp only at F' N'); (try dsimp only); (try k_sweep)))
local macro_rules | `(tactic| walk_at "subscriptTail") => `(tactic| (k_here; (with_reducible show wpAny _ _ (subscriptTail _ _ (Value.ref _) (Value.int _ _)) _ _ _); k_dflt (refine' Mine.item_n ?a ?b ?c ?d ?e ?_; (case a => k_asm); (case b => k_mem); (case e => first | assumption | with_unfolding_all assumption); (case c => first | omega | exact Int.fmod_nonneg_of_pos _ (by omega)); (case d => first | omega | (refine Int.lt_trans (Int.fmod_lt_of_pos _ (by omega)) ?_; omega)); k_whole)))
local macro_rules | `(tactic| walk_at "subscriptTail Name Name ref int") => `(tactic| (k_here; (with_reducible show wpAny _ _ (subscriptTail _ _ (Value.ref _) (Value.int _ _)) _ _ _); k_dflt (refine' Mine.item_n ?a ?b ?c ?d ?e ?_; (case a => k_asm); (case b => k_mem); (case e => first | assumption | with_unfolding_all assumption); (case c => first | omega | exact Int.fmod_nonneg_of_pos _ (by omega)); (case d => first | omega | (refine Int.lt_trans (Int.fmod_lt_of_pos _ (by omega)) ?_; omega)); k_whole)))
local macro_rules | `(tactic| walk_at "getAttr ref") => `(tactic| (k_here; (with_reducible show wpAny _ _ (getAttr (Value.ref _) (PySem.Str.ofString "waypoint_list") _) _ _ _); k_dflt (refine' Mine.wl_get ?k1 ?k2 ?B ?F ?N ?hk ?hd ?t ?d ?a ?D ?v ?w ?_; (case k1 => k_asm); (case k2 => k_asm); (case B => k_asm); (case F => k_asm); (case N => k_asm); (case hk => first | rfl | assumption); (case hd => first | decide | omega | ktr_room); (case t => k_mem); (case d => k_mem); (case D => k_asm); (case a => k_mem); (case v => walk_at "my_len"); (case w => assumption)); intro D' h' tk' F' N' l1; (try k_lt l1); (try dsimp only at F' N'); (try dsimp only); (try k_sweep)))
local macro_rules | `(tactic| walk_at "eval DictComp") => `(tactic| (k_here; with_unfolding_all refine' Mine.dictcomp_k ?a ?b ?c ?d ?e ?_; (case a => with_unfolding_all rfl); (case b => with_unfolding_all rfl); (case c => decide); (case d => (intro _; rfl)); (case e => rfl); (try dsimp only)))
local macro_rules | `(tactic| walk_at "call type:enumerate") => `(tactic| (k_here; (first
  | ((with_reducible show wpAny _ _ (call (Value.type "enumerate") [Value.ref 249]) _ _ _); (with_unfolding_all refine' Mine.comp_call (names := Mine.namesL) ?hh ?F ?N (Mine.fields_rte ?K).1 ?l ?z Mine.namesL_nodup (Mine.fields_rte ?K).2 ?c ?k ?f ?g ?n ?o ?p ?_))
  | ((with_reducible show wpAny _ _ (call (Value.type "enumerate") [Value.ref 99]) _ _ _); (with_unfolding_all refine' Mine.comp_call (names := []) ?hh ?F ?N (Mine.fields_base ?K).1 ?l ?z List.nodup_nil (Mine.fields_base ?K).2 ?c ?k ?f ?g ?n ?o ?p ?_))); (case K => k_asm); (case F => k_asm); (case N => k_asm); (case hh => with_unfolding_all rfl); (case l => rfl); (case z => decide); (case c => decide); (case k => rfl); (case f => with_unfolding_all rfl); (case g => with_unfolding_all rfl); (case n => decide); (case o => decide); (case p => decide); intro D' kvs' h' tk' hlt' F' N' hd' hkv'; (try k_sweep)))
local macro_rules | `(tactic| walk_at "subscriptTail") => `(tactic| (k_here; (with_reducible show wpAny _ _ (subscriptTail _ _ (Value.ref _) (Value.str _ _)) _ _ _); (rename Mine.Kvs _ _ => hkv9); (rename Heap.DictOf _ _ _ _ => hd9); (obtain ⟨t9, hv9⟩ := Mine.Kvs.valueAt hkv9 Mine.namesL_nodup (by assumption)); k_dflt (refine' Mine.item_kvs hd9 hv9 ?_; k_whole); clear hv9 hkv9 hd9))
local macro_rules | `(tactic| walk_at "setItem ref int") => `(tactic| (k_here; (with_reducible show wpAny _ _ (setItem (Value.ref _) (Value.int _ _) _) _ _ _); k_dflt (refine' Mine.setItem_oob ?a ?b ?c ?d ?e ?_; (case a => with_unfolding_all rfl); (case b => exact PyProof.Rows.News.isList (by k_asm) (by k_mem)); (case c => omega); (case d => omega); (case e => ((simp only [List.size_toArray]); omega)); k_whole); intro h' tk' e' hexc'))
local macro_rules | `(tactic| walk_at "call builtin:str.join") => `(tactic| (k_here; (with_reducible show wpAny _ _ (call (Value.builtin _) [Value.str _ _, Value.ref _]) _ _ _); k_dflt (refine' Mine.join_n ?a ?b ?c ?d ?e ?_; (case a => k_asm); (case b => k_mem); (case c => assumption); (case d => decide); (case e => assumption); k_whole); intro t9 k9))
local macro_rules | `(tactic| walk_at "binaryOp Add str str") => `(tactic| (k_here; (with_reducible show wpAny _ _ (binaryOp Operator.Add (Value.str _ _) (Value.str _ _)) _ _ _); k_dflt (refine' Mine.add_n ?a ?b ?_; (case a => decide +kernel); (case b => assumption); k_whole); intro t9 k9))
local macro_rules | `(tactic| walk_at "subscriptTail Name Name ref int") => `(tactic| (k_here; (with_reducible show wpAny _ _ (subscriptTail _ _ (Value.ref 284) (Value.int _ _)) _ _ _); k_dflt (refine' Mine.head_get ?a ?b ?c ?d ?_; (case a => k_asm); (case b => k_asm); (case c => decide); (case d => decide); k_whole); intro t9))
local macro_rules | `(tactic| walk_at "my_low") => `(tactic| first | (with_reducible assumption) | (with_reducible refine Mine.low_app ?_ ?_ <;> walk_at "my_low") | (unfold Mine.Low; decide +kernel))
local macro_rules | `(tactic| walk_at "my_slen") => `(tactic| with_reducible first | assumption | exact Mine.hex_len _ | (refine' Mine.len_app ?ha ?hb; (case ha => walk_at "my_slen"); (case hb => walk_at "my_slen")) | exact Nat.le_refl _)
local macro_rules | `(tactic| walk_at "call type:map") => `(tactic| (k_here; (with_reducible show wpAny _ _ (call (Value.type "map") [Value.builtin "ord", Value.str _ _]) _ _ _); k_dflt (refine' Mine.map_k ?a ?b ?c ?_; (case a => k_asm); (case b => k_asm); (case c => walk_at "my_low"); k_whole); intro I' h' F' N' M' l1 lL' hb'))
local macro_rules | `(tactic| walk_at "call builtin:_functools.reduce") => `(tactic| (k_here; (with_reducible show wpAny _ _ (call (Value.builtin _) [Value.builtin _, Value.ref _, Value.int _ _]) _ _ _); k_dflt (refine' Mine.reduce_k ?a ?b ?c ?d ?e ?f ?g ?_; (case a => with_unfolding_all rfl); (case b => k_asm); (case c => k_asm); (case d => assumption); (case e => assumption); (case f => assumption); (case g => assumption); k_whole); intro h' tk' t' F' N'))
local macro_rules | `(tactic| walk_at "call ref") => `(tactic| (k_here; (with_reducible show wpAny _ _ (call (Value.ref 293) [Value.str _ _]) _ _ _); k_dflt (refine' Mine.sum_k ?a ?b ?c ?d ?e ?f ?g ?_; (case a => assumption); (case b => assumption); (case c => assumption); (case d => walk_at "my_low"); (case f => k_asm); (case g => k_asm); (case e => (refine' Nat.le_trans ?p ?q; (case p => walk_at "my_slen"); (case q => decide +kernel)))); intro h' tk' t' F' N'))
local macro_rules | `(tactic| walk_at "binaryOp Mod str int") => `(tactic| (k_here; (with_reducible show wpAny _ _ (binaryOp Operator.Mod (Value.str _ _) (Value.int (Mine.xorOf _) _)) _ _ _); k_dflt (refine' Mine.mod_hex ?a ?b ?_; (case a => exact (Mine.xor_low (by walk_at "my_low")).1); (case b => exact (Mine.xor_low (by walk_at "my_low")).2); k_whole); intro t' k'))
local macro_rules | `(tactic| walk_at "binaryOp Add str str") => `(tactic| (k_here; (with_reducible show wpAny _ _ (binaryOp Operator.Add (Value.str _ _) (Value.str _ _)) _ _ _); k_dflt (refine' Mine.add_m ?a ?_; (case a => (refine' Nat.le_trans ?p ?q; (case p => walk_at "my_slen"); (case q => decide +kernel))); k_whole); intro t9 k9))
local macro_rules | `(tactic| walk_at "inplaceOp Add str str") => `(tactic| (k_here; (with_reducible show wpAny _ _ (inplaceOp Operator.Add (Value.str _ _) (Value.str _ _)) _ _ _); k_dflt (refine' Mine.iadd_m ?a ?_; (case a => (refine' Nat.le_trans ?p ?q; (case p => walk_at "my_slen"); (case q => decide +kernel))); k_whole); intro t9 k9))
local macro_rules | `(tactic| walk_at "getMethod ref") => `(tactic| (k_here; (with_reducible show wpAny _ _ (getMethod (Value.ref _) _ _) _ _ _); k_dflt (refine' Mine.meth_of ?a ?b ?F ?N ?ht ?hd ?_; (case F => k_asm); (case N => k_asm); (case ht => k_mem); (case hd => k_mem); (case a => assumption); (case b => assumption); k_whole)))
local macro_rules | `(tactic| walk_at "getAttr ref") => `(tactic| (k_here; (with_reducible show wpAny _ _ (getAttr (Value.ref _) (PySem.Str.ofString "identifier") _) _ _ _); k_dflt (refine' Mine.idf_get ?a ?b ?F ?N ?ht ?hd ?D ?_; (case F => k_asm); (case N => k_asm); (case ht => k_mem); (case hd => k_mem); (case a => assumption); (case b => assumption); (case D => assumption); k_whole); intro q' h' F' N' l1; (try k_lt l1)))
local macro_rules | `(tactic| walk_at "getAttr ref") => `(tactic| (k_here; (with_reducible show wpAny _ _ (getAttr (Value.ref _) (PySem.Str.ofString "render") _) _ _ _); k_dflt (refine' Mine.ren_get ?a ?b ?F ?N ?ht ?hd ?D ?_; (case F => k_asm); (case N => k_asm); (case ht => k_mem); (case hd => k_mem); (case a => assumption); (case b => assumption); (case D => assumption); k_whole); intro q' h' F' N' l1; (try k_lt l1)))
local macro_rules | `(tactic| walk_at "getAttr ref") => `(tactic| (k_here; (with_reducible show wpAny _ _ (getAttr (Value.ref _) (PySem.Str.ofString "data") _) _ _ _); k_dflt (refine' Mine.data_get ?k1 ?k2 ?k3 ?k4 ?k5 ?k6 ?k7 ?_; (case k1 => assumption); (case k2 => k_asm); (case k3 => k_asm); (case k4 => k_mem); (case k5 => k_mem); (case k6 => assumption); (case k7 => exact Mine.clsOf_is _); k_whole)))
local macro_rules | `(tactic| walk_at "callWith ref") => `(tactic| (k_here; (with_reducible show wpAny _ _ (callWith _ (Value.ref _) _ (backTo _ (starEach [] _)) []) _ _ _); k_dflt (refine' Mine.cw_idf ?a ?b ?F ?N ?q ?_; (case F => k_asm); (case N => k_asm); (case q => k_mem); (case a => assumption); (case b => assumption); k_whole); (try dsimp only [List.nil_append, List.cons_append])))
local macro_rules | `(tactic| walk_at "call ref") => `(tactic| (k_here; (with_reducible show wpAny _ _ (call (Value.ref _) []) _ _ _); k_dflt (refine' call_meth (f := Value.ref (Mine.idfOf _)) ?k1 ?k2 ?_; (case k1 => k_asm); (case k2 => k_mem); refine' Mine.idf_call ?KX ?T ?B ?F ?N ?hkk ?hdp ?hk ?ht ?hd ?D ?KI ?_; (case F => k_asm); (case N => k_asm); (case B => assumption); (case ht => k_mem); (case hd => k_mem); (case D => assumption); (case KI => assumption); (case hk => assumption); (case KX => assumption); (case T => assumption); (case hkk => first | rfl | assumption); (case hdp => first | decide | ktr_room)); intro h' tk' t' F' N'; (try dsimp only)))
local macro_rules | `(tactic| walk_at "my_slen") => `(tactic| with_reducible first | assumption | exact Mine.hex_len _ | exact Mine.headS_len _ | exact Mine.head_len _ | (refine' Mine.len_app ?ha ?hb; (case ha => walk_at "my_slen"); (case hb => walk_at "my_slen")) | exact Nat.le_refl _)
local macro_rules | `(tactic| walk_at "my_low") => `(tactic| first | (with_reducible assumption) | (with_reducible exact Mine.headS_low _) | (with_reducible exact Mine.head_low _) | (with_reducible refine Mine.low_app ?_ ?_ <;> walk_at "my_low") | (unfold Mine.Low; decide +kernel))
local macro_rules | `(tactic| walk_at "subscriptTail Name Name ref int") => `(tactic| (k_here; (with_reducible show wpAny _ _ (subscriptTail _ _ (Value.ref 284) (Value.int _ _)) _ _ _); k_dflt (refine' Mine.head_get ?a ?b ?c ?d ?_; (case a => assumption); (case b => k_asm); (case c => omega); (case d => omega); k_whole); intro t9))
local macro_rules | `(tactic| walk_at "call ref") => `(tactic| (k_here; (with_reducible show wpAny _ _ (call (Value.ref _) [Value.bool _, Value.bool _]) _ _ _); k_dflt (refine' call_meth (f := Value.ref 145) ?k1 ?k2 ?_; (case k1 => k_asm); (case k2 => k_mem); refine' Mine.ren_bare ?KX ?T ?B ?F ?N ?hkk ?hdp ?hk ?ht ?hd ?ha ?D ?KI ?hys ?hsum ?hl ?_; (case F => k_asm); (case N => k_asm); (case B => assumption); (case ht => k_mem); (case hd => k_mem); (case D => assumption); (case ha => k_mem); (case KI => assumption); (case hys => assumption); (case hsum => assumption); (case hl => assumption); (case hk => first | assumption | decide); (case KX => assumption); (case T => assumption); (case hkk => rfl); (case hdp => first | decide | ktr_room)); intro h' tk' t' F' N'; (try dsimp only)))
local macro_rules | `(tactic| walk_at "call ref") => `(tactic| (k_here; (with_reducible show wpAny _ _ (call (Value.ref _) []) _ _ _); k_dflt (refine' call_meth (f := Value.ref 145) ?k1 ?k2 ?_; (case k1 => k_asm); (case k2 => k_mem); refine' Mine.ren_full ?KX ?T ?B ?F ?N ?hkk ?hdp ?hk ?ht ?hd ?ha ?D ?KI ?hys ?hsum ?hl ?hlow ?_; (case F => k_asm); (case N => k_asm); (case B => assumption); (case ht => k_mem); (case hd => k_mem); (case D => assumption); (case ha => k_mem); (case KI => assumption); (case hys => assumption); (case hsum => assumption); (case hl => assumption); (case hlow => assumption); (case hk => first | assumption | decide); (case KX => assumption); (case T => assumption); (case hkk => rfl); (case hdp => first | decide | ktr_room)); intro h' tk' t' F' N'; (try dsimp only)))
local macro_rules | `(tactic| walk_at "my_keepsF") => `(tactic| (intro z hz hp9; (obtain ⟨i1, i2, i3, i4, i5, i6⟩ := Mine.idle_ne hz); first | rfl | ((refine Eq.trans ?_ (congrFun (by assumption : (_ : Str → Option Value) = _) z)); (try simp only [i1, i2, i3, i4, i5, i6, hp9, if_false]); done)))
namespace Mine
theorem finG {w : World} {mean : ExcName → Option Value} {mg mb : Str → Option Value} {L fa : Addr} {cd : Value} {h₀ : Heap} (KX : (hd.heap_39 w.params).In h₀) (T : Top hd.view_39 loosesW mean mg mb h₀) (K0 : Below callerA h₀ [] h₀)
  {Q : Flow → Shared → Prop} {s : Shared} {m : Str → Option Value} {t d a r Ta Ra g wn : Nat} {n na nr nT nR ng nw : Nat} {es : List DictEntry} {rs : List (Addr × Obj)} {vs ps tv pv gv wv : List Value} {k kt : Nat} {ys : List Str} (hk : k < 5)
  (hch : r < Ra ∧ Ra < d ∧ d < t ∧ t < a ∧ a < Ta ∧ Ta < g ∧ g < wn) (off : OwnOff rs [g, wn]) (D : DictIs es a) (KI : KindIs es k) (hys : StrsAre vs ys) (hys' : StrsAre ps ys) (hsum : (ys.map (·.length)).sum ≤ 20000) (hl : ys.length ≤ 1000) (hlow : Low (Txt.join (Str.ofString ",") ys)) (hgv : gv.length ≤ 1000) (hwv : wv.length ≤ 1000)
  (htv : tv[((k : Nat) : Int).toNat]? = some (.ref t)) (hpv : pv[((k : Nat) : Int).toNat]? = some (.ref r))
  (F : Fr h₀ L s.heap m) (hm : ∀ p ∈ [(S "k", Value.int ((k : Nat) : Int) kt), (S "rows", .ref Ra), (S "things", .ref Ta), (S "got", .ref g), (S "want", .ref wn)], m p.1 = some p.2)
  (N : News h₀ L s.heap ((g, listOf gv.toArray ng) :: (wn, listOf wv.toArray nw) :: (a, listOf vs.toArray na) :: (r, listOf ps.toArray nr) :: (t, instObj (clsOf k) d) :: (d, dictOf es n) :: (Ta, listOf tv.toArray nT) :: (Ra, listOf pv.toArray nR) :: rs))
  (hQ : ∀ (own : List (Addr × Obj)) (x1 x2 : Str) (t1 t2 : Tok) m' h' tk' ng' nw', x1 = finS k ys → x2 = finS k ys → (∀ z, idle.contains z = false → z ≠ S "plain" → m' z = m z) → Fr h₀ L h' m' → News h₀ L h' (own ++ ((g, listOf (gv ++ [Value.str x1 t1]).toArray ng') :: (wn, listOf (wv ++ [Value.str x2 t2]).toArray nw') :: (a, listOf vs.toArray na) :: (r, listOf ps.toArray nr) :: (t, instObj (clsOf k) d) :: (d, dictOf es n) :: (Ta, listOf tv.toArray nT) :: (Ra, listOf pv.toArray nR) :: rs)) →
    (∀ p ∈ own, wn < p.1 ∧ AllLt p.1 rs) → Q .next { s with heap := h', toks := tk' }) :
  wpAny (model PySem.Challenge.rw_dg5010_01.row.prog w) (callerA.deeper (envOf (Str.ofString "law") lawScope L fa cd)) (execs finBody (envOf (Str.ofString "law") lawScope L fa cd)) Q (fun _ _ => False) s := by
  have hv : vs.length ≤ 1000 := by rw [hys.len_eq]; exact hl
  have hp : ps.length ≤ 1000 := by rw [hys'.len_eq]; exact hl
  have hok : (ys.map (·.length)).sum + ys.length * 64 ≤ 16777216 := by omega
  have hj := join_len hsum hl
  revert KX
  k_fill
  intro KX
  have e1 := (rfl : lawScope = lawScope)
  conv at e1 => rhs; whnf
  dsimp only at e1
  conv in finBody => whnf
  rw [e1]
  clear e1
  replace F := frK F _ hm
  have em := frE _ hm
  simp only [kstB] at F em
  have Dren := D.ren
  have Didf := D.idf
  k_steps
  rename Fr _ _ _ _ => F9
  rename News _ _ _ _ => N9
  refine hQ [_] _ _ _ _ _ _ _ _ _ ?d1 ?d2 (by walk_at "my_keepsF") F9 N9 ?lt
  case d1 => exact fin_got rfl
  case d2 => exact fin_want rfl
  case lt =>
    (repeat (rename (_ : Nat) < _ ∧ _ => hX9; obtain ⟨_, _⟩ := hX9))
    (repeat (refine List.forall_mem_cons.mpr ⟨⟨by dsimp only; omega, by dsimp only; assumption⟩, ?_⟩))
    exact List.forall_mem_nil _
end Mine


end

/-! part FinF -/
section
open PySem PySem.W PySem.Calls PyProof.Rows
namespace Mine
section
variable {w : World} {mean : ExcName → Option Value} {mg mb : Str → Option Value} {L fa : Addr} {cd : Value} {h₀ : Heap} {Q : Flow → Shared → Prop} {s : Shared} {m : Str → Option Value}
theorem finW (KX : (hd.heap_39 w.params).In h₀) (T : Top hd.view_39 loosesW mean mg mb h₀) (K0 : Below callerA h₀ [] h₀)
  {k t d a r Ta Ra g wn : Nat} {nT nR ng nw : Nat} {W : List (Addr × Obj)} {tv pv gv wv : List Value} {kt : Nat} {ys : List Str} (hk : k < 5)
  (Th : ThingK W Ta Ra g wn k (clsOf k) t d a r ys) (hlow : Low (Txt.join (Str.ofString ",") ys)) (off : OwnOff W [g, wn]) (hgv : gv.length ≤ 1000) (hwv : wv.length ≤ 1000)
  (htv : tv[k]? = some (.ref t)) (hpv : pv[k]? = some (.ref r)) (mT : (Ta, listOf tv.toArray nT) ∈ W) (mR : (Ra, listOf pv.toArray nR) ∈ W)
  (F : Fr h₀ L s.heap m) (hm : ∀ p ∈ [(S "k", Value.int (k : Int) kt), (S "rows", .ref Ra), (S "things", .ref Ta), (S "got", .ref g), (S "want", .ref wn)], m p.1 = some p.2)
  (N : News h₀ L s.heap ((g, listOf gv.toArray ng) :: (wn, listOf wv.toArray nw) :: W))
  (hQ : ∀ t1 t2 m' h' tk' ng' nw', (∀ z, idle.contains z = false → z ≠ S "plain" → m' z = m z) → Fr h₀ L h' m' → News h₀ L h' ((g, listOf (gv ++ [Value.str (finS k ys) t1]).toArray ng') :: (wn, listOf (wv ++ [Value.str (finS k ys) t2]).toArray nw') :: W) → Q .next { s with heap := h', toks := tk' }) :
  wpAny (model PySem.Challenge.rw_dg5010_01.row.prog w) (callerA.deeper (envOf (Str.ofString "law") lawScope L fa cd)) (execs finBody (envOf (Str.ofString "law") lawScope L fa cd)) Q (fun _ _ => False) s := by
  obtain ⟨es, n, na, nr, vs, ps, D, KI, hys, hys', ma, mr, mt, md⟩ := Th.cells
  have hin : News h₀ L s.heap ((g, listOf gv.toArray ng) :: (wn, listOf wv.toArray nw) :: (a, listOf vs.toArray na) :: (r, listOf ps.toArray nr) :: (t, instObj (clsOf k) d) :: (d, dictOf es n) :: (Ta, listOf tv.toArray nT) :: (Ra, listOf pv.toArray nR) :: W) := by
    intro p hp
    simp only [List.mem_cons] at hp
    rcases hp with rfl | rfl | rfl | rfl | rfl | rfl | rfl | rfl | hp
    · exact N _ (.head _)
    · exact N _ (.tail _ (.head _))
    all_goals exact N _ (.tail _ (.tail _ (by assumption)))
  have hout : ∀ (own : List (Addr × Obj)) (x1 x2 : Str) (t1 t2 : Tok) m' h' tk' ng' nw', x1 = finS k ys → x2 = finS k ys → (∀ z, idle.contains z = false → z ≠ S "plain" → m' z = m z) → Fr h₀ L h' m' → News h₀ L h' (own ++ ((g, listOf (gv ++ [Value.str x1 t1]).toArray ng') :: (wn, listOf (wv ++ [Value.str x2 t2]).toArray nw') :: (a, listOf vs.toArray na) :: (r, listOf ps.toArray nr) :: (t, instObj (clsOf k) d) :: (d, dictOf es n) :: (Ta, listOf tv.toArray nT) :: (Ra, listOf pv.toArray nR) :: W)) →
      (∀ p ∈ own, wn < p.1 ∧ AllLt p.1 W) → Q .next { s with heap := h', toks := tk' } := by
    intro own x1 x2 t1 t2 m' h' tk' ng' nw' e1 e2 hk' F' N' lt
    subst e1 e2
    refine hQ t1 t2 m' h' tk' ng' nw' hk' F' (fun p hp => N' p ?_)
    simp only [List.mem_append, List.mem_cons] at hp ⊢
    rcases hp with hp | hp | hp
    · exact .inr (.inl hp)
    · exact .inr (.inr (.inl hp))
    · exact .inr (.inr (.inr (.inr (.inr (.inr (.inr (.inr (.inr hp))))))))
  exact finG KX T K0 hk Th.ch off D KI hys hys' Th.sum Th.len hlow hgv hwv htv hpv F hm hin hout

theorem fin_str {M0 : List (Addr × Obj)} {vs : List Value} {ds : List Dat} {x : Str} {t : Tok} (h : DatAll M0 vs ds) : DatAll M0 (vs ++ [.str x t]) (ds ++ [.str x]) := .append h (.one (.str x t))
theorem quiet5 {z : Str} (h : z ∈ [S "rows", S "things", S "got", S "want"]) : idle.contains z = false ∧ z ≠ S "plain" ∧ z ≠ S "k" := by
  have q : ∀ z ∈ [S "rows", S "things", S "got", S "want"], idle.contains z = false ∧ z ≠ S "plain" ∧ z ≠ S "k" := by decide +kernel
  exact q z h

theorem fin_rest (KX : (hd.heap_39 w.params).In h₀) (T : Top hd.view_39 loosesW mean mg mb h₀) (K0 : Below callerA h₀ [] h₀)
  {Ta Ra g wn I : Nat} {t d a r : Nat → Nat} {nT nR : Nat} {W : List (Addr × Obj)} {ys : Nat → List Str} {M0 : List (Addr × Obj)} {tv pv : List Value}
  (th : ∀ k, k < 5 → ThingK W Ta Ra g wn k (clsOf k) (t k) (d k) (a k) (r k) (ys k)) (hsm : ∀ k, k < 5 → ∀ y ∈ ys k, Small y) (off : OwnOff W [g, wn])
  (htv : ∀ k, k < 5 → tv[k]? = some (.ref (t k))) (hpv : ∀ k, k < 5 → pv[k]? = some (.ref (r k))) (mT : (Ta, listOf tv.toArray nT) ∈ W) (mR : (Ra, listOf pv.toArray nR) ∈ W)
  (hI : wn < I) (hoI : ∀ p ∈ W, p.1 ≠ I) (hgw : g < wn)
  (done : ∀ (gv wv : List Value) (ds : List Dat) m' h' tk' ng' nw', gv.length ≤ 995 → wv.length ≤ 995 → DatAll M0 gv ds → DatAll M0 wv ds → (∀ d ∈ ds, kqdOk 8 d = true) → (∀ p ∈ [(S "rows", Value.ref Ra), (S "things", .ref Ta), (S "got", .ref g), (S "want", .ref wn)], m' p.1 = some p.2) →
    Fr h₀ L h' m' → News h₀ L h' ((g, listOf gv.toArray ng') :: (wn, listOf wv.toArray nw') :: W) → Q .next { s with heap := h', toks := tk' }) :
  ∀ (j i : Nat) (m : Str → Option Value) (gv wv : List Value) (ds : List Dat) (ng nw : Nat), i + j = 5 → gv.length ≤ 990 + i → wv.length ≤ 990 + i → DatAll M0 gv ds → DatAll M0 wv ds → (∀ d ∈ ds, kqdOk 8 d = true) → (∀ p ∈ [(S "rows", Value.ref Ra), (S "things", .ref Ta), (S "got", .ref g), (S "want", .ref wn)], m p.1 = some p.2) →
  RangeRest PySem.Challenge.rw_dg5010_01.row.prog w (callerA.deeper (envOf (Str.ofString "law") lawScope L fa cd)) (fun _ _ => False) h₀ (envOf (Str.ofString "law") lawScope L fa cd) (Str.ofString "k") finBody Q s I 0 5 j i m ((g, listOf gv.toArray ng) :: (wn, listOf wv.toArray nw) :: W) := by
  intro j
  induction j with
  | zero =>
    intro i m gv wv ds ng nw hij lg lw dG dV hok hm
    exact RangeRest.zero fun h tk F N => done gv wv ds m h tk ng nw (by omega) (by omega) dG dV hok hm F N
  | succ j ih =>
    intro i m gv wv ds ng nw hij lg lw dG dV hok hm
    have hi : i < 5 := by omega
    refine RangeRest.succ fun tk0 h tk F N => ?_
    generalize itR (0 + ((i + 1 : Nat) : Int)) (((5 : Nat) : Int) - ((i + 1 : Nat) : Int)) = it at N ⊢
    rw [Int.zero_add] at F
    refine finW KX T K0 (W := (I, it) :: W) (gv := gv) (wv := wv) (kt := tk0) hi ((th i hi).mono fun p hp => .tail _ hp) (low_join (hsm i hi)) ?o (by omega) (by omega) (htv i hi) (hpv i hi) (.tail _ mT) (.tail _ mR) (F := F) ?hmm (ng := ng) (nw := nw) ?hnn ?hqq
    case o =>
      intro p hp b hb
      rcases List.mem_cons.mp hp with rfl | hp
      · simp only [List.mem_cons, List.not_mem_nil, or_false] at hb
        rcases hb with rfl | rfl
        · exact Nat.ne_of_gt (Nat.lt_trans hgw hI)
        · exact Nat.ne_of_gt hI
      · exact off p hp b hb
    case hmm =>
      refine List.forall_mem_cons.mpr ⟨if_pos rfl, fun p hp => ?_⟩
      have q := quiet5 (z := p.1) (List.mem_map_of_mem (f := Prod.fst) hp)
      exact (if_neg q.2.2).trans (hm p hp)
    case hnn =>
      intro p hp
      refine N p ?_
      simp only [List.mem_cons] at hp ⊢
      rcases hp with hp | hp | hp | hp
      · exact .inr (.inl hp)
      · exact .inr (.inr (.inl hp))
      · exact .inl hp
      · exact .inr (.inr (.inr hp))
    case hqq =>
      intro t1 t2 m' h' tk' ng' nw' hk F' N'
      refine UnrEnd.intro F' N' ((g, listOf (gv ++ [Value.str (finS i (ys i)) t1]).toArray ng') :: (wn, listOf (wv ++ [Value.str (finS i (ys i)) t2]).toArray nw') :: W) ?_ ?_ (ih (i + 1) m' _ _ (ds ++ [.str (finS i (ys i))]) ng' nw' (by omega) (by simp; omega) (by simp; omega) (fin_str dG) (fin_str dV) ?_ ?_)
      · intro p hp
        simp only [List.mem_cons] at hp ⊢
        rcases hp with hp | hp | hp | hp
        · exact .inr (.inr (.inl hp))
        · exact .inl hp
        · exact .inr (.inl hp)
        · exact .inr (.inr (.inr hp))
      · intro p hp
        simp only [List.mem_cons] at hp
        rcases hp with rfl | rfl | hp
        · exact Nat.ne_of_lt (Nat.lt_trans hgw hI)
        · exact Nat.ne_of_lt hI
        · exact hoI p hp
      · intro d hd
        rcases List.mem_append.mp hd with hd | hd
        · exact hok d hd
        · rw [List.mem_singleton.mp hd]
          exact low_ok (fin_low hi (hsm i hi))
      · intro p hp
        have q := quiet5 (z := p.1) (List.mem_map_of_mem (f := Prod.fst) hp)
        exact (hk p.1 q.1 q.2.1).trans ((if_neg q.2.2).trans (hm p hp))
end
end Mine

end

/-! part FinT -/
section
open PySem PySem.W PySem.Calls PyProof.Rows
local macro_rules | `(tactic| walk_at "getAttr ref") => `(tactic| (k_here; k_dflt (first
  | (refine' Mine.own_h ?k1 ?k2 ?k3 ?k4 ?k5 ?k6 ?k7 ?k8 ?k9 ?_; (case k1 => k_asm); (case k2 => k_asm); (case k3 => k_inst); (case k4 => k_is); (case k5 => k_is); (case k6 => k_is); (case k7 => k_is); (case k8 => first | assumption | k_get); (case k9 => k_handed); k_whole)
  | (refine' Mine.prop_h ?k1 ?k2 ?k3 ?k4 ?k10 ?k5 ?k6 ?k7 ?k8 ?k9 ?_; (case k1 => k_asm); (case k2 => k_asm); (case k3 => k_inst); (case k4 => k_is); (case k10 => k_is); (case k5 => k_is); (case k6 => k_is); (case k7 => k_is); (case k8 => k_is); (case k9 => k_is); k_whole; k_enter)
  | (refine' Mine.bound_h ?k1 ?k2 ?k3 ?k4 ?k5 ?k10 ?k6 ?k7 ?k8 ?k9 ?k11 ?k12 ?k13 ?_; (case k4 => k_inst); (case k1 => k_asm); (case k2 => k_asm); (case k7 => k_is); (case k3 => k_asm); (case k5 => k_is); (case k10 => k_is); (case k6 => k_is); (case k8 => k_is); (case k9 => k_is); (case k11 => k_is); (case k12 => decide +kernel); (case k13 => first | assumption | k_get); k_whole; intro q' h' F' N' l1; (try k_lt l1); (try k_sweep)))))
local macro_rules | `(tactic| walk_at "getMethod ref") => `(tactic| (k_here; k_dflt (refine' Mine.method_h ?k1 ?k2 ?k3 ?k4 ?k5 ?_; (case k1 => k_asm); (case k2 => k_asm); (case k3 => k_inst); (case k4 => k_is); (case k5 => k_is); k_whole)))
local macro_rules | `(tactic| size_fits) => `(tactic| first | ((try simp only [List.size_toArray, Array.size_push, List.push_toArray, List.length_append, List.length_cons, List.length_nil]); (simp only [PySem.sizeLine_eq]); omega) | fail "size_fits: mine")
local macro_rules | `(tactic| walk_at "my_keeps") => `(tactic| (intro z hz; (obtain ⟨i1, i2, i3, i4, i5, i6⟩ := Mine.idle_ne hz); first | rfl | ((refine Eq.trans ?_ (congrFun (by assumption : (_ : Str → Option Value) = _) z)); (try simp only [i1, i2, i3, i4, i5, i6, if_false]); done)))
local macro_rules | `(tactic| walk_at "my_expose") => `(tactic| ((have e1 := (rfl : Mine.lawScope = Mine.lawScope)); (conv at e1 => rhs; whnf); (dsimp only at e1); (conv in (Mine.turnAt _) => whnf); (rw [e1]); clear e1))
local macro_rules | `(tactic| walk_at "my_lt") => `(tactic| first | assumption | exact Mine.allLt_to (by assumption) | (refine List.forall_mem_cons.mpr ⟨by (dsimp only; omega), ?_⟩; walk_at "my_lt"))
local macro_rules | `(tactic| walk_at "my_keepsP") => `(tactic| (intro z hz hp9; (obtain ⟨i1, i2, i3, i4, i5, i6⟩ := Mine.idle_ne hz); first | rfl | ((refine Eq.trans ?_ (congrFun (by assumption : (_ : Str → Option Value) = _) z)); (try simp only [i1, i2, i3, i4, i5, i6, hp9, if_false]); done)))
local macro_rules | `(tactic| walk_at "getAttr ref") => `(tactic| (k_here; (with_reducible show wpAny _ _ (getAttr (Value.ref _) (PySem.Str.ofString "data") _) _ _ _); k_dflt (refine' Mine.data_get ?k1 ?k2 ?k3 ?k4 ?k5 ?k6 ?k7 ?_; (case k1 => k_asm); (case k2 => k_asm); (case k3 => k_asm); (case k4 => k_mem); (case k5 => k_mem); (case k6 => k_asm); (case k7 => first | assumption | (unfold Mine.IsCls; decide)); k_whole)))
local macro_rules | `(tactic| walk_at "my_len") => `(tactic| first | omega | ((try simp only [List.length_append, List.length_cons, List.length_nil, List.length_set, List.length_dropLast, List.length_drop]); omega))
local macro_rules | `(tactic| walk_at "call builtin:len") => `(tactic| (k_here; (with_reducible show wpAny _ _ (call (Value.builtin "len") [Value.ref _]) _ _ _); k_dflt (refine' Mine.len_n ?a ?b ?c ?_; (case a => k_asm); (case b => k_mem); (case c => walk_at "my_len"); k_whole)))
local macro_rules | `(tactic| walk_at "call builtin:list.append") => `(tactic| (k_here; (with_reducible show wpAny _ _ (call (Value.builtin _) [Value.ref _, _]) _ _ _); k_dflt (refine' Mine.append_n ?a ?b ?c ?d ?_; (case a => k_asm); (case b => k_asm); (case c => k_upd); (case d => walk_at "my_len"); k_whole); intro h' F' N'; (try k_sweep)))
local macro_rules | `(tactic| walk_at "call builtin:list.pop") => `(tactic| (k_here; (with_reducible show wpAny _ _ (call (Value.builtin _) [Value.ref _]) _ _ _); k_dflt (refine' Mine.pop_n ?a ?b ?c ?d ?e ?_; (case a => k_asm); (case b => k_asm); (case c => k_upd); (case d => walk_at "my_len"); (case e => walk_at "my_len"); k_whole); intro h' y' F' N'; (try k_sweep)))
local macro_rules | `(tactic| walk_at "setItem ref int") => `(tactic| (k_here; (with_reducible show wpAny _ _ (setItem (Value.ref _) (Value.int _ _) _) _ _ _); k_dflt (refine' Mine.set_n ?a ?b ?c ?d ?e ?f ?_; (case a => k_asm); (case b => k_asm); (case c => k_upd); (case d => first | omega | exact Int.fmod_nonneg_of_pos _ (by omega)); (case e => first | (refine Int.lt_of_lt_of_le (Int.fmod_lt_of_pos _ (by omega)) ?_; walk_at "my_len") | walk_at "my_len"); (case f => walk_at "my_len"); k_whole); intro h' F' N'; (try k_sweep)))
local macro_rules | `(tactic| walk_at "subscriptTail Name Slice ref ref") => `(tactic| (k_here; (with_reducible show wpAny _ _ (subscriptTail _ (PySem.Expr.Slice _ _ none _) (Value.ref _) (Value.ref _)) _ _ _); k_dflt (refine' kms_slice_lit ?F ?N ?l ?p ?q ?e ?_ ?s ?t ?z; (case F => k_asm); (case N => k_asm); (case l => exact PyProof.Rows.News.isList (by k_asm) (by k_mem)); (case p => kmk_part); (case q => kmk_part); (case e => first | exact Mine.pick_from _ | exact Mine.pick_all _); (case s => with_unfolding_all rfl); (case t => kmk_pure); (case z => ((simp only [List.size_toArray, PySem.sizeLine_eq]); omega))); intro D' h' F' N' l1; (try k_lt l1); (try dsimp only at F' N'); (try dsimp only); (try k_sweep)))
local macro_rules | `(tactic| walk_at "subscriptTail") => `(tactic| (k_here; (with_reducible show wpAny _ _ (subscriptTail _ _ (Value.ref _) (Value.int _ _)) _ _ _); k_dflt (refine' Mine.item_n ?a ?b ?c ?d ?e ?_; (case a => k_asm); (case b => k_mem); (case e => first | assumption | with_unfolding_all assumption); (case c => first | omega | exact Int.fmod_nonneg_of_pos _ (by omega)); (case d => first | omega | (refine Int.lt_trans (Int.fmod_lt_of_pos _ (by omega)) ?_; omega)); k_whole)))
local macro_rules | `(tactic| walk_at "subscriptTail Name Name ref int") => `(tactic| (k_here; (with_reducible show wpAny _ _ (subscriptTail _ _ (Value.ref _) (Value.int _ _)) _ _ _); k_dflt (refine' Mine.item_n ?a ?b ?c ?d ?e ?_; (case a => k_asm); (case b => k_mem); (case e => first | assumption | with_unfolding_all assumption); (case c => first | omega | exact Int.fmod_nonneg_of_pos _ (by omega)); (case d => first | omega | (refine Int.lt_trans (Int.fmod_lt_of_pos _ (by omega)) ?_; omega)); k_whole)))
local macro_rules | `(tactic| walk_at "getAttr ref") => `(tactic| (k_here; (with_reducible show wpAny _ _ (getAttr (Value.ref _) (PySem.Str.ofString "waypoint_list") _) _ _ _); k_dflt (refine' Mine.wl_get ?k1 ?k2 ?B ?F ?N ?hk ?hd ?t ?d ?a ?D ?v ?w ?_; (case k1 => k_asm); (case k2 => k_asm); (case B => k_asm); (case F => k_asm); (case N => k_asm); (case hk => first | rfl | assumption); (case hd => first | decide | omega | ktr_room); (case t => k_mem); (case d => k_mem); (case D => k_asm); (case a => k_mem); (case v => walk_at "my_len"); (case w => assumption)); intro D' h' tk' F' N' l1; (try k_lt l1); (try dsimp only at F' N'); (try dsimp only); (try k_sweep)))
local macro_rules | `(tactic| walk_at "eval DictComp") => `(tactic| (k_here; with_unfolding_all refine' Mine.dictcomp_k ?a ?b ?c ?d ?e ?_; (case a => with_unfolding_all rfl); (case b => with_unfolding_all rfl); (case c => decide); (case d => (intro _; rfl)); (case e => rfl); (try dsimp only)))
local macro_rules | `(tactic| walk_at "call type:enumerate") => `(tactic| (k_here; (first
  | ((with_reducible show wpAny _ _ (call (Value.type "enumerate") [Value.ref 249]) _ _ _); (with_unfolding_all refine' Mine.comp_call (names := Mine.namesL) ?hh ?F ?N (Mine.fields_rte ?K).1 ?l ?z Mine.namesL_nodup (Mine.fields_rte ?K).2 ?c ?k ?f ?g ?n ?o ?p ?_))
  | ((with_reducible show wpAny _ _ (call (Value.type "enumerate") [Value.ref 99]) _ _ _); (with_unfolding_all refine' Mine.comp_call (names := []) ?hh ?F ?N (Mine.fields_base ?K).1 ?l ?z List.nodup_nil (Mine.fields_base ?K).2 ?c ?k ?f ?g ?n ?o ?p ?_))); (case K => k_asm); (case F => k_asm); (case N => k_asm); (case hh => with_unfolding_all rfl); (case l => rfl); (case z => decide); (case c => decide); (case k => rfl); (case f => with_unfolding_all rfl); (case g => with_unfolding_all rfl); (case n => decide); (case o => decide); (case p => decide); intro D' kvs' h' tk' hlt' F' N' hd' hkv'; (try k_sweep)))
local macro_rules | `(tactic| walk_at "subscriptTail") => `(tactic| (k_here; (with_reducible show wpAny _ _ (subscriptTail _ _ (Value.ref _) (Value.str _ _)) _ _ _); (rename Mine.Kvs _ _ => hkv9); (rename Heap.DictOf _ _ _ _ => hd9); (obtain ⟨t9, hv9⟩ := Mine.Kvs.valueAt hkv9 Mine.namesL_nodup (by assumption)); k_dflt (refine' Mine.item_kvs hd9 hv9 ?_; k_whole); clear hv9 hkv9 hd9))
local macro_rules | `(tactic| walk_at "setItem ref int") => `(tactic| (k_here; (with_reducible show wpAny _ _ (setItem (Value.ref _) (Value.int _ _) _) _ _ _); k_dflt (refine' Mine.setItem_oob ?a ?b ?c ?d ?e ?_; (case a => with_unfolding_all rfl); (case b => exact PyProof.Rows.News.isList (by k_asm) (by k_mem)); (case c => omega); (case d => omega); (case e => ((simp only [List.size_toArray]); omega)); k_whole); intro h' tk' e' hexc'))
local macro_rules | `(tactic| walk_at "call builtin:str.join") => `(tactic| (k_here; (with_reducible show wpAny _ _ (call (Value.builtin _) [Value.str _ _, Value.ref _]) _ _ _); k_dflt (refine' Mine.join_n ?a ?b ?c ?d ?e ?_; (case a => k_asm); (case b => k_mem); (case c => assumption); (case d => decide); (case e => assumption); k_whole); intro t9 k9))
local macro_rules | `(tactic| walk_at "binaryOp Add str str") => `(tactic| (k_here; (with_reducible show wpAny _ _ (binaryOp Operator.Add (Value.str _ _) (Value.str _ _)) _ _ _); k_dflt (refine' Mine.add_n ?a ?b ?_; (case a => decide +kernel); (case b => assumption); k_whole); intro t9 k9))
local macro_rules | `(tactic| walk_at "subscriptTail Name Name ref int") => `(tactic| (k_here; (with_reducible show wpAny _ _ (subscriptTail _ _ (Value.ref 284) (Value.int _ _)) _ _ _); k_dflt (refine' Mine.head_get ?a ?b ?c ?d ?_; (case a => k_asm); (case b => k_asm); (case c => decide); (case d => decide); k_whole); intro t9))
namespace Mine
local macro_rules | `(tactic| walk_at "RangeRest") => `(tactic| (refine Mine.Stop.out ?_))
theorem fin_all {w : World} {mean : ExcName → Option Value} {mg mb : Str → Option Value} {L fa : Addr} {cd : Value} {h₀ : Heap} {Q : Flow → Shared → Prop} {s : Shared} {m : Str → Option Value} (KX : (hd.heap_39 w.params).In h₀) (T : Top hd.view_39 loosesW mean mg mb h₀) (K0 : Below callerA h₀ [] h₀)
  {Ta Ra g wn : Nat} {t d a r : Nat → Nat} {nT nR ng nw : Nat} {W : List (Addr × Obj)} {ys : Nat → List Str} {M0 : List (Addr × Obj)} {tv pv gv wv : List Value} {ds : List Dat}
  (th : ∀ k, k < 5 → ThingK W Ta Ra g wn k (clsOf k) (t k) (d k) (a k) (r k) (ys k)) (hsm : ∀ k, k < 5 → ∀ y ∈ ys k, Small y) (off : OwnOff W [g, wn])
  (htv : ∀ k, k < 5 → tv[k]? = some (.ref (t k))) (hpv : ∀ k, k < 5 → pv[k]? = some (.ref (r k))) (mT : (Ta, listOf tv.toArray nT) ∈ W) (mR : (Ra, listOf pv.toArray nR) ∈ W)
  (hgw : g < wn) (hgv : gv.length ≤ 990) (hwv : wv.length ≤ 990) (dG : DatAll M0 gv ds) (dV : DatAll M0 wv ds) (hok : ∀ d ∈ ds, kqdOk 8 d = true)
  (F : Fr h₀ L s.heap m) (hm : ∀ p ∈ [(S "rows", Value.ref Ra), (S "things", .ref Ta), (S "got", .ref g), (S "want", .ref wn)], m p.1 = some p.2)
  (N : News h₀ L s.heap ((g, listOf gv.toArray ng) :: (wn, listOf wv.toArray nw) :: W))
  (done : ∀ (gv wv : List Value) (ds : List Dat) m' h' tk' ng' nw', gv.length ≤ 995 → wv.length ≤ 995 → DatAll M0 gv ds → DatAll M0 wv ds → (∀ d ∈ ds, kqdOk 8 d = true) → (∀ p ∈ [(S "rows", Value.ref Ra), (S "things", .ref Ta), (S "got", .ref g), (S "want", .ref wn)], m' p.1 = some p.2) →
    Fr h₀ L h' m' → News h₀ L h' ((g, listOf gv.toArray ng') :: (wn, listOf wv.toArray nw') :: W) → Q .next { s with heap := h', toks := tk' }) :
  wpAny (model PySem.Challenge.rw_dg5010_01.row.prog w) (callerA.deeper (envOf (Str.ofString "law") lawScope L fa cd)) (exec (lawAt 7) (envOf (Str.ofString "law") lawScope L fa cd)) Q (fun _ _ => False) s := by
  revert KX
  k_fill
  intro KX
  have e1 := (rfl : lawScope = lawScope)
  conv at e1 => rhs; whnf
  dsimp only at e1
  conv in (Mine.lawAt _) => whnf
  rw [e1]
  clear e1
  replace F := frK F _ hm
  have em := frE _ hm
  simp only [kstB] at F em
  k_steps
  all_goals (
    rename _ ∧ _ ∧ AllLt _ _ => l9
    refine ⟨fin_rest KX T K0 (W := W) th hsm off htv hpv mT mR l9.2.1 (fun p hp => Nat.ne_of_lt (allLt_to l9.2.2 p hp)) hgw ?d 5 0 _ gv wv ds ng nw rfl hgv hwv dG dV hok (fun p hp => (congrFun em p.1).trans (hm p hp))⟩
    case d =>
      intro gv wv ds m' h' tk' ng' nw' q1 q2 q3 q4 q5 q6 F' N'
      exact done gv wv ds m' h' tk' ng' nw' q1 q2 q3 q4 q5 q6 F' N')
end Mine

end

/-! part Tail -/
section
open PySem PySem.W PySem.Calls PyProof.Rows
local macro_rules | `(tactic| walk_at "getAttr ref") => `(tactic| (k_here; k_dflt (first
  | (refine' Mine.own_h ?k1 ?k2 ?k3 ?k4 ?k5 ?k6 ?k7 ?k8 ?k9 ?_; (case k1 => k_asm); (case k2 => k_asm); (case k3 => k_inst); (case k4 => k_is); (case k5 => k_is); (case k6 => k_is); (case k7 => k_is); (case k8 => first | assumption | k_get); (case k9 => k_handed); k_whole)
  | (refine' Mine.prop_h ?k1 ?k2 ?k3 ?k4 ?k10 ?k5 ?k6 ?k7 ?k8 ?k9 ?_; (case k1 => k_asm); (case k2 => k_asm); (case k3 => k_inst); (case k4 => k_is); (case k10 => k_is); (case k5 => k_is); (case k6 => k_is); (case k7 => k_is); (case k8 => k_is); (case k9 => k_is); k_whole; k_enter)
  | (refine' Mine.bound_h ?k1 ?k2 ?k3 ?k4 ?k5 ?k10 ?k6 ?k7 ?k8 ?k9 ?k11 ?k12 ?k13 ?_; (case k4 => k_inst); (case k1 => k_asm); (case k2 => k_asm); (case k7 => k_is); (case k3 => k_asm); (case k5 => k_is); (case k10 => k_is); (case k6 => k_is); (case k8 => k_is); (case k9 => k_is); (case k11 => k_is); (case k12 => decide +kernel); (case k13 => first | assumption | k_get); k_whole; intro q' h' F' N' l1; (try k_lt l1); (try k_sweep)))))
local macro_rules | `(tactic| walk_at "getMethod ref") => `(tactic| (k_here; k_dflt (refine' Mine.method_h ?k1 ?k2 ?k3 ?k4 ?k5 ?_; (case k1 => k_asm); (case k2 => k_asm); (case k3 => k_inst); (case k4 => k_is); (case k5 => k_is); k_whole)))
local macro_rules | `(tactic| size_fits) => `(tactic| first | ((try simp only [List.size_toArray, Array.size_push, List.push_toArray, List.length_append, List.length_cons, List.length_nil]); (simp only [PySem.sizeLine_eq]); omega) | fail "size_fits: mine")
local macro_rules | `(tactic| walk_at "my_keeps") => `(tactic| (intro z hz; (obtain ⟨i1, i2, i3, i4, i5, i6⟩ := Mine.idle_ne hz); first | rfl | ((refine Eq.trans ?_ (congrFun (by assumption : (_ : Str → Option Value) = _) z)); (try simp only [i1, i2, i3, i4, i5, i6, if_false]); done)))
local macro_rules | `(tactic| walk_at "my_expose") => `(tactic| ((have e1 := (rfl : Mine.lawScope = Mine.lawScope)); (conv at e1 => rhs; whnf); (dsimp only at e1); (conv in (Mine.turnAt _) => whnf); (rw [e1]); clear e1))
local macro_rules | `(tactic| walk_at "my_lt") => `(tactic| first | assumption | exact Mine.allLt_to (by assumption) | (refine List.forall_mem_cons.mpr ⟨by (dsimp only; omega), ?_⟩; walk_at "my_lt"))
local macro_rules | `(tactic| walk_at "my_keepsP") => `(tactic| (intro z hz hp9; (obtain ⟨i1, i2, i3, i4, i5, i6⟩ := Mine.idle_ne hz); first | rfl | ((refine Eq.trans ?_ (congrFun (by assumption : (_ : Str → Option Value) = _) z)); (try simp only [i1, i2, i3, i4, i5, i6, hp9, if_false]); done)))
local macro_rules | `(tactic| walk_at "getAttr ref") => `(tactic| (k_here; (with_reducible show wpAny _ _ (getAttr (Value.ref _) (PySem.Str.ofString "data") _) _ _ _); k_dflt (refine' Mine.data_get ?k1 ?k2 ?k3 ?k4 ?k5 ?k6 ?k7 ?_; (case k1 => k_asm); (case k2 => k_asm); (case k3 => k_asm); (case k4 => k_mem); (case k5 => k_mem); (case k6 => k_asm); (case k7 => first | assumption | (unfold Mine.IsCls; decide)); k_whole)))
local macro_rules | `(tactic| walk_at "my_len") => `(tactic| first | omega | ((try simp only [List.length_append, List.length_cons, List.length_nil, List.length_set, List.length_dropLast, List.length_drop]); omega))
local macro_rules | `(tactic| walk_at "call builtin:len") => `(tactic| (k_here; (with_reducible show wpAny _ _ (call (Value.builtin "len") [Value.ref _]) _ _ _); k_dflt (refine' Mine.len_n ?a ?b ?c ?_; (case a => k_asm); (case b => k_mem); (case c => walk_at "my_len"); k_whole)))
local macro_rules | `(tactic| walk_at "call builtin:list.append") => `(tactic| (k_here; (with_reducible show wpAny _ _ (call (Value.builtin _) [Value.ref _, _]) _ _ _); k_dflt (refine' Mine.append_n ?a ?b ?c ?d ?_; (case a => k_asm); (case b => k_asm); (case c => k_upd); (case d => walk_at "my_len"); k_whole); intro h' F' N'; (try k_sweep)))
local macro_rules | `(tactic| walk_at "call builtin:list.pop") => `(tactic| (k_here; (with_reducible show wpAny _ _ (call (Value.builtin _) [Value.ref _]) _ _ _); k_dflt (refine' Mine.pop_n ?a ?b ?c ?d ?e ?_; (case a => k_asm); (case b => k_asm); (case c => k_upd); (case d => walk_at "my_len"); (case e => walk_at "my_len"); k_whole); intro h' y' F' N'; (try k_sweep)))
local macro_rules | `(tactic| walk_at "setItem ref int") => `(tactic| (k_here; (with_reducible show wpAny _ _ (setItem (Value.ref _) (Value.int _ _) _) _ _ _); k_dflt (refine' Mine.set_n ?a ?b ?c ?d ?e ?f ?_; (case a => k_asm); (case b => k_asm); (case c => k_upd); (case d => first | omega | exact Int.fmod_nonneg_of_pos _ (by omega)); (case e => first | (refine Int.lt_of_lt_of_le (Int.fmod_lt_of_pos _ (by omega)) ?_; walk_at "my_len") | walk_at "my_len"); (case f => walk_at "my_len"); k_whole); intro h' F' N'; (try k_sweep)))
local macro_rules | `(tactic| walk_at "subscriptTail Name Slice ref ref") => `(tactic| (k_here; (with_reducible show wpAny _ _ (subscriptTail _ (PySem.Expr.Slice _ _ none _) (Value.ref _) (Value.ref _)) _ _ _); k_dflt (refine' kms_slice_lit ?F ?N ?l ?p ?q ?e ?_ ?s ?t ?z; (case F => k_asm); (case N => k_asm); (case l => exact PyProof.Rows.News.isList (by k_asm) (by k_mem)); (case p => kmk_part); (case q => kmk_part); (case e => first | exact Mine.pick_from _ | exact Mine.pick_all _); (case s => with_unfolding_all rfl); (case t => kmk_pure); (case z => ((simp only [List.size_toArray, PySem.sizeLine_eq]); omega))); intro D' h' F' N' l1; (try k_lt l1); (try dsimp only at F' N'); (try dsimp only); (try k_sweep)))
local macro_rules | `(tactic| walk_at "subscriptTail") => `(tactic| (k_here; (with_reducible show wpAny _ _ (subscriptTail _ _ (Value.ref _) (Value.int _ _)) _ _ _); k_dflt (refine' Mine.item_n ?a ?b ?c ?d ?e ?_; (case a => k_asm); (case b => k_mem); (case e => first | assumption | with_unfolding_all assumption); (case c => first | omega | exact Int.fmod_nonneg_of_pos _ (by omega)); (case d => first | omega | (refine Int.lt_trans (Int.fmod_lt_of_pos _ (by omega)) ?_; omega)); k_whole)))
local macro_rules | `(tactic| walk_at "subscriptTail Name Name ref int") => `(tactic| (k_here; (with_reducible show wpAny _ _ (subscriptTail _ _ (Value.ref _) (Value.int _ _)) _ _ _); k_dflt (refine' Mine.item_n ?a ?b ?c ?d ?e ?_; (case a => k_asm); (case b => k_mem); (case e => first | assumption | with_unfolding_all assumption); (case c => first | omega | exact Int.fmod_nonneg_of_pos _ (by omega)); (case d => first | omega | (refine Int.lt_trans (Int.fmod_lt_of_pos _ (by omega)) ?_; omega)); k_whole)))
local macro_rules | `(tactic| walk_at "call ref") => `(tactic| (k_here; (with_reducible show wpAny _ _ (call (Value.ref 314) _) _ _ _); k_dflt (refine' Mine.base_k ?KX ?T ?K ?F ?N ?_; (case F => k_asm); (case N => k_asm); (case KX => assumption); (case T => assumption); (case K => assumption)); intro l' n' vs' h' tk' F' N' dv' l1; (try k_lt l1)))
namespace Mine
theorem eq_data {prog : Program} {w : World} {A : Around} {E : Value → Shared → Prop} {s : Shared} {h₀ : Heap} {L a b : Addr} {news : List (Addr × Obj)} {xs ys : List Value} {ka kb : Nat} {ds : List Dat} {Q : Value → Shared → Prop}
    (N : News h₀ L s.heap news) (ma : (a, listOf xs.toArray ka) ∈ news) (mb : (b, listOf ys.toArray kb) ∈ news) (Da : DatAll news xs ds) (Db : DatAll news ys ds) (ha : ∀ d ∈ ds, kqdOk 8 d = true) (hu : A.units + 64 < cLine) (h : Q (.bool true) s) :
    wpAny (model prog w) A (compareOp .Eq (.ref a) (.ref b)) Q E s := by
  refine kqd_eq N ma rfl rfl Da (fun _ hp => hp) mb rfl rfl Db (fun _ hp => hp) ha ha hu ?_
  simpa using h
theorem base_ok : ∀ d ∈ [Dat.list baseDat], kqdOk 8 d = true := by decide +kernel
local macro_rules | `(tactic| walk_at "compareOp Eq ref ref") => `(tactic| (k_here; (with_reducible show wpAny _ _ (compareOp _ _ _) _ _ _); refine Mine.Stop.out ?_))
theorem tail3 {w : World} {mean : ExcName → Option Value} {mg mb : Str → Option Value} {L fa : Addr} {cd : Value} {h₀ : Heap} {Q : Flow → Shared → Prop} {s : Shared} {m : Str → Option Value} (KX : (hd.heap_39 w.params).In h₀) (T : Top hd.view_39 loosesW mean mg mb h₀) (K0 : Below callerA h₀ [] h₀)
  {g wn : Nat} {ng nw : Nat} {W : List (Addr × Obj)} {M0 : List (Addr × Obj)} {gv wv : List Value} {ds : List Dat}
  (off : OwnOff W [g, wn]) (hgw : g < wn) (hgv : gv.length ≤ 1000) (hwv : wv.length ≤ 1000) (dG : DatAll M0 gv ds) (dV : DatAll M0 wv ds) (hM : ∀ p ∈ M0, p ∈ W) (hok : ∀ d ∈ ds, kqdOk 8 d = true)
  (F : Fr h₀ L s.heap m) (hm : ∀ p ∈ [(S "got", Value.ref g), (S "want", .ref wn)], m p.1 = some p.2)
  (N : News h₀ L s.heap ((g, listOf gv.toArray ng) :: (wn, listOf wv.toArray nw) :: W))
  (hQ : ∀ m' h' tk', Fr h₀ L h' m' → Q (.ret (.bool true)) { s with heap := h', toks := tk' }) :
  wpAny (model PySem.Challenge.rw_dg5010_01.row.prog w) (callerA.deeper (envOf (Str.ofString "law") lawScope L fa cd)) (execs [lawAt 8, lawAt 9, lawAt 10] (envOf (Str.ofString "law") lawScope L fa cd)) Q (fun _ _ => False) s := by
  revert KX
  k_fill
  intro KX
  have e1 := (rfl : lawScope = lawScope)
  conv at e1 => rhs; whnf
  dsimp only at e1
  conv in (Mine.lawAt 8) => whnf
  conv in (Mine.lawAt 9) => whnf
  conv in (Mine.lawAt 10) => whnf
  rw [e1]
  clear e1
  replace F := frK F _ hm
  have em := frE _ hm
  simp only [kstB] at F em
  k_steps
  rename Fr _ _ _ _ => F9
  rename News _ _ _ _ => N9
  rename DatAll [] _ baseDat => dv9
  refine ⟨eq_data N9 (by k_mem) (by k_mem) (ds := ds ++ [.list baseDat]) ?dg ?dv ?ok ?u ?q⟩
  case dg => exact .append (DatAll.mono (fun p hp => .tail _ (.tail _ (.tail _ (.tail _ (hM p hp))))) dG) (.one (.list (by k_mem) (DatAll.mono (fun _ hp => absurd hp List.not_mem_nil) dv9)))
  case dv => exact .append (DatAll.mono (fun p hp => .tail _ (.tail _ (.tail _ (.tail _ (hM p hp))))) dV) (.one (.list (by k_mem) (.cons (.str _ _) (.cons (.str _ _) (.cons (.str _ _) (.cons (.str _ _) (.cons (.str _ _) (.cons (.int _ _) .nil))))))))
  case ok =>
    intro d hd
    rcases List.mem_append.mp hd with hd | hd
    · exact hok d hd
    · exact base_ok d hd
  case u => first | ke_room | units_room
  case q => exact hQ _ _ _ F9
end Mine

end

/-! part Full3 -/
section
open PySem PySem.W PySem.Calls PyProof.Rows
namespace Mine
section
variable {w : World} {mean : ExcName → Option Value} {mg mb : Str → Option Value} {L fa : Addr} {cd : Value} {h₀ : Heap} {Q : Flow → Shared → Prop} {s : Shared} {m : Str → Option Value}
  {x : Ad} {c : St} {i k : Nat} {M M0 : List (Addr × Obj)}

theorem rem_mem {x : Ad} {c : St} {M : List (Addr × Obj)} {l : List Nat} {b : Nat} (hb : b ∈ x.adr) (hl : b ∉ l) : cell c b ∈ x.rem c M l :=
  List.mem_append_left _ (List.mem_map_of_mem (List.mem_filter.mpr ⟨hb, by simpa using hl⟩))

theorem thingK (ok : x.Ok) (hk : k < 5) (hc : ∀ p ∈ x.cst, p ∈ M) (hi : i ≤ 195) {ys : List Str} (h1 : StrsAre (c (x.a k)).1 ys) (h2 : StrsAre (c (x.r k)).1 ys) (h3 : ys.length ≤ 6 + i) (h4 : ∀ y ∈ ys, Small y) :
    ThingK (x.rem c M [x.g, x.wn]) x.T x.R x.g x.wn k (clsOf k) (x.t k) (x.d k) (x.a k) (x.r k) ys := by
  have e0 := ok.ch k hk
  refine ⟨e0, ?_, by omega, x.es k, x.n k, (c (x.a k)).2, (c (x.r k)).2, (c (x.a k)).1, (c (x.r k)).1, (ok.dict k hk).1, (ok.dict k hk).2, h1, h2, ?_, ?_, List.mem_append_right _ (hc _ (x.t_cst hk)), List.mem_append_right _ (hc _ (x.d_cst hk))⟩
  · have := sum_small h4
    omega
  · refine rem_mem (x.a_mem hk) ?_
    simp only [List.mem_cons, List.not_mem_nil, or_false, not_or]
    exact ⟨by omega, by omega⟩
  · refine rem_mem (x.r_mem hk) ?_
    simp only [List.mem_cons, List.not_mem_nil, or_false, not_or]
    exact ⟨by omega, by omega⟩

theorem allLt_mem {d : Addr} {l : List (Addr × Obj)} (h : AllLt d l) {p : Addr × Obj} (hp : p ∈ l) : p.1 < d := allLt_to h p hp

theorem fullO (KX : (hd.heap_39 w.params).In h₀) (T : Top hd.view_39 loosesW mean mg mb h₀) (K0 : Below callerA h₀ [] h₀) (ok : x.Ok) (hM : OwnOff M x.adr) (hc : ∀ p ∈ x.cst, p ∈ M) (I : InvR x c i) (J : InvD x c M0) (hi : i ≤ 195) (hdv : x.dv.length ≤ 1000) {ai : Int} {at' : Nat}
  (F : Fr h₀ L s.heap m) (hm : ∀ p ∈ [(S "deeds", Value.ref x.D), (S "at", .int ai at'), (S "rows", .ref x.R), (S "things", .ref x.T), (S "got", .ref x.g), (S "want", .ref x.wn)], m p.1 = some p.2)
  (N : News h₀ L s.heap (x.led c ++ M))
  (hQ : ∀ m' h' tk' c' (own : List (Addr × Obj)), Keeps m m' → Fr h₀ L h' m' → News h₀ L h' (x.led c' ++ (own ++ M)) → InvR x c' (i + 1) → InvD x c' (own ++ M0) → (∀ p ∈ own, ∀ b ∈ x.adr, p.1 ≠ b) → (∀ p ∈ own, ∀ q ∈ M, p.1 ≠ q.1) → Q .next { s with heap := h', toks := tk' }) :
  wpAny (model PySem.Challenge.rw_dg5010_01.row.prog w) (callerA.deeper (envOf (Str.ofString "law") lawScope L fa cd)) (exec (turnAt 13) (envOf (Str.ofString "law") lawScope L fa cd)) Q (fun _ _ => False) s := by
  have e0 := ok.ch 0 (by omega)
  have e2 := I.got
  have e3 := I.want
  obtain ⟨ys, hys⟩ := I.rows
  obtain ⟨ds, h1, h2, h3⟩ := J
  have th : ∀ k, k < 5 → ThingK (x.rem c M [x.g, x.wn]) x.T x.R x.g x.wn k (clsOf k) (x.t k) (x.d k) (x.a k) (x.r k) (ys k) := fun k hk =>
    have q := hys k hk
    thingK ok hk hc hi q.1 q.2.1 q.2.2.1 q.2.2.2
  have mr : ∀ p ∈ x.cst, p ∈ x.rem c M [x.g, x.wn] := fun p hp => List.mem_append_right _ (hc p hp)
  refine obs_all KX T K0 (D := x.D) (Ta := x.T) (Ra := x.R) (g := x.g) (wn := x.wn) (dv := x.dv) (nD := x.nD) (nT := x.nT) (nR := x.nR) (gv := (c x.g).1) (wv := (c x.wn).1) (ng := (c x.g).2) (nw := (c x.wn).2) (W := x.rem c M [x.g, x.wn]) (M0 := M0) (ds := ds) (th 0 (by omega)) (th 1 (by omega)) (th 2 (by omega)) (th 3 (by omega)) (th 4 (by omega))
    (x.rem_off hM (by simp [x.g_mem, x.w_mem])) (mr _ x.D_cst) (by omega) (by omega) hdv (mr _ x.T_cst) (mr _ x.R_cst) F hm ?small e0.2.2.2.2.2.2 h1 h2 ?q
  case small =>
    intro p hp
    simp only [List.mem_cons] at hp
    rcases hp with rfl | rfl | rfl | hp
    · exact N _ (x.led_cell x.g_mem)
    · exact N _ (x.led_cell x.w_mem)
    · exact N _ (List.mem_append_right _ (hc _ x.D_cst))
    · exact N p (x.rem_sub p hp)
  case q =>
    intro own gv' wv' ds' m' h' tk' ng' nw' hk' l1 l2 d1 d2 hds lt F' N'
    have ho : ∀ p ∈ own, ∀ b ∈ x.adr, p.1 ≠ b := by
      intro p hp b hb
      by_cases hbl : b ∈ [x.g, x.wn]
      · simp only [List.mem_cons, List.not_mem_nil, or_false] at hbl
        have := (lt p hp).1
        rcases hbl with rfl | rfl
        · exact Nat.ne_of_gt (Nat.lt_trans e0.2.2.2.2.2.2 this)
        · exact Nat.ne_of_gt this
      · exact Nat.ne_of_gt (allLt_mem (lt p hp).2 (rem_mem hb hbl))
    refine hQ m' h' tk' (up2 c x.g (gv', ng') x.wn (wv', nw')) own hk' F' (fun p hp => N' p ?_) (I.gup ok (by omega) (by omega)) (InvD.gup ok d1 d2 ?_) ho (fun p hp q hq => Nat.ne_of_gt (allLt_mem (lt p hp).2 (List.mem_append_right _ hq)))
    · have sw : ∀ p ∈ x.led (up2 c x.g (gv', ng') x.wn (wv', nw')) ++ M, p ∈ (x.g, listOf gv'.toArray ng') :: (x.wn, listOf wv'.toArray nw') :: (own ++ x.rem c M [x.g, x.wn]) := x.back [x.g, x.wn] (fun b hb hbl => by
          simp only [List.mem_cons, List.not_mem_nil, or_false, not_or] at hbl
          exact up2_o hbl.1 hbl.2) (fun b hb => by
          simp only [List.mem_cons, List.not_mem_nil, or_false] at hb
          unfold cell
          rcases hb with rfl | rfl
          · rw [up2_a]; exact .head _
          · rw [up2_r (by omega)]; exact .tail _ (.head _)) (fun q hq => .tail _ (.tail _ (List.mem_append_right _ hq)))
      rcases List.mem_append.mp hp with hp | hp
      · exact sw p (List.mem_append_left _ hp)
      · rcases List.mem_append.mp hp with hp | hp
        · exact .tail _ (.tail _ (List.mem_append_left _ hp))
        · exact sw p (List.mem_append_right _ hp)
    · intro d hd
      rcases List.mem_append.mp hd with hd | hd
      · exact h3 d hd
      · rcases hds with rfl | rfl
        · cases hd
        · simp only [List.mem_cons, List.not_mem_nil, or_false] at hd
          have r := fun k hk => row_ok (k := k) hk (hys k hk).2.2.2
          rcases hd with rfl | rfl | rfl | rfl | rfl
          · exact r 0 (by omega)
          · exact r 1 (by omega)
          · exact r 2 (by omega)
          · exact r 3 (by omega)
          · exact r 4 (by omega)
end
end Mine

end

/-! part TurnAll -/
section
open PySem PySem.W PySem.Calls PyProof.Rows
namespace Mine
theorem quiet13 : ([S "which", S "deed", S "m", S "word", S "thing", S "deeds", S "at", S "things", S "rows", S "handed", S "got", S "want", S "page"]).all (fun z => !idle.contains z) = true := by decide +kernel
theorem quietP : ([S "which", S "deed", S "m", S "word", S "thing", S "deeds", S "at", S "things", S "rows", S "handed", S "got", S "want"]).all (fun z => !idle.contains z && z != S "page") = true := by decide +kernel
theorem quietT : ([S "deeds", S "at", S "things", S "rows", S "handed", S "got", S "want"]).all (fun z => !turnNames.contains z) = true := by decide +kernel
theorem keepsP_at {m m' : Str → Option Value} (hk : KeepsP m m') {l : List (Str × Value)} (h : ∀ p ∈ l, m p.1 = some p.2) (hi : (l.map (·.1)).all (fun z => !idle.contains z && z != S "page") = true) : ∀ p ∈ l, m' p.1 = some p.2 := fun p hp => by
  have := List.all_eq_true.mp hi p.1 (List.mem_map_of_mem hp)
  rw [Bool.and_eq_true] at this
  exact (hk p.1 (by simpa using this.1) (by simpa using this.2)).trans (h p hp)
theorem turn_body : bodyOf (lawAt 6) = [turnAt 0, turnAt 1, turnAt 2, turnAt 3, turnAt 4, turnAt 5, turnAt 6, turnAt 7, turnAt 8, turnAt 9, turnAt 10, turnAt 11, turnAt 12, turnAt 13] := rfl
theorem ts_get (x : Ad) {k : Nat} (hk : k < 5) : x.ts[((k : Int)).toNat]? = some (.ref (x.t k)) := by
  match k, hk with
  | 0, _ | 1, _ | 2, _ | 3, _ | 4, _ => rfl
theorem rs_get (x : Ad) {k : Nat} (hk : k < 5) : x.rs[((k : Int)).toNat]? = some (.ref (x.r k)) := by
  match k, hk with
  | 0, _ | 1, _ | 2, _ | 3, _ | 4, _ => rfl
section
variable {w : World} {mean : ExcName → Option Value} {mg mb : Str → Option Value} {L fa : Addr} {cd : Value} {h₀ : Heap} {Q : Flow → Shared → Prop} {s : Shared} {m : Str → Option Value}
  {x : Ad} {c : St} {i : Nat} {M M0 : List (Addr × Obj)}
theorem turn_all (KX : (hd.heap_39 w.params).In h₀) (T : Top hd.view_39 loosesW mean mg mb h₀) (K0 : Below callerA h₀ [] h₀) (ok : x.Ok) (hM : OwnOff M x.adr) (hc : ∀ p ∈ x.cst, p ∈ M) (I : InvR x c i) (J : InvD x c M0) (hi : i ≤ 185) (hdv : x.dv.length ≤ 1000) {ai nn : Int} {at' nt : Nat}
  (ha0 : 0 ≤ ai) (ha1 : ai < 1000) (hdn : x.dv[ai.toNat]? = some (.int nn nt))
  (F : Fr h₀ L s.heap m) (hm : ∀ p ∈ [(S "deeds", Value.ref x.D), (S "at", .int ai at'), (S "things", .ref x.T), (S "rows", .ref x.R), (S "handed", .ref x.H), (S "got", .ref x.g), (S "want", .ref x.wn)], m p.1 = some p.2)
  (N : News h₀ L s.heap (x.led c ++ M))
  (hQ : ∀ m' h' tk' c' (own : List (Addr × Obj)), (∀ z, turnNames.contains z = false → idle.contains z = false → m' z = m z) → Fr h₀ L h' m' → News h₀ L h' (x.led c' ++ (own ++ M)) → InvR x c' (i + 7) → InvD x c' (own ++ M0) → (∀ p ∈ own, ∀ b ∈ x.adr, p.1 ≠ b) → (∀ p ∈ own, ∀ q ∈ M, p.1 ≠ q.1) → Q .next { s with heap := h', toks := tk' }) :
  wpAny (model PySem.Challenge.rw_dg5010_01.row.prog w) (callerA.deeper (envOf (Str.ofString "law") lawScope L fa cd)) (execs (bodyOf (lawAt 6)) (envOf (Str.ofString "law") lawScope L fa cd)) Q (fun _ _ => False) s := by
  obtain ⟨k, hk, ek⟩ : ∃ k : Nat, k < 5 ∧ nn.fmod 5 = (k : Int) := by
    have h1 := Int.fmod_lt_of_pos nn (b := 5) (by decide)
    have h2 := Int.fmod_nonneg_of_pos nn (b := 5) (by decide)
    exact ⟨(nn.fmod 5).toNat, by omega, by omega⟩
  rw [turn_body]
  refine prel KX T K0 (D := x.D) (Ta := x.T) (Ra := x.R) (dv := x.dv) (tv := x.ts) (pv := x.rs) (nD := x.nD) (nT := x.nT) (nR := x.nR) (t := x.t k) (r := x.r k) (rs := x.led c ++ M) (nn := nn) (nt := nt) (at' := at') ha0 ha1 hdn (by rw [ek]; exact ts_get x hk) (by rw [ek]; exact rs_get x hk) F ?sub ?small fun m1 h1 tk1 word t1 t2 t3 t4 hw F1 N1 hf hkeep => ?go
  case sub =>
    intro p hp
    refine hm p ?_
    simp only [List.mem_cons, List.not_mem_nil, or_false] at hp ⊢
    rcases hp with hp | hp | hp | hp
    · exact .inl hp
    · exact .inr (.inl hp)
    · exact .inr (.inr (.inl hp))
    · exact .inr (.inr (.inr (.inl hp)))
  case small =>
    intro p hp
    simp only [List.mem_cons] at hp
    rcases hp with rfl | rfl | rfl | hp
    · exact N _ (List.mem_append_right _ (hc _ x.D_cst))
    · exact N _ (List.mem_append_right _ (hc _ x.T_cst))
    · exact N _ (List.mem_append_right _ (hc _ x.R_cst))
    · exact N p hp
  case go =>
  have N1' : News h₀ L h1 (x.led c ++ M) := fun p hp => N1 p (.tail _ (.tail _ (.tail _ hp)))
  rw [ek] at hf
  have om : ∀ p ∈ [(S "deeds", Value.ref x.D), (S "at", .int ai at'), (S "things", .ref x.T), (S "rows", .ref x.R), (S "handed", .ref x.H), (S "got", .ref x.g), (S "want", .ref x.wn)], m1 p.1 = some p.2 := fun p hp => (hkeep p.1 (by have := List.all_eq_true.mp quietT p.1 (List.mem_map_of_mem (f := Prod.fst) hp); simpa using this)).trans (hm p hp)
  have P1 : ∀ p ∈ [(S "which", Value.int (k : Int) t1), (S "deed", .int ((nn.fdiv 5).fmod 6) t2), (S "m", .int (nn.fdiv 30) t3), (S "word", .str word t4), (S "thing", .ref (x.t k)), (S "deeds", .ref x.D), (S "at", .int ai at'), (S "things", .ref x.T), (S "rows", .ref x.R), (S "handed", .ref x.H), (S "got", .ref x.g), (S "want", .ref x.wn), (S "page", .ref (x.r k))], m1 p.1 = some p.2 :=
    (List.forall_mem_cons.mpr ⟨hf _ (.head _), List.forall_mem_cons.mpr ⟨hf _ (.tail _ (.head _)), List.forall_mem_cons.mpr ⟨hf _ (.tail _ (.tail _ (.head _))), List.forall_mem_cons.mpr ⟨hf _ (.tail _ (.tail _ (.tail _ (.head _)))), List.forall_mem_cons.mpr ⟨hf _ (.tail _ (.tail _ (.tail _ (.tail _ (.head _))))), List.forall_mem_cons.mpr ⟨om _ (.head _), List.forall_mem_cons.mpr ⟨om _ (.tail _ (.head _)), List.forall_mem_cons.mpr ⟨om _ (.tail _ (.tail _ (.head _))), List.forall_mem_cons.mpr ⟨om _ (.tail _ (.tail _ (.tail _ (.head _)))), List.forall_mem_cons.mpr ⟨om _ (.tail _ (.tail _ (.tail _ (.tail _ (.head _))))), List.forall_mem_cons.mpr ⟨om _ (.tail _ (.tail _ (.tail _ (.tail _ (.tail _ (.head _)))))), List.forall_mem_cons.mpr ⟨om _ (.tail _ (.tail _ (.tail _ (.tail _ (.tail _ (.tail _ (.head _))))))), List.forall_mem_cons.mpr ⟨hf _ (.tail _ (.tail _ (.tail _ (.tail _ (.tail _ (.head _)))))), List.forall_mem_nil _⟩⟩⟩⟩⟩⟩⟩⟩⟩⟩⟩⟩⟩)
  refine wpAny_execs_cons (full0 (i := i) KX T K0 ok hk hc I (by omega) F1 (List.forall_mem_cons.mpr ⟨P1 _ (.tail _ (.head _)), List.forall_mem_cons.mpr ⟨P1 _ (.head _), List.forall_mem_cons.mpr ⟨P1 _ (.tail _ (.tail _ (.tail _ (.tail _ (.head _))))), List.forall_mem_nil _⟩⟩⟩) N1' fun m2 h2 tk2 kp2 F2 N2 => ?_)
  dsimp only
  have P2 := keeps_at kp2 P1 quiet13
  refine wpAny_execs_cons (full1 KX T K0 ok hk hM hc I J (by omega) hw F2 (List.forall_mem_cons.mpr ⟨P2 _ (.tail _ (.head _)), List.forall_mem_cons.mpr ⟨P2 _ (.tail _ (.tail _ (.tail _ (.head _)))), List.forall_mem_cons.mpr ⟨P2 _ (.tail _ (.tail _ (.tail _ (.tail _ (.head _))))), List.forall_mem_cons.mpr ⟨P2 _ (.tail _ (.tail _ (.tail _ (.tail _ (.tail _ (.tail _ (.tail _ (.tail _ (.tail _ (.tail _ (.tail _ (.tail _ (.head _))))))))))))), List.forall_mem_nil _⟩⟩⟩⟩) N2 fun m3 h3 tk3 c3 kp3 F3 N3 I3 J3 => ?_)
  dsimp only
  have P3 := keeps_at kp3 P2 quiet13
  refine wpAny_execs_cons (full2 KX T K0 ok hk hM hc I3 J3 (by omega) hw F3 (List.forall_mem_cons.mpr ⟨P3 _ (.tail _ (.head _)), List.forall_mem_cons.mpr ⟨P3 _ (.tail _ (.tail _ (.tail _ (.head _)))), List.forall_mem_cons.mpr ⟨P3 _ (.tail _ (.tail _ (.tail _ (.tail _ (.head _))))), List.forall_mem_cons.mpr ⟨P3 _ (.tail _ (.tail _ (.tail _ (.tail _ (.tail _ (.tail _ (.tail _ (.tail _ (.tail _ (.tail _ (.tail _ (.tail _ (.head _))))))))))))), List.forall_mem_cons.mpr ⟨P3 _ (.tail _ (.tail _ (.head _))), List.forall_mem_nil _⟩⟩⟩⟩⟩) N3 fun m4 h4 tk4 c4 kp4 F4 N4 I4 J4 => ?_)
  dsimp only
  have P4 := keeps_at kp4 P3 quiet13
  refine wpAny_execs_cons (full3 KX T K0 ok hk hM hc I4 J4 (by omega)  F4 (List.forall_mem_cons.mpr ⟨P4 _ (.tail _ (.head _)), List.forall_mem_cons.mpr ⟨P4 _ (.tail _ (.tail _ (.tail _ (.tail _ (.head _))))), List.forall_mem_cons.mpr ⟨P4 _ (.tail _ (.tail _ (.tail _ (.tail _ (.tail _ (.tail _ (.tail _ (.tail _ (.tail _ (.tail _ (.tail _ (.tail _ (.head _))))))))))))), List.forall_mem_nil _⟩⟩⟩) N4 fun m5 h5 tk5 c5 kp5 F5 N5 I5 J5 => ?_)
  dsimp only
  have P5 := keeps_at kp5 P4 quiet13
  refine wpAny_execs_cons (full4 KX T K0 ok hk hM hc I5 J5 (by omega)  F5 (List.forall_mem_cons.mpr ⟨P5 _ (.tail _ (.head _)), List.forall_mem_cons.mpr ⟨P5 _ (.head _), List.forall_mem_cons.mpr ⟨P5 _ (.tail _ (.tail _ (.tail _ (.tail _ (.tail _ (.tail _ (.tail _ (.tail _ (.tail _ (.head _)))))))))), List.forall_mem_nil _⟩⟩⟩) N5 fun m6 h6 tk6 c6 kp6 F6 N6 I6 J6 => ?_)
  dsimp only
  have P6 := keeps_at kp6 P5 quiet13
  have P12 : ∀ p ∈ [(S "which", Value.int (k : Int) t1), (S "deed", .int ((nn.fdiv 5).fmod 6) t2), (S "m", .int (nn.fdiv 30) t3), (S "word", .str word t4), (S "thing", .ref (x.t k)), (S "deeds", .ref x.D), (S "at", .int ai at'), (S "things", .ref x.T), (S "rows", .ref x.R), (S "handed", .ref x.H), (S "got", .ref x.g), (S "want", .ref x.wn)], m6 p.1 = some p.2 := fun p hp => P6 p (by
    simp only [List.mem_cons, List.not_mem_nil, or_false] at hp ⊢
    rcases hp with hp | hp | hp | hp | hp | hp | hp | hp | hp | hp | hp | hp
    · exact .inl hp
    · exact .inr (.inl hp)
    · exact .inr (.inr (.inl hp))
    · exact .inr (.inr (.inr (.inl hp)))
    · exact .inr (.inr (.inr (.inr (.inl hp))))
    · exact .inr (.inr (.inr (.inr (.inr (.inl hp)))))
    · exact .inr (.inr (.inr (.inr (.inr (.inr (.inl hp))))))
    · exact .inr (.inr (.inr (.inr (.inr (.inr (.inr (.inl hp)))))))
    · exact .inr (.inr (.inr (.inr (.inr (.inr (.inr (.inr (.inl hp))))))))
    · exact .inr (.inr (.inr (.inr (.inr (.inr (.inr (.inr (.inr (.inl hp)))))))))
    · exact .inr (.inr (.inr (.inr (.inr (.inr (.inr (.inr (.inr (.inr (.inl hp))))))))))
    · exact .inr (.inr (.inr (.inr (.inr (.inr (.inr (.inr (.inr (.inr (.inr (.inl hp))))))))))))
  refine wpAny_execs_cons (full5 KX T K0 ok hM hc I6 J6 (by omega) hw F6 (List.forall_mem_cons.mpr ⟨P12 _ (.tail _ (.head _)), List.forall_mem_cons.mpr ⟨P12 _ (.tail _ (.tail _ (.head _))), List.forall_mem_cons.mpr ⟨P12 _ (.tail _ (.tail _ (.tail _ (.head _)))), List.forall_mem_cons.mpr ⟨P12 _ (.tail _ (.tail _ (.tail _ (.tail _ (.tail _ (.tail _ (.tail _ (.tail _ (.head _))))))))), List.forall_mem_cons.mpr ⟨P12 _ (.tail _ (.tail _ (.tail _ (.tail _ (.tail _ (.tail _ (.tail _ (.head _)))))))), List.forall_mem_cons.mpr ⟨P12 _ (.tail _ (.tail _ (.tail _ (.tail _ (.tail _ (.tail _ (.tail _ (.tail _ (.tail _ (.tail _ (.head _))))))))))), List.forall_mem_cons.mpr ⟨P12 _ (.tail _ (.tail _ (.tail _ (.tail _ (.tail _ (.tail _ (.tail _ (.tail _ (.tail _ (.tail _ (.tail _ (.head _)))))))))))), List.forall_mem_nil _⟩⟩⟩⟩⟩⟩⟩) N6 fun m7 h7 tk7 c7 kp7 F7 N7 I7 J7 => ?_)
  dsimp only
  have P7 := keepsP_at kp7 P12 quietP
  refine wpAny_execs_cons (fullO KX T K0 ok hM hc I7 J7 (by omega) hdv F7 (List.forall_mem_cons.mpr ⟨P7 _ (.tail _ (.tail _ (.tail _ (.tail _ (.tail _ (.head _)))))), List.forall_mem_cons.mpr ⟨P7 _ (.tail _ (.tail _ (.tail _ (.tail _ (.tail _ (.tail _ (.head _))))))), List.forall_mem_cons.mpr ⟨P7 _ (.tail _ (.tail _ (.tail _ (.tail _ (.tail _ (.tail _ (.tail _ (.tail _ (.head _))))))))), List.forall_mem_cons.mpr ⟨P7 _ (.tail _ (.tail _ (.tail _ (.tail _ (.tail _ (.tail _ (.tail _ (.head _)))))))), List.forall_mem_cons.mpr ⟨P7 _ (.tail _ (.tail _ (.tail _ (.tail _ (.tail _ (.tail _ (.tail _ (.tail _ (.tail _ (.tail _ (.head _))))))))))), List.forall_mem_cons.mpr ⟨P7 _ (.tail _ (.tail _ (.tail _ (.tail _ (.tail _ (.tail _ (.tail _ (.tail _ (.tail _ (.tail _ (.tail _ (.head _)))))))))))), List.forall_mem_nil _⟩⟩⟩⟩⟩⟩) N7 fun m8 h8 tk8 c8 own kp8 F8 N8 I8 J8 o1 o2 => wpAny_execs_nil ?_)
  refine hQ m8 h8 tk8 c8 own (fun z hz hi => ?_) F8 N8 I8 J8 o1 o2
  have hpg : z ≠ S "page" := (turn_ne hz).2.2.2.2.2.2
  rw [kp8 z hi, kp7 z hi hpg, kp6 z hi, kp5 z hi, kp4 z hi, kp3 z hi, kp2 z hi, hkeep z hz]
end
end Mine

end

/-! part Loop -/
section
open PySem PySem.W PySem.Calls PyProof.Rows
namespace Mine
def fixedPs (x : Ad) : List (Str × Value) := [(S "deeds", Value.ref x.D), (S "things", .ref x.T), (S "rows", .ref x.R), (S "handed", .ref x.H), (S "got", .ref x.g), (S "want", .ref x.wn)]
def loopStored : List Str := turnNames ++ idle
def Ad.all (x : Ad) : List Nat := x.adr ++ x.cst.map (·.1)
theorem Ad.all_eq (x : Ad) (c : St) : (x.led c ++ x.cst).map (·.1) = x.all := by
  unfold Ad.led Ad.all
  rw [List.map_append, List.map_map]
  have : ((fun p : Addr × Obj => p.1) ∘ cell c) = id := rfl
  rw [this, List.map_id]
theorem kst_get {g : Str → Option Value} : ∀ {ps : List (Str × Value)}, (ps.map (·.1)).Nodup → ∀ {p}, p ∈ ps → kstB g ps p.1 = some p.2
  | [], _, _, h => nomatch h
  | q :: r, hnd, p, h => by
    rw [List.map_cons, List.nodup_cons] at hnd
    rcases List.mem_cons.mp h with rfl | h
    · exact if_pos rfl
    · refine Eq.trans (if_neg ?_) (kst_get hnd.2 h)
      intro e
      exact hnd.1 (e ▸ List.mem_map_of_mem h)
theorem kst_miss {g : Str → Option Value} {z : Str} : ∀ {ps : List (Str × Value)}, (∀ p ∈ ps, z ≠ p.1) → kstB g ps z = g z
  | [], _ => rfl
  | q :: r, h => (if_neg (h q (.head _))).trans (kst_miss fun p hp => h p (.tail _ hp))
theorem fixed_nd (x : Ad) : ((fixedPs x).map (·.1)).Nodup := by
  show ([S "deeds", S "things", S "rows", S "handed", S "got", S "want"]).Nodup
  decide +kernel
theorem fixed_at (x : Ad) : ∀ p ∈ fixedPs x, p.1 ≠ S "at" := by
  intro p hp
  have h := List.mem_map_of_mem (f := Prod.fst) hp
  have q : ∀ z ∈ [S "deeds", S "things", S "rows", S "handed", S "got", S "want"], z ≠ S "at" := by decide +kernel
  exact q _ h
theorem fixed_quiet (x : Ad) : ∀ p ∈ fixedPs x, turnNames.contains p.1 = false ∧ idle.contains p.1 = false := by
  intro p hp
  have h := List.mem_map_of_mem (f := Prod.fst) hp
  have q : ∀ z ∈ [S "deeds", S "things", S "rows", S "handed", S "got", S "want"], turnNames.contains z = false ∧ idle.contains z = false := by decide +kernel
  exact q _ h
section
variable {w : World} {mean : ExcName → Option Value} {mg mb : Str → Option Value} {L fa : Addr} {cd : Value} {h₀ : Heap} {Q : Flow → Shared → Prop} {s : Shared} {m₀ : Str → Option Value}
  {x : Ad} {c₀ : St}
theorem loop_all (KX : (hd.heap_39 w.params).In h₀) (T : Top hd.view_39 loosesW mean mg mb h₀) (K0 : Below callerA h₀ [] h₀) (ok : x.Ok) {r : Addr} {b₀ : Int} {t₀ u₀ v₀ : Tok} {n : Nat} {news : List (Addr × Obj)}
  (hn27 : n ≤ 27) (hdv : x.dv.length ≤ 1000) (hds : ∀ j : Nat, j < n → ∃ nn nt, x.dv[j]? = some (.int nn nt))
  (hr : IsRange s.heap r 0 b₀ 1 t₀ u₀ v₀) (hsmall : Builtin.Range.small 0 b₀ 1 = true) (hsz : Builtin.Range.rangeSize 0 b₀ 1 = (n : Int)) (F : Fr h₀ L s.heap m₀) (N : News h₀ L s.heap news) (hn : ∀ p ∈ x.led c₀ ++ (x.cst ++ []), p ∈ news)
  (J : InvD x c₀ (x.cst ++ [])) (I : InvR x c₀ 0) (hk : ∀ p ∈ fixedPs x, m₀ p.1 = some p.2)
  (done : ∀ c tl (u : Str → Option Value) h tk, OwnOff tl x.all → InvD x c (x.cst ++ tl) → InvR x c (7 * n) → Fr h₀ L h (fun y => if y = S "at" then u y else kstB (fun z => if loopStored.contains z then u z else m₀ z) (fixedPs x) y) → News h₀ L h (x.led c ++ (x.cst ++ tl)) → Q .next { s with heap := h, toks := tk }) :
  wpAny (model PySem.Challenge.rw_dg5010_01.row.prog w) (callerA.deeper (envOf (Str.ofString "law") lawScope L fa cd)) (pyIter (.ref r)) (fun it s₂ => LoopAtV PySem.Challenge.rw_dg5010_01.row.prog w (callerA.deeper (envOf (Str.ofString "law") lawScope L fa cd)) h₀ (envOf (Str.ofString "law") lawScope L fa cd) (S "at") (bodyOf (lawAt 6)) Q (fun _ _ => False) it s₂) (fun _ _ => False) s := by
  refine kd_range (σ := St) x.led x.cst (fun _ => fixedPs x) (fun l c => InvD x c l) loopStored (fun pre c => InvR x c (7 * pre.length)) x.all c₀ rfl hr hsmall hsz F N hn x.all_eq J hk I ?turn ?done
  case done =>
    intro c tl u h tk ho hf hp F' N'
    refine done c tl u h tk ho hf ?_ F' N'
    have e : (rangeKs 0 n).length = n := by simp [rangeKs]
    rw [e] at hp
    exact hp
  case turn =>
    intro c tl pre k t u h tk own ek hlt hsep hoff hf hp F' N'
    have sub1 : ∀ b ∈ x.adr, b ∈ x.all := fun b hb => List.mem_append_left _ hb
    have hM : OwnOff (x.cst ++ (tl ++ own)) x.adr := by
      intro p hp b hb
      rcases List.mem_append.mp hp with hp | hp
      · exact ok.off p hp b hb
      · exact hoff p hp b (sub1 b hb)
    obtain ⟨nn, nt, hdn⟩ := hds pre.length hlt
    have ek' : k.toNat = pre.length := by omega
    refine turn_all KX T K0 ok hM (fun p hp => List.mem_append_left _ hp) hp hf (by omega) hdv (ai := k) (nn := nn) (at' := t) (nt := nt) (by omega) (by omega) (by rw [ek']; exact hdn) F' ?hm N' ?q
    case hm =>
      have fx : ∀ p ∈ fixedPs x, (if p.1 = S "at" then some (Value.int k t) else kstB (fun z => if loopStored.contains z then u z else m₀ z) (fixedPs x) p.1) = some p.2 := fun p hp => (if_neg (fixed_at x p hp)).trans (kst_get (fixed_nd x) hp)
      refine List.forall_mem_cons.mpr ⟨fx _ (.head _), List.forall_mem_cons.mpr ⟨if_pos rfl, fun p hp => fx p (.tail _ hp)⟩⟩
    case q =>
      intro m' h' tk' c' own' hk' F2 N2 I2 J2 o1 o2
      have hmono : ∀ p ∈ own' ++ (x.cst ++ tl), p ∈ x.cst ++ (own' ++ tl) := by
        intro p hp
        simp only [List.mem_append] at hp ⊢
        rcases hp with hp | hp | hp
        · exact .inr (.inl hp)
        · exact .inl hp
        · exact .inr (.inr hp)
      have offT : OwnOff (own' ++ tl) x.all := by
        intro p hp b hb
        rcases List.mem_append.mp hp with hp | hp
        · rcases List.mem_append.mp hb with hb | hb
          · exact o1 p hp b hb
          · obtain ⟨q, hq, rfl⟩ := List.mem_map.mp hb
            exact o2 p hp q (List.mem_append_left _ hq)
        · exact hoff p (List.mem_append_left _ hp) b hb
      refine ⟨h', tk', m', _, x.led c' ++ (x.cst ++ (own' ++ tl)), rfl, F2, N2, ?_, ?_, ?_, c', own' ++ tl, rfl, offT, ?_, ?_, ?_, ?_⟩
      · intro p hp
        simp only [List.mem_append] at hp ⊢
        rcases hp with hp | hp | hp | hp
        · exact .inl hp
        · exact .inr (.inr (.inl hp))
        · exact .inr (.inl hp)
        · exact .inr (.inr (.inr (.inl hp)))
      · intro p hp
        simp only [List.mem_append]
        exact .inr (.inr (.inr (.inr hp)))
      · intro p hp b hb
        have q1 : ∀ b ∈ x.all, p.1 ≠ b := hoff p (List.mem_append_right _ hp)
        rw [← List.append_assoc, List.map_append, x.all_eq] at hb
        rcases List.mem_append.mp hb with hb | hb
        · exact q1 b hb
        · obtain ⟨q, hq, rfl⟩ := List.mem_map.mp hb
          rcases List.mem_append.mp hq with hq | hq
          · exact (o2 q hq p (List.mem_append_right _ (List.mem_append_right _ hp))).symm
          · exact hsep.two p hp _ (List.mem_map_of_mem hq)
      · obtain ⟨ds, d1, d2, d3⟩ := J2
        exact ⟨ds, DatAll.mono hmono d1, DatAll.mono hmono d2, d3⟩
      · intro p hp
        have z := fixed_quiet x p hp
        exact (hk' p.1 z.1 z.2).trans ((if_neg (fixed_at x p hp)).trans (kst_get (fixed_nd x) hp))
      · intro z hz hps hst
        have hs : turnNames.contains z = false ∧ idle.contains z = false := by
          have q : (turnNames ++ idle).contains z = false := hst
          simpa [List.contains_eq_mem, List.mem_append, not_or] using q
        refine (hk' z hs.1 hs.2).trans ((if_neg hz).trans ((kst_miss hps).trans ?_))
        rw [hst]
        rfl
      · have e : (pre ++ [k]).length = pre.length + 1 := by simp
        show InvR x c' (7 * (pre ++ [k]).length)
        rw [e, Nat.mul_add]
        exact I2
end
end Mine

end

/-! part After -/
section
open PySem PySem.W PySem.Calls PyProof.Rows
namespace Mine
section
variable {w : World} {mean : ExcName → Option Value} {mg mb : Str → Option Value} {L fa : Addr} {cd : Value} {h₀ : Heap} {Q : Flow → Shared → Prop} {s : Shared} {m : Str → Option Value} {x : Ad} {c : St}
theorem ts_at (x : Ad) : ∀ k, k < 5 → x.ts[k]? = some (.ref (x.t k))
  | 0, _ | 1, _ | 2, _ | 3, _ | 4, _ => rfl
theorem rs_at (x : Ad) : ∀ k, k < 5 → x.rs[k]? = some (.ref (x.r k))
  | 0, _ | 1, _ | 2, _ | 3, _ | 4, _ => rfl
theorem after_loop (KX : (hd.heap_39 w.params).In h₀) (T : Top hd.view_39 loosesW mean mg mb h₀) (K0 : Below callerA h₀ [] h₀) (ok : x.Ok) {n : Nat} (hn27 : n ≤ 27) {tl : List (Addr × Obj)}
  (ho : OwnOff tl x.all) (J : InvD x c (x.cst ++ tl)) (I : InvR x c (7 * n)) (F : Fr h₀ L s.heap m) (hm : ∀ p ∈ fixedPs x, m p.1 = some p.2) (N : News h₀ L s.heap (x.led c ++ (x.cst ++ tl)))
  (hQ : ∀ m' h' tk', Fr h₀ L h' m' → Q (.ret (.bool true)) { s with heap := h', toks := tk' }) :
  wpAny (model PySem.Challenge.rw_dg5010_01.row.prog w) (callerA.deeper (envOf (Str.ofString "law") lawScope L fa cd)) (execs [lawAt 7, lawAt 8, lawAt 9, lawAt 10] (envOf (Str.ofString "law") lawScope L fa cd)) Q (fun _ _ => False) s := by
  have e0 := ok.ch 0 (by omega)
  have e2 := I.got
  have e3 := I.want
  obtain ⟨ys, hys⟩ := I.rows
  obtain ⟨ds, h1, h2, h3⟩ := J
  have hM : OwnOff (x.cst ++ tl) x.adr := by
    intro p hp b hb
    rcases List.mem_append.mp hp with hp | hp
    · exact ok.off p hp b hb
    · exact ho p hp b (List.mem_append_left _ hb)
  have th : ∀ k, k < 5 → ThingK (x.rem c (x.cst ++ tl) [x.g, x.wn]) x.T x.R x.g x.wn k (clsOf k) (x.t k) (x.d k) (x.a k) (x.r k) (ys k) := fun k hk =>
    have q := hys k hk
    thingK ok hk (fun p hp => List.mem_append_left _ hp) (by omega) q.1 q.2.1 q.2.2.1 q.2.2.2
  have mr : ∀ p ∈ x.cst, p ∈ x.rem c (x.cst ++ tl) [x.g, x.wn] := fun p hp => List.mem_append_right _ (List.mem_append_left _ hp)
  have off := x.rem_off (c := c) hM (l := [x.g, x.wn]) (by simp [x.g_mem, x.w_mem])
  have hq : ∀ p ∈ [(S "rows", Value.ref x.R), (S "things", .ref x.T), (S "got", .ref x.g), (S "want", .ref x.wn)], m p.1 = some p.2 := by
    intro p hp
    refine hm p ?_
    simp only [List.mem_cons, List.not_mem_nil, or_false] at hp
    unfold fixedPs
    simp only [List.mem_cons, List.not_mem_nil, or_false]
    rcases hp with rfl | rfl | rfl | rfl <;> simp
  refine wpAny_execs_cons ?_
  refine fin_all KX T K0 (W := x.rem c (x.cst ++ tl) [x.g, x.wn]) (M0 := x.cst ++ tl) (tv := x.ts) (pv := x.rs) (nT := x.nT) (nR := x.nR) (gv := (c x.g).1) (wv := (c x.wn).1) (ng := (c x.g).2) (nw := (c x.wn).2) th (fun k hk => (hys k hk).2.2.2) off (ts_at x) (rs_at x) (mr _ x.T_cst) (mr _ x.R_cst) e0.2.2.2.2.2.2 (by omega) (by omega) h1 h2 h3 F hq ?small ?done
  case small =>
    intro p hp
    simp only [List.mem_cons] at hp
    rcases hp with rfl | rfl | hp
    · exact N _ (x.led_cell x.g_mem)
    · exact N _ (x.led_cell x.w_mem)
    · exact N p (x.rem_sub p hp)
  case done =>
    intro gv wv ds m' h' tk' ng' nw' l1 l2 d1 d2 d3 hm' F' N'
    exact tail3 KX T K0 off e0.2.2.2.2.2.2 (by omega) (by omega) d1 d2 (fun p hp => List.mem_append_right _ hp) d3 F' (fun p hp => hm' p (.tail _ (.tail _ hp))) N' fun m'' h'' tk'' F'' => hQ m'' h'' tk'' F''
end
end Mine

end

/-! part For6 -/
section
open PySem PySem.W PySem.Calls PyProof.Rows
local macro_rules | `(tactic| walk_at "my_pad0") => `(tactic| fail)
local macro_rules | `(tactic| walk_at "getAttr ref") => `(tactic| (k_here; k_dflt (first
  | (refine' Mine.own_h ?k1 ?k2 ?k3 ?k4 ?k5 ?k6 ?k7 ?k8 ?k9 ?_; (case k1 => k_asm); (case k2 => k_asm); (case k3 => k_inst); (case k4 => k_is); (case k5 => k_is); (case k6 => k_is); (case k7 => k_is); (case k8 => first | assumption | k_get); (case k9 => k_handed); k_whole)
  | (refine' Mine.prop_h ?k1 ?k2 ?k3 ?k4 ?k10 ?k5 ?k6 ?k7 ?k8 ?k9 ?_; (case k1 => k_asm); (case k2 => k_asm); (case k3 => k_inst); (case k4 => k_is); (case k10 => k_is); (case k5 => k_is); (case k6 => k_is); (case k7 => k_is); (case k8 => k_is); (case k9 => k_is); k_whole; k_enter)
  | (refine' Mine.bound_h ?k1 ?k2 ?k3 ?k4 ?k5 ?k10 ?k6 ?k7 ?k8 ?k9 ?k11 ?k12 ?k13 ?_; (case k4 => k_inst); (case k1 => k_asm); (case k2 => k_asm); (case k7 => k_is); (case k3 => k_asm); (case k5 => k_is); (case k10 => k_is); (case k6 => k_is); (case k8 => k_is); (case k9 => k_is); (case k11 => k_is); (case k12 => decide +kernel); (case k13 => first | assumption | k_get); k_whole; intro q' h' F' N' l1; (try k_lt l1); (try k_sweep)))))
local macro_rules | `(tactic| walk_at "getMethod ref") => `(tactic| (k_here; k_dflt (refine' Mine.method_h ?k1 ?k2 ?k3 ?k4 ?k5 ?_; (case k1 => k_asm); (case k2 => k_asm); (case k3 => k_inst); (case k4 => k_is); (case k5 => k_is); k_whole)))
local macro_rules | `(tactic| size_fits) => `(tactic| first | ((try simp only [List.size_toArray, Array.size_push, List.push_toArray, List.length_append, List.length_cons, List.length_nil]); (simp only [PySem.sizeLine_eq]); omega) | fail "size_fits: mine")
local macro_rules | `(tactic| walk_at "my_keeps") => `(tactic| (intro z hz; (obtain ⟨i1, i2, i3, i4, i5, i6⟩ := Mine.idle_ne hz); first | rfl | ((refine Eq.trans ?_ (congrFun (by assumption : (_ : Str → Option Value) = _) z)); (try simp only [i1, i2, i3, i4, i5, i6, if_false]); done)))
local macro_rules | `(tactic| walk_at "my_expose") => `(tactic| ((have e1 := (rfl : Mine.lawScope = Mine.lawScope)); (conv at e1 => rhs; whnf); (dsimp only at e1); (conv in (Mine.turnAt _) => whnf); (rw [e1]); clear e1))
local macro_rules | `(tactic| walk_at "my_lt") => `(tactic| first | assumption | exact Mine.allLt_to (by assumption) | (refine List.forall_mem_cons.mpr ⟨by (dsimp only; omega), ?_⟩; walk_at "my_lt"))
local macro_rules | `(tactic| walk_at "my_keepsP") => `(tactic| (intro z hz hp9; (obtain ⟨i1, i2, i3, i4, i5, i6⟩ := Mine.idle_ne hz); first | rfl | ((refine Eq.trans ?_ (congrFun (by assumption : (_ : Str → Option Value) = _) z)); (try simp only [i1, i2, i3, i4, i5, i6, hp9, if_false]); done)))
local macro_rules | `(tactic| walk_at "getAttr ref") => `(tactic| (k_here; (with_reducible show wpAny _ _ (getAttr (Value.ref _) (PySem.Str.ofString "data") _) _ _ _); k_dflt (refine' Mine.data_get ?k1 ?k2 ?k3 ?k4 ?k5 ?k6 ?k7 ?_; (case k1 => k_asm); (case k2 => k_asm); (case k3 => k_asm); (case k4 => k_mem); (case k5 => k_mem); (case k6 => k_asm); (case k7 => first | assumption | (unfold Mine.IsCls; decide)); k_whole)))
local macro_rules | `(tactic| walk_at "my_len") => `(tactic| first | omega | ((try simp only [List.length_append, List.length_cons, List.length_nil, List.length_set, List.length_dropLast, List.length_drop]); omega))
local macro_rules | `(tactic| walk_at "call builtin:len") => `(tactic| (k_here; (with_reducible show wpAny _ _ (call (Value.builtin "len") [Value.ref _]) _ _ _); k_dflt (refine' Mine.len_n ?a ?b ?c ?_; (case a => k_asm); (case b => k_mem); (case c => walk_at "my_len"); k_whole)))
local macro_rules | `(tactic| walk_at "call builtin:list.append") => `(tactic| (k_here; (with_reducible show wpAny _ _ (call (Value.builtin _) [Value.ref _, _]) _ _ _); k_dflt (refine' Mine.append_n ?a ?b ?c ?d ?_; (case a => k_asm); (case b => k_asm); (case c => k_upd); (case d => walk_at "my_len"); k_whole); intro h' F' N'; (try k_sweep)))
local macro_rules | `(tactic| walk_at "call builtin:list.pop") => `(tactic| (k_here; (with_reducible show wpAny _ _ (call (Value.builtin _) [Value.ref _]) _ _ _); k_dflt (refine' Mine.pop_n ?a ?b ?c ?d ?e ?_; (case a => k_asm); (case b => k_asm); (case c => k_upd); (case d => walk_at "my_len"); (case e => walk_at "my_len"); k_whole); intro h' y' F' N'; (try k_sweep)))
local macro_rules | `(tactic| walk_at "setItem ref int") => `(tactic| (k_here; (with_reducible show wpAny _ _ (setItem (Value.ref _) (Value.int _ _) _) _ _ _); k_dflt (refine' Mine.set_n ?a ?b ?c ?d ?e ?f ?_; (case a => k_asm); (case b => k_asm); (case c => k_upd); (case d => first | omega | exact Int.fmod_nonneg_of_pos _ (by omega)); (case e => first | (refine Int.lt_of_lt_of_le (Int.fmod_lt_of_pos _ (by omega)) ?_; walk_at "my_len") | walk_at "my_len"); (case f => walk_at "my_len"); k_whole); intro h' F' N'; (try k_sweep)))
local macro_rules | `(tactic| walk_at "subscriptTail Name Slice ref ref") => `(tactic| (k_here; (with_reducible show wpAny _ _ (subscriptTail _ (PySem.Expr.Slice _ _ none _) (Value.ref _) (Value.ref _)) _ _ _); k_dflt (refine' kms_slice_lit ?F ?N ?l ?p ?q ?e ?_ ?s ?t ?z; (case F => k_asm); (case N => k_asm); (case l => exact PyProof.Rows.News.isList (by k_asm) (by k_mem)); (case p => kmk_part); (case q => kmk_part); (case e => first | exact Mine.pick_from _ | exact Mine.pick_all _); (case s => with_unfolding_all rfl); (case t => kmk_pure); (case z => ((simp only [List.size_toArray, PySem.sizeLine_eq]); omega))); intro D' h' F' N' l1; (try k_lt l1); (try dsimp only at F' N'); (try dsimp only); (try k_sweep)))
local macro_rules | `(tactic| walk_at "subscriptTail") => `(tactic| (k_here; (with_reducible show wpAny _ _ (subscriptTail _ _ (Value.ref _) (Value.int _ _)) _ _ _); k_dflt (refine' Mine.item_n ?a ?b ?c ?d ?e ?_; (case a => k_asm); (case b => k_mem); (case e => first | assumption | with_unfolding_all assumption); (case c => first | omega | exact Int.fmod_nonneg_of_pos _ (by omega)); (case d => first | omega | (refine Int.lt_trans (Int.fmod_lt_of_pos _ (by omega)) ?_; omega)); k_whole)))
local macro_rules | `(tactic| walk_at "subscriptTail Name Name ref int") => `(tactic| (k_here; (with_reducible show wpAny _ _ (subscriptTail _ _ (Value.ref _) (Value.int _ _)) _ _ _); k_dflt (refine' Mine.item_n ?a ?b ?c ?d ?e ?_; (case a => k_asm); (case b => k_mem); (case e => first | assumption | with_unfolding_all assumption); (case c => first | omega | exact Int.fmod_nonneg_of_pos _ (by omega)); (case d => first | omega | (refine Int.lt_trans (Int.fmod_lt_of_pos _ (by omega)) ?_; omega)); k_whole)))
namespace Mine
local macro_rules | `(tactic| walk_at "exec For Name Call cons nil") => `(tactic| (k_here; (rename Fr _ _ _ _ => lF'); (with_unfolding_all refine' For_invVF lF' ?k1 ?k2 ?_; (case k1 => exact rfl); (case k2 => exact rfl); k_whole)))
local macro_rules | `(tactic| walk_at "pyIter ref") => `(tactic| (k_here; refine Mine.Stop.out ?_))
theorem for_at {w : World} {mean : ExcName → Option Value} {mg mb : Str → Option Value} {L fa : Addr} {cd : Value} {h₀ : Heap} {Q : Flow → Shared → Prop} {s : Shared} {m : Str → Option Value} (KX : (hd.heap_39 w.params).In h₀) (T : Top hd.view_39 loosesW mean mg mb h₀) (K0 : Below callerA h₀ [] h₀)
  {D nD : Nat} {dv : List Value} {rest : List (Addr × Obj)} (hdv : dv.length ≤ 1000) (F : Fr h₀ L s.heap m) (hm : ∀ p ∈ [(S "deeds", Value.ref D)], m p.1 = some p.2) (N : News h₀ L s.heap ((D, listOf dv.toArray nD) :: rest))
  (loop : ∀ r t₀ u₀ v₀ h' tk', IsRange h' r 0 (dv.length : Int) 1 t₀ u₀ v₀ → Fr h₀ L h' m → News h₀ L h' ((D, listOf dv.toArray nD) :: rest) →
    wpAny (model PySem.Challenge.rw_dg5010_01.row.prog w) (callerA.deeper (envOf (Str.ofString "law") lawScope L fa cd)) (pyIter (.ref r)) (fun it s₂ => LoopAtV PySem.Challenge.rw_dg5010_01.row.prog w (callerA.deeper (envOf (Str.ofString "law") lawScope L fa cd)) h₀ (envOf (Str.ofString "law") lawScope L fa cd) (S "at") (bodyOf (lawAt 6)) Q (fun _ _ => False) it s₂) (fun _ _ => False) { s with heap := h', toks := tk' }) :
  wpAny (model PySem.Challenge.rw_dg5010_01.row.prog w) (callerA.deeper (envOf (Str.ofString "law") lawScope L fa cd)) (exec (lawAt 6) (envOf (Str.ofString "law") lawScope L fa cd)) Q (fun _ _ => False) s := by
  revert KX
  k_fill
  intro KX
  have e1 := (rfl : lawScope = lawScope)
  conv at e1 => rhs; whnf
  dsimp only at e1
  conv in (Mine.lawAt _) => whnf
  rw [e1]
  clear e1
  replace F := frK F _ hm
  have em := frE _ hm
  simp only [kstB] at F em
  k_steps
  rename PySem.IsRange _ _ _ _ _ _ _ _ => R9
  rename Fr _ _ _ _ => F9
  rename News _ _ _ _ => N9
  refine ⟨loop _ _ _ _ _ _ R9 ?_ N9⟩
  have e2 : (fun z => if z = S "deeds" then some (Value.ref D) else m z) = m := em
  rw [← e2]
  exact F9
theorem range27 : ∀ n, n ≤ 27 → Builtin.Range.small 0 ((n : Nat) : Int) 1 = true ∧ Builtin.Range.rangeSize 0 ((n : Nat) : Int) 1 = ((n : Nat) : Int) := by decide +kernel
theorem law_rest {w : World} {mean : ExcName → Option Value} {mg mb : Str → Option Value} {L fa : Addr} {cd : Value} {h₀ : Heap} {Q : Flow → Shared → Prop} {s : Shared} {m : Str → Option Value} {x : Ad} {c : St} (KX : (hd.heap_39 w.params).In h₀) (T : Top hd.view_39 loosesW mean mg mb h₀) (K0 : Below callerA h₀ [] h₀) (ok : x.Ok)
  (hn27 : x.dv.length ≤ 27) (hds : ∀ j : Nat, j < x.dv.length → ∃ nn nt, x.dv[j]? = some (.int nn nt)) (F : Fr h₀ L s.heap m) (hm : ∀ p ∈ fixedPs x, m p.1 = some p.2) (N : News h₀ L s.heap (x.led c ++ (x.cst ++ []))) (J : InvD x c (x.cst ++ [])) (I : InvR x c 0)
  (hQ : ∀ m' h' tk', Fr h₀ L h' m' → Q (.ret (.bool true)) { s with heap := h', toks := tk' }) :
  wpAny (model PySem.Challenge.rw_dg5010_01.row.prog w) (callerA.deeper (envOf (Str.ofString "law") lawScope L fa cd)) (exec (lawAt 6) (envOf (Str.ofString "law") lawScope L fa cd))
    (fun f s' => match f with | .next => wpAny (model PySem.Challenge.rw_dg5010_01.row.prog w) (callerA.deeper (envOf (Str.ofString "law") lawScope L fa cd)) (execs [lawAt 7, lawAt 8, lawAt 9, lawAt 10] (envOf (Str.ofString "law") lawScope L fa cd)) Q (fun _ _ => False) s' | f => Q f s') (fun _ _ => False) s := by
  have mD : (x.D, listOf x.dv.toArray x.nD) ∈ x.led c ++ (x.cst ++ []) := List.mem_append_right _ (List.mem_append_left _ x.D_cst)
  obtain ⟨r1, r2⟩ := range27 _ hn27
  refine for_at KX T K0 (D := x.D) (nD := x.nD) (dv := x.dv) (rest := x.led c ++ (x.cst ++ [])) (by omega) F (fun p hp => hm p ?_) (fun p hp => ?_) fun r t₀ u₀ v₀ h' tk' hr F' N' => ?_
  · rw [List.mem_singleton.mp hp]
    exact .head _
  · rcases List.mem_cons.mp hp with rfl | hp
    · exact N _ mD
    · exact N _ hp
  · refine loop_all KX T K0 ok hn27 (by omega) hds hr r1 r2 F' N' (fun p hp => .tail _ hp) J I hm fun c' tl u h tk ho J' I' F'' N'' => ?_
    refine after_loop KX T K0 ok hn27 ho J' I' F'' (fun p hp => ?_) N'' fun m'' h'' tk'' F3 => hQ m'' h'' tk'' F3
    exact (if_neg (fixed_at x p hp)).trans (kst_get (fixed_nd x) hp)
end Mine

end

/-! part Start -/
section
open PySem PySem.W PySem.Calls PyProof.Rows
namespace Mine
def f5 {α : Type} (v0 v1 v2 v3 v4 : α) : Nat → α
  | 0 => v0
  | 1 => v1
  | 2 => v2
  | 3 => v3
  | _ => v4
def asc : List Nat → Prop
  | [] => True
  | [_] => True
  | a :: b :: r => a < b ∧ asc (b :: r)
theorem asc_lt {a : Nat} : ∀ {l : List Nat}, asc (a :: l) → ∀ b ∈ l, a < b
  | [], _, _, h => nomatch h
  | c :: r, h, b, hb => by
    rcases List.mem_cons.mp hb with rfl | hb
    · exact h.1
    · exact Nat.lt_trans h.1 (asc_lt h.2 b hb)
theorem asc_tl {a : Nat} : ∀ {l : List Nat}, asc (a :: l) → asc l
  | [], _ => trivial
  | _ :: _, h => h.2
theorem asc_get : ∀ {l : List Nat}, asc l → ∀ i j, i < j → j < l.length → l.getD i 0 < l.getD j 0
  | [], _, _, j, _, hj => absurd hj (Nat.not_lt_zero _)
  | a :: r, h, 0, j + 1, _, hj => by
    have hj' : j < r.length := Nat.lt_of_succ_lt_succ hj
    have e : (a :: r).getD (j + 1) 0 = r[j] := by simp [List.getD, hj']
    rw [e]
    exact asc_lt h _ (List.getElem_mem hj')
  | a :: r, h, i + 1, j + 1, hij, hj => asc_get (asc_tl h) i j (Nat.lt_of_succ_lt_succ hij) (Nat.lt_of_succ_lt_succ hj)
theorem asc_ne {l : List Nat} (h : asc l) {i j : Nat} (hi : i < l.length) (hj : j < l.length) (hne : i ≠ j) : l.getD i 0 ≠ l.getD j 0 := by
  rcases Nat.lt_or_gt_of_ne hne with q | q
  · exact Nat.ne_of_lt (asc_get h i j q hj)
  · exact Nat.ne_of_gt (asc_get h j i q hi)
theorem asc_off {l : List Nat} (h : asc l) {is js : List Nat} (hd : ∀ i ∈ is, ∀ j ∈ js, i < l.length ∧ j < l.length ∧ i ≠ j) {p b : Nat} (hp : p ∈ is.map (l.getD · 0)) (hb : b ∈ js.map (l.getD · 0)) : p ≠ b := by
  obtain ⟨i, hi, rfl⟩ := List.mem_map.mp hp
  obtain ⟨j, hj, rfl⟩ := List.mem_map.mp hb
  obtain ⟨q1, q2, q3⟩ := hd i hi j hj
  exact asc_ne h q1 q2 q3
def stOf (l : List (Nat × (List Value × Nat))) : St := fun b => (l.lookup b).getD ([], 0)
theorem stOf_get : ∀ {l : List (Nat × (List Value × Nat))}, asc (l.map (·.1)) → ∀ {b v}, (b, v) ∈ l → stOf l b = v
  | [], _, _, _, h => nomatch h
  | (a, w) :: r, ha, b, v, h => by
    unfold stOf
    rw [List.lookup_cons]
    rcases List.mem_cons.mp h with h | h
    · cases h
      simp
    · have := asc_lt ha b (List.mem_map_of_mem (f := Prod.fst) h)
      have ne : (b == a) = false := by simpa using Nat.ne_of_gt this
      rw [ne]
      exact stOf_get (asc_tl ha) h
theorem ints_len {vs : List Value} {ns : List Int} (h : IntsAre vs ns) : vs.length = ns.length := by
  induction h with
  | nil => rfl
  | cons n t _ ih => simp only [List.length_cons, ih]
theorem ints_at {vs : List Value} {ns : List Int} (h : IntsAre vs ns) : ∀ j : Nat, j < vs.length → ∃ nn nt, vs[j]? = some (.int nn nt) := by
  induction h with
  | nil => intro j hj; exact absurd hj (Nat.not_lt_zero _)
  | cons n t _ ih =>
    intro j hj
    cases j with
    | zero => exact ⟨n, t, rfl⟩
    | succ j => exact ih j (Nat.lt_of_succ_lt_succ hj)
section
variable {w : World} {mean : ExcName → Option Value} {mg mb : Str → Option Value} {L fa : Addr} {cd : Value} {h₀ : Heap} {Q : Flow → Shared → Prop} {E : Value → Shared → Prop} {s : Shared} {m : Str → Option Value}
theorem main_end {x : Ad} {c : St} (KX : (hd.heap_39 w.params).In h₀) (T : Top hd.view_39 loosesW mean mg mb h₀) (K0 : Below callerA h₀ [] h₀) (ok : x.Ok)
  (hn27 : x.dv.length ≤ 27) (hds : ∀ j : Nat, j < x.dv.length → ∃ nn nt, x.dv[j]? = some (.int nn nt)) (F : Fr h₀ L s.heap m) (hm : ∀ p ∈ fixedPs x, m p.1 = some p.2) (N : News h₀ L s.heap (x.led c ++ (x.cst ++ []))) (J : InvD x c (x.cst ++ [])) (I : InvR x c 0)
  (hQ : ∀ m' h' tk', Fr h₀ L h' m' → Q (.ret (.bool true)) { s with heap := h', toks := tk' }) :
  wpAny (model PySem.Challenge.rw_dg5010_01.row.prog w) (callerA.deeper (envOf (Str.ofString "law") lawScope L fa cd)) (execs [lawAt 6, lawAt 7, lawAt 8, lawAt 9, lawAt 10] (envOf (Str.ofString "law") lawScope L fa cd)) Q E s := by
  refine wpAny_execs_cons (wpAny_mono (law_rest KX T K0 ok hn27 hds F hm N J I hQ) (fun f s' h => ?_) fun _ _ h => h.elim)
  cases f <;> first | exact h | exact wpAny_mono h (fun _ _ z => z) fun _ _ z => z.elim

theorem start_end (KX : (hd.heap_39 w.params).In h₀) (T : Top hd.view_39 loosesW mean mg mb h₀) (K0 : Below callerA h₀ [] h₀)
  {h0 h1 h2 H r0 r1 r2 r3 r4 R d0 t0 a0 d1 t1 a1 d2 t2 a2 d3 t3 a3 d4 t4 a4 Ta g wn D z1 z2 : Nat} {o1 o2 : Obj} {dv hv0 hv1 hv2 rv0 rv1 rv2 rv3 rv4 av0 av1 av2 av3 av4 : List Value} {ns : List Int} {y0 y1 y2 y3 y4 : List Str} {es0 es1 es2 es3 es4 : List DictEntry}
  {nH nR nT nD mh0 mh1 mh2 mr0 mr1 mr2 mr3 mr4 ma0 ma1 ma2 ma3 ma4 ng nw n0 n1 n2 n3 n4 : Nat}
  (o : asc [h0, h1, h2, H, r0, r1, r2, r3, r4, R, d0, t0, a0, d1, t1, a1, d2, t2, a2, d3, t3, a3, d4, t4, a4, Ta, g, wn, D])
  (hi : IntsAre dv ns) (hl : ns.length ≤ 27) (lh : hv0.length ≤ 6 ∧ hv1.length ≤ 6 ∧ hv2.length ≤ 6)
  (sy : ∀ k, k < 5 → StrsAre (f5 av0 av1 av2 av3 av4 k) (f5 y0 y1 y2 y3 y4 k) ∧ StrsAre (f5 rv0 rv1 rv2 rv3 rv4 k) (f5 y0 y1 y2 y3 y4 k) ∧ (f5 y0 y1 y2 y3 y4 k).length ≤ 6 ∧ ∀ y ∈ f5 y0 y1 y2 y3 y4 k, Small y)
  (dk : ∀ k, k < 5 → DictIs (f5 es0 es1 es2 es3 es4 k) (f5 a0 a1 a2 a3 a4 k) ∧ KindIs (f5 es0 es1 es2 es3 es4 k) k)
  (F : Fr h₀ L s.heap m) (hm : ∀ p ∈ [(S "deeds", Value.ref D), (S "things", .ref Ta), (S "rows", .ref R), (S "handed", .ref H), (S "got", .ref g), (S "want", .ref wn)], m p.1 = some p.2)
  (N : News h₀ L s.heap [(D, listOf dv.toArray nD), (z1, o1), (z2, o2), (wn, listOf (([] : List Value)).toArray nw), (g, listOf (([] : List Value)).toArray ng), (Ta, listOf [Value.ref t0, Value.ref t1, Value.ref t2, Value.ref t3, Value.ref t4].toArray nT),
    (a4, listOf av4.toArray ma4), (t4, instObj 209 d4), (d4, dictOf es4 n4), (a3, listOf av3.toArray ma3), (t3, instObj 209 d3), (d3, dictOf es3 n3), (a2, listOf av2.toArray ma2), (t2, instObj 235 d2), (d2, dictOf es2 n2),
    (a1, listOf av1.toArray ma1), (t1, instObj 281 d1), (d1, dictOf es1 n1), (a0, listOf av0.toArray ma0), (t0, instObj 260 d0), (d0, dictOf es0 n0), (R, listOf [Value.ref r0, Value.ref r1, Value.ref r2, Value.ref r3, Value.ref r4].toArray nR),
    (r4, listOf rv4.toArray mr4), (r3, listOf rv3.toArray mr3), (r2, listOf rv2.toArray mr2), (r1, listOf rv1.toArray mr1), (r0, listOf rv0.toArray mr0), (H, listOf [Value.ref h0, Value.ref h1, Value.ref h2].toArray nH),
    (h2, listOf hv2.toArray mh2), (h1, listOf hv1.toArray mh1), (h0, listOf hv0.toArray mh0)])
  (hQ : ∀ m' h' tk', Fr h₀ L h' m' → Q (.ret (.bool true)) { s with heap := h', toks := tk' }) :
  wpAny (model PySem.Challenge.rw_dg5010_01.row.prog w) (callerA.deeper (envOf (Str.ofString "law") lawScope L fa cd)) (execs [lawAt 6, lawAt 7, lawAt 8, lawAt 9, lawAt 10] (envOf (Str.ofString "law") lawScope L fa cd)) Q E s := by
  obtain ⟨x, hx⟩ : ∃ x : Ad, x = { a := f5 a0 a1 a2 a3 a4, r := f5 r0 r1 r2 r3 r4, t := f5 t0 t1 t2 t3 t4, d := f5 d0 d1 d2 d3 d4, h := f5 h0 h1 h2 h2 h2, H := H, R := R, T := Ta, g := g, wn := wn, D := D, es := f5 es0 es1 es2 es3 es4, n := f5 n0 n1 n2 n3 n4, nH := nH, nR := nR, nT := nT, nD := nD, dv := dv } := ⟨_, rfl⟩
  obtain ⟨l, hll⟩ : ∃ l : List (Nat × (List Value × Nat)), l = [(h0, hv0, mh0), (h1, hv1, mh1), (h2, hv2, mh2), (r0, rv0, mr0), (r1, rv1, mr1), (r2, rv2, mr2), (r3, rv3, mr3), (r4, rv4, mr4), (a0, av0, ma0), (a1, av1, ma1), (a2, av2, ma2), (a3, av3, ma3), (a4, av4, ma4), (g, [], ng), (wn, [], nw)] := ⟨_, rfl⟩
  have oo : h0 < h1 ∧ h1 < h2 ∧ h2 < H ∧ H < r0 ∧ r0 < r1 ∧ r1 < r2 ∧ r2 < r3 ∧ r3 < r4 ∧ r4 < R ∧ R < d0 ∧ d0 < t0 ∧ t0 < a0 ∧ a0 < d1 ∧ d1 < t1 ∧ t1 < a1 ∧ a1 < d2 ∧ d2 < t2 ∧ t2 < a2 ∧ a2 < d3 ∧ d3 < t3 ∧ t3 < a3 ∧ a3 < d4 ∧ d4 < t4 ∧ t4 < a4 ∧ a4 < Ta ∧ Ta < g ∧ g < wn ∧ wn < D ∧ True := o
  have ha : asc (l.map (·.1)) := by
    subst hll
    show h0 < h1 ∧ h1 < h2 ∧ h2 < r0 ∧ r0 < r1 ∧ r1 < r2 ∧ r2 < r3 ∧ r3 < r4 ∧ r4 < a0 ∧ a0 < a1 ∧ a1 < a2 ∧ a2 < a3 ∧ a3 < a4 ∧ a4 < g ∧ g < wn ∧ True
    (repeat (first | exact trivial | refine ⟨by omega, ?_⟩))
  have get : ∀ {b v}, (b, v) ∈ l → stOf l b = v := fun h => stOf_get ha h
  have k5 : ∀ k, k < 5 → k = 0 ∨ k = 1 ∨ k = 2 ∨ k = 3 ∨ k = 4 := fun k hk => by omega
  have ga : ∀ k, k < 5 → ∃ nn, stOf l (x.a k) = (f5 av0 av1 av2 av3 av4 k, nn) := by
    intro k hk
    subst hx hll
    rcases k5 k hk with rfl | rfl | rfl | rfl | rfl <;> exact ⟨_, get (by (repeat (first | exact List.Mem.head _ | refine List.Mem.tail _ ?_)))⟩
  have gr : ∀ k, k < 5 → ∃ nn, stOf l (x.r k) = (f5 rv0 rv1 rv2 rv3 rv4 k, nn) := by
    intro k hk
    subst hx hll
    rcases k5 k hk with rfl | rfl | rfl | rfl | rfl <;> exact ⟨_, get (by (repeat (first | exact List.Mem.head _ | refine List.Mem.tail _ ?_)))⟩
  have gg : stOf l x.g = ([], ng) := by subst hx hll; exact get (by simp)
  have gw : stOf l x.wn = ([], nw) := by subst hx hll; exact get (by simp)
  obtain ⟨G, hG⟩ : ∃ G : List Nat, G = [h0, h1, h2, H, r0, r1, r2, r3, r4, R, d0, t0, a0, d1, t1, a1, d2, t2, a2, d3, t3, a3, d4, t4, a4, Ta, g, wn, D] := ⟨_, rfl⟩
  have hA : asc G := hG ▸ o
  have hlen : G.length = 29 := by subst hG; rfl
  have ok : x.Ok := by
    refine ⟨?ch, ?aa, ?rr, ?hr, ?hh, ?off, fun k hk => by subst hx; exact dk k hk⟩
    case ch =>
      intro k hk
      subst hx
      rcases k5 k hk with rfl | rfl | rfl | rfl | rfl <;> (simp only [f5]; omega)
    case aa =>
      intro i j hi hj hne
      have ea : ∀ k, k < 5 → x.a k = G.getD (f5 12 15 18 21 24 k) 0 := by
        intro k hk
        subst hx hG
        match k, hk with
        | 0, _ | 1, _ | 2, _ | 3, _ | 4, _ => rfl
      rw [ea i hi, ea j hj]
      have q : ∀ i, i < 5 → ∀ j, j < 5 → i ≠ j → f5 12 15 18 21 24 i < 29 ∧ f5 12 15 18 21 24 j < 29 ∧ f5 12 15 18 21 24 i ≠ f5 12 15 18 21 24 j := by decide
      obtain ⟨q1, q2, q3⟩ := q i hi j hj hne
      exact asc_ne hA (hlen ▸ q1) (hlen ▸ q2) q3
    case rr =>
      intro i j hi hj hne
      have ea : ∀ k, k < 5 → x.r k = G.getD (f5 4 5 6 7 8 k) 0 := by
        intro k hk
        subst hx hG
        match k, hk with
        | 0, _ | 1, _ | 2, _ | 3, _ | 4, _ => rfl
      rw [ea i hi, ea j hj]
      have q : ∀ i, i < 5 → ∀ j, j < 5 → i ≠ j → f5 4 5 6 7 8 i < 29 ∧ f5 4 5 6 7 8 j < 29 ∧ f5 4 5 6 7 8 i ≠ f5 4 5 6 7 8 j := by decide
      obtain ⟨q1, q2, q3⟩ := q i hi j hj hne
      exact asc_ne hA (hlen ▸ q1) (hlen ▸ q2) q3
    case hr =>
      intro i j hi hj
      subst hx
      rcases k5 i (by omega) with rfl | rfl | rfl | rfl | rfl <;> rcases k5 j hj with rfl | rfl | rfl | rfl | rfl <;> first | (exfalso; omega) | (simp only [f5]; omega)
    case hh =>
      intro i j hi hj hne
      subst hx
      rcases k5 i (by omega) with rfl | rfl | rfl | rfl | rfl <;> rcases k5 j (by omega) with rfl | rfl | rfl | rfl | rfl <;> first | exact absurd rfl hne | (exfalso; omega) | (simp only [f5]; omega)
    case off =>
      intro p hp b hb
      refine asc_off (l := G) hA (is := [3, 9, 25, 28, 11, 10, 14, 13, 17, 16, 20, 19, 23, 22]) (js := [0, 1, 2, 4, 5, 6, 7, 8, 12, 15, 18, 21, 24, 26, 27]) ?_ ?_ ?_
      · rw [hlen]; decide
      · have e : x.cst.map (·.1) = [3, 9, 25, 28, 11, 10, 14, 13, 17, 16, 20, 19, 23, 22].map (G.getD · 0) := by subst hx hG; rfl
        rw [← e]
        exact List.mem_map_of_mem (f := Prod.fst) hp
      · have e : x.adr = [0, 1, 2, 4, 5, 6, 7, 8, 12, 15, 18, 21, 24, 26, 27].map (G.getD · 0) := by subst hx hG; rfl
        rw [← e]
        exact hb
  refine main_end (x := x) (c := stOf l) KX T K0 ok ?l27 ?hds F ?hm ?N ?J ?I hQ
  case l27 => subst hx; show dv.length ≤ 27; rw [ints_len hi]; exact hl
  case hds => subst hx; exact ints_at hi
  case hm => subst hx; exact hm
  case J =>
    refine ⟨[], ?_, ?_, fun _ h => nomatch h⟩
    · rw [gg]; exact .nil
    · rw [gw]; exact .nil
  case I =>
    refine ⟨⟨f5 y0 y1 y2 y3 y4, fun k hk => ?_⟩, ?_, ?_, ?_⟩
    · obtain ⟨q1, q2, q3, q4⟩ := sy k hk
      obtain ⟨_, e1⟩ := ga k hk
      obtain ⟨_, e2⟩ := gr k hk
      rw [e1, e2]
      exact ⟨q1, q2, q3, q4⟩
    · intro j hj
      have g0 : stOf l h0 = (hv0, mh0) := by subst hll; exact get (by simp)
      have g1 : stOf l h1 = (hv1, mh1) := by subst hll; exact get (by simp)
      have g2 : stOf l h2 = (hv2, mh2) := by subst hll; exact get (by simp)
      subst hx
      rcases k5 j (by omega) with rfl | rfl | rfl | rfl | rfl
      · show (stOf l h0).1.length ≤ 6 + 0; rw [g0]; exact lh.1
      · show (stOf l h1).1.length ≤ 6 + 0; rw [g1]; exact lh.2.1
      · show (stOf l h2).1.length ≤ 6 + 0; rw [g2]; exact lh.2.2
      all_goals omega
    · rw [gg]; exact Nat.zero_le _
    · rw [gw]; exact Nat.zero_le _
  case N =>
    intro p hp
    have hadr : x.adr = l.map (·.1) := by subst hx hll; rfl
    rcases List.mem_append.mp hp with hp | hp
    · obtain ⟨b, hb, rfl⟩ := List.mem_map.mp hp
      rw [hadr] at hb
      obtain ⟨e, he, rfl⟩ := List.mem_map.mp hb
      unfold cell
      rw [get (b := e.1) (v := e.2) he]
      subst hll
      simp only [List.mem_cons, List.not_mem_nil, or_false] at he
      rcases he with rfl | rfl | rfl | rfl | rfl | rfl | rfl | rfl | rfl | rfl | rfl | rfl | rfl | rfl | rfl
      all_goals exact N _ (by (repeat (first | exact List.Mem.head _ | refine List.Mem.tail _ ?_)))
    · subst hx
      simp only [Ad.cst, Ad.thing, f5, List.mem_cons, List.mem_append, List.cons_append, List.nil_append, List.append_nil, List.not_mem_nil, or_false, Ad.hs, Ad.rs, Ad.ts, clsOf] at hp
      rcases hp with rfl | rfl | rfl | rfl | rfl | rfl | rfl | rfl | rfl | rfl | rfl | rfl | rfl | rfl
      all_goals exact N _ (by (repeat (first | exact List.Mem.head _ | refine List.Mem.tail _ ?_)))
end
end Mine

end

/-! part Start2 -/
section
open PySem PySem.W PySem.Calls PyProof.Rows
namespace Mine
abbrev ent (p : Int) (k : String) (t : Tok) (v : Value) : DictEntry := { hash := p, key := .str (Str.ofString k) t, val := v }
section
variable {p1 p2 p3 p4 : Int} {q1 q2 q3 q4 u1 u2 u3 : Tok} {a : Addr}
theorem dk0 : DictIs [ent p1 "talker" q1 (.str (Str.ofString "GP") u1), ent p2 "sentence_type" q2 (.str (Str.ofString "RTE") u2), ent p3 "data" q3 (.ref a)] a ∧ KindIs [ent p1 "talker" q1 (.str (Str.ofString "GP") u1), ent p2 "sentence_type" q2 (.str (Str.ofString "RTE") u2), ent p3 "data" q3 (.ref a)] 0 :=
  ⟨⟨by k_get, by k_get, by k_get, by k_get, by k_get⟩, ⟨u1, by k_get⟩, ⟨u2, by k_get⟩⟩
theorem dk1 : DictIs [ent p1 "talker" q1 (.str (Str.ofString "GP") u1), ent p2 "sentence_type" q2 (.str (Str.ofString "R00") u2), ent p3 "data" q3 (.ref a)] a ∧ KindIs [ent p1 "talker" q1 (.str (Str.ofString "GP") u1), ent p2 "sentence_type" q2 (.str (Str.ofString "R00") u2), ent p3 "data" q3 (.ref a)] 1 :=
  ⟨⟨by k_get, by k_get, by k_get, by k_get, by k_get⟩, ⟨u1, by k_get⟩, ⟨u2, by k_get⟩⟩
theorem dk2 : DictIs [ent p1 "manufacturer" q1 (.str (Str.ofString "ABC") u1), ent p2 "data" q2 (.ref a)] a ∧ KindIs [ent p1 "manufacturer" q1 (.str (Str.ofString "ABC") u1), ent p2 "data" q2 (.ref a)] 2 :=
  ⟨⟨by k_get, by k_get, by k_get, by k_get, by k_get⟩, ⟨u1, by k_get⟩⟩
theorem dk3 : DictIs [ent p1 "talker" q1 (.str (Str.ofString "GP") u1), ent p2 "listener" q2 (.str (Str.ofString "EC") u2), ent p3 "sentence_type" q3 (.str (Str.ofString "RMC") u3), ent p4 "data" q4 (.ref a)] a ∧ KindIs [ent p1 "talker" q1 (.str (Str.ofString "GP") u1), ent p2 "listener" q2 (.str (Str.ofString "EC") u2), ent p3 "sentence_type" q3 (.str (Str.ofString "RMC") u3), ent p4 "data" q4 (.ref a)] 3 :=
  ⟨⟨by k_get, by k_get, by k_get, by k_get, by k_get⟩, ⟨u1, by k_get⟩, ⟨u2, by k_get⟩, ⟨u3, by k_get⟩⟩
theorem dk4 : DictIs [ent p1 "talker" q1 (.str (Str.ofString "II") u1), ent p2 "listener" q2 (.str (Str.ofString "EC") u2), ent p3 "sentence_type" q3 (.str (Str.ofString "GGA") u3), ent p4 "data" q4 (.ref a)] a ∧ KindIs [ent p1 "talker" q1 (.str (Str.ofString "II") u1), ent p2 "listener" q2 (.str (Str.ofString "EC") u2), ent p3 "sentence_type" q3 (.str (Str.ofString "GGA") u3), ent p4 "data" q4 (.ref a)] 4 :=
  ⟨⟨by k_get, by k_get, by k_get, by k_get, by k_get⟩, ⟨u1, by k_get⟩, ⟨u2, by k_get⟩, ⟨u3, by k_get⟩⟩
end
def y0L : List Str := [S "2", S "1", S "c", S "R7", S "W1", S "W2"]
def y1L : List Str := [S "W1", S "", S "W3"]
def y2L : List Str := [S "", S "a"]
theorem yL_small : (∀ y ∈ y0L, Small y) ∧ (∀ y ∈ y1L, Small y) ∧ (∀ y ∈ y2L, Small y) := by decide +kernel
abbrev v0L (i0 i1 i2 i3 i4 i5 : Tok) : List Value := [.str (S "2") i0, .str (S "1") i1, .str (S "c") i2, .str (S "R7") i3, .str (S "W1") i4, .str (S "W2") i5]
abbrev v1L (i0 i1 i2 : Tok) : List Value := [.str (S "W1") i0, .str (S "") i1, .str (S "W3") i2]
abbrev v2L (i0 i1 : Tok) : List Value := [.str (S "") i0, .str (S "a") i1]
theorem names_ne : S "want" ≠ S "deeds" ∧ S "got" ≠ S "deeds" ∧ S "got" ≠ S "want" ∧ S "things" ≠ S "deeds" ∧ S "things" ≠ S "want" ∧ S "things" ≠ S "got" ∧ S "rows" ≠ S "deeds" ∧ S "rows" ≠ S "want" ∧ S "rows" ≠ S "got" ∧ S "rows" ≠ S "things" ∧ S "handed" ≠ S "deeds" ∧ S "handed" ≠ S "want" ∧ S "handed" ≠ S "got" ∧ S "handed" ≠ S "things" ∧ S "handed" ≠ S "rows" := by decide +kernel
section
variable {w : World} {mean : ExcName → Option Value} {mg mb : Str → Option Value} {L fa : Addr} {cd : Value} {h₀ : Heap} {Q : Flow → Shared → Prop} {E : Value → Shared → Prop} {s : Shared} {m0 : Str → Option Value}
theorem start2 (KX : (hd.heap_39 w.params).In h₀) (T : Top hd.view_39 loosesW mean mg mb h₀) (K0 : Below callerA h₀ [] h₀)
  {h0 h1 h2 H r0 r1 r2 r3 r4 R d0 t0 a0 d1 t1 a1 d2 t2 a2 d3 t3 a3 d4 t4 a4 Ta g wn D z1 z2 : Nat} {o1 o2 : Obj} {dv : List Value} {ns : List Int} {i0 i1 i2 i3 i4 i5 j0 j1 j2 k0 k1 : Tok}
  {p01 p02 p03 p11 p12 p13 p21 p22 p31 p32 p33 p34 p41 p42 p43 p44 : Int} {q01 q02 q03 q11 q12 q13 q21 q22 q31 q32 q33 q34 q41 q42 q43 q44 u01 u02 u11 u12 u21 u31 u32 u33 u41 u42 u43 : Tok}
  {nH nR nT nD mh0 mh1 mh2 mr0 mr1 mr2 mr3 mr4 ma0 ma1 ma2 ma3 ma4 ng nw n0 n1 n2 n3 n4 : Nat}
  (hi : IntsAre dv ns)
  (F : Fr h₀ L s.heap (fun y => if y = Str.ofString "deeds" then some (Value.ref D) else if y = Str.ofString "want" then some (.ref wn) else if y = Str.ofString "got" then some (.ref g) else if y = Str.ofString "things" then some (.ref Ta) else if y = Str.ofString "rows" then some (.ref R) else if y = Str.ofString "handed" then some (.ref H) else m0 y))
  (N : News h₀ L s.heap [(D, listOf dv.toArray nD), (z1, o1), (z2, o2), (wn, listOf #[] nw), (g, listOf #[] ng), (Ta, listOf #[Value.ref t0, Value.ref t1, Value.ref t2, Value.ref t3, Value.ref t4] nT),
    (a4, listOf #[] ma4), (t4, instObj 209 d4), (d4, dictOf [ent p41 "talker" q41 (.str (Str.ofString "II") u41), ent p42 "listener" q42 (.str (Str.ofString "EC") u42), ent p43 "sentence_type" q43 (.str (Str.ofString "GGA") u43), ent p44 "data" q44 (.ref a4)] n4),
    (a3, listOf #[] ma3), (t3, instObj 209 d3), (d3, dictOf [ent p31 "talker" q31 (.str (Str.ofString "GP") u31), ent p32 "listener" q32 (.str (Str.ofString "EC") u32), ent p33 "sentence_type" q33 (.str (Str.ofString "RMC") u33), ent p34 "data" q34 (.ref a3)] n3),
    (a2, listOf (v2L k0 k1).toArray ma2), (t2, instObj 235 d2), (d2, dictOf [ent p21 "manufacturer" q21 (.str (Str.ofString "ABC") u21), ent p22 "data" q22 (.ref a2)] n2),
    (a1, listOf (v1L j0 j1 j2).toArray ma1), (t1, instObj 281 d1), (d1, dictOf [ent p11 "talker" q11 (.str (Str.ofString "GP") u11), ent p12 "sentence_type" q12 (.str (Str.ofString "R00") u12), ent p13 "data" q13 (.ref a1)] n1),
    (a0, listOf (v0L i0 i1 i2 i3 i4 i5).toArray ma0), (t0, instObj 260 d0), (d0, dictOf [ent p01 "talker" q01 (.str (Str.ofString "GP") u01), ent p02 "sentence_type" q02 (.str (Str.ofString "RTE") u02), ent p03 "data" q03 (.ref a0)] n0),
    (R, listOf #[Value.ref r0, Value.ref r1, Value.ref r2, Value.ref r3, Value.ref r4] nR),
    (r4, listOf #[] mr4), (r3, listOf #[] mr3), (r2, listOf (v2L k0 k1).toArray mr2), (r1, listOf (v1L j0 j1 j2).toArray mr1), (r0, listOf (v0L i0 i1 i2 i3 i4 i5).toArray mr0), (H, listOf #[Value.ref h0, Value.ref h1, Value.ref h2] nH),
    (h2, listOf (v2L k0 k1).toArray mh2), (h1, listOf (v1L j0 j1 j2).toArray mh1), (h0, listOf (v0L i0 i1 i2 i3 i4 i5).toArray mh0)])
  (o : asc [h0, h1, h2, H, r0, r1, r2, r3, r4, R, d0, t0, a0, d1, t1, a1, d2, t2, a2, d3, t3, a3, d4, t4, a4, Ta, g, wn, D]) (hl : ns.length ≤ 27)
  (hQ : ∀ m' h' tk', Fr h₀ L h' m' → Q (.ret (.bool true)) { s with heap := h', toks := tk' }) :
  wpAny (model PySem.Challenge.rw_dg5010_01.row.prog w) (callerA.deeper (envOf (Str.ofString "law") lawScope L fa cd)) (execs [lawAt 6, lawAt 7, lawAt 8, lawAt 9, lawAt 10] (envOf (Str.ofString "law") lawScope L fa cd)) Q E s := by
  have s0 : StrsAre (v0L i0 i1 i2 i3 i4 i5) y0L := by repeat constructor
  have s1 : StrsAre (v1L j0 j1 j2) y1L := by repeat constructor
  have s2 : StrsAre (v2L k0 k1) y2L := by repeat constructor
  obtain ⟨c0, c1, c2⟩ := yL_small
  have c3 : ∀ y ∈ ([] : List Str), Small y := fun _ h => nomatch h
  obtain ⟨e1, e2, e3, e4, e5, e6, e7, e8, e9, e10, e11, e12, e13, e14, e15⟩ := names_ne
  refine start_end KX T K0 (av0 := v0L i0 i1 i2 i3 i4 i5) (av1 := v1L j0 j1 j2) (av2 := v2L k0 k1) (av3 := []) (av4 := []) (rv0 := v0L i0 i1 i2 i3 i4 i5) (rv1 := v1L j0 j1 j2) (rv2 := v2L k0 k1) (rv3 := []) (rv4 := []) (hv0 := v0L i0 i1 i2 i3 i4 i5) (hv1 := v1L j0 j1 j2) (hv2 := v2L k0 k1) (y0 := y0L) (y1 := y1L) (y2 := y2L) (y3 := []) (y4 := []) o hi hl ⟨Nat.le_refl _, (by decide : 3 ≤ 6), (by decide : 2 ≤ 6)⟩ ?sy ?dk F ?hm N hQ
  case sy =>
    intro k hk
    match k, hk with
    | 0, _ => exact ⟨s0, s0, Nat.le_refl _, c0⟩
    | 1, _ => exact ⟨s1, s1, (by decide : 3 ≤ 6), c1⟩
    | 2, _ => exact ⟨s2, s2, (by decide : 2 ≤ 6), c2⟩
    | 3, _ => exact ⟨.nil, .nil, Nat.zero_le _, c3⟩
    | 4, _ => exact ⟨.nil, .nil, Nat.zero_le _, c3⟩
  case dk =>
    intro k hk
    match k, hk with
    | 0, _ => exact dk0
    | 1, _ => exact dk1
    | 2, _ => exact dk2
    | 3, _ => exact dk3
    | 4, _ => exact dk4
  case hm =>
    refine List.forall_mem_cons.mpr ⟨if_pos rfl, List.forall_mem_cons.mpr ⟨?_, List.forall_mem_cons.mpr ⟨?_, List.forall_mem_cons.mpr ⟨?_, List.forall_mem_cons.mpr ⟨?_, List.forall_mem_cons.mpr ⟨?_, fun _ h => nomatch h⟩⟩⟩⟩⟩⟩
    · exact (if_neg e4).trans ((if_neg e5).trans ((if_neg e6).trans (if_pos rfl)))
    · exact (if_neg e7).trans ((if_neg e8).trans ((if_neg e9).trans ((if_neg e10).trans (if_pos rfl))))
    · exact (if_neg e11).trans ((if_neg e12).trans ((if_neg e13).trans ((if_neg e14).trans ((if_neg e15).trans (if_pos rfl)))))
    · exact (if_neg e2).trans ((if_neg e3).trans (if_pos rfl))
    · exact (if_neg e1).trans (if_pos rfl)
end
end Mine

end

open PySem PySem.W PySem.Calls PyProof.Rows
local macro_rules | `(tactic| walk_at "execs cons") => `(tactic| (k_here; (with_reducible show wpAny _ _ (execs (List.cons (Stmt.For (Expr.Name ("at" : Str) _) _ _ _ _) _) _) _ _ _); refine Mine.Stop.out ?_))
local macro_rules | `(tactic| walk_at "my_asc") => `(tactic| first | exact trivial | (refine ⟨?_, ?_⟩; (· first | assumption | exact And.left (by assumption) | exact And.left (And.right (And.right (by assumption)))); walk_at "my_asc"))
theorem PySem.Challenge.cw_dg5010_01_holds : PySem.Challenge.rw_dg5010_01.Holds := by
  refine hd ?_
  w_strict (k_go0; (all_goals try k_fold); k_steps; (
    rename Fr _ _ _ _ => F9
    rename News _ _ _ _ => N9
    rename IntsAre _ _ => hI9
    refine' ⟨Mine.start2 ?KX ?T ?K hI9 F9 N9 ?o ?hl ?q⟩
    (case KX => assumption)
    (case T => assumption)
    (case K => assumption)
    (case o => walk_at "my_asc")
    (case hl => (simp only [List.length_append, List.length_take, List.length_cons, List.length_nil]; omega))
    (case q => (intro m9 h9 tk9 F9; k_steps))))
