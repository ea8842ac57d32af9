import PyProof.Rows.All
import Wide.All
import OpenK.AllK
import Wide.FinOn
import PyProof.MeetsSeq2
import KE.KMathG
import PyProof.GenCompD
import Lean
import PySem.Challenge.RW_gq5015_01
set_option Elab.async false
set_option maxRecDepth 100000
set_option maxHeartbeats 8000000
set_option rowWalk.seconds 0
section
open PySem PySem.W PyProof.Rows
namespace Mine
open_top hd for PySem.Challenge.rw_gq5015_01
end Mine
end
noncomputable section
open PySem PySem.W PySem.Calls PyProof.Rows
set_option maxRecDepth 100000
namespace Mine
/-- what a pure def of the text gives, for every caller -/
def Pur (f : Addr) (sz : Nat) (vs : List Value) (R : Tok → Value) : Prop :=
  ∀ (w : World) (mean : ExcName → Option Value) (mg mb : Str → Option Value) (news : List (Addr × Obj))
    (dp un : Nat) (gd : Option (List Code)) (cn : Str) (cs : Scope) (a : Addr) (ccd : Value) (cl : List (Str × Addr)) (outer : List Env) (A₀ : Around) (base h₀ : Heap) (L : Addr) (m : Str → Option Value) (s : Shared) (Q E : Value → Shared → Prop),
    Below A₀ base outer h₀ → Fr h₀ L s.heap m → (hd.heap_39 w.params).In h₀ → News h₀ L s.heap news → Top hd.view_39 (looseW hd.view_39 [Str.ofString "_display_width"]) mean mg mb h₀ → cs.kind = .function →
    dp + sz + 1 < recursionLimit → un + 8 * (sz + 1) < cLine → CbRet h₀ L m news s Q R →
      wpAny (model PySem.Challenge.rw_gq5015_01.row.prog w) (ktrTop dp un gd cn cs L a ccd cl outer) (call (.ref f) vs) Q E s
theorem pur_use {f : Addr} {sz : Nat} {vs : List Value} {R : Tok → Value} (C : Pur f sz vs R) {w : World} {mean : ExcName → Option Value} {mg mb : Str → Option Value} {news : List (Addr × Obj)}
    {dp un : Nat} {gd : Option (List Code)} {cn : Str} {cs : Scope} {a : Addr} {ccd : Value} {cl : List (Str × Addr)} {outer : List Env} {A₀ : Around} {base h₀ : Heap} {L : Addr} {m : Str → Option Value} {s : Shared} {Q E : Value → Shared → Prop}
    (B : Below A₀ base outer h₀) (F : Fr h₀ L s.heap m) (X : (hd.heap_39 w.params).In h₀) (N : News h₀ L s.heap news) (T : Top hd.view_39 (looseW hd.view_39 [Str.ofString "_display_width"]) mean mg mb h₀) (hk : cs.kind = .function)
    (hd' : dp + sz + 1 < recursionLimit) (hu : un + 8 * (sz + 1) < cLine) (hret : CbRet h₀ L m news s Q R) :
    wpAny (model PySem.Challenge.rw_gq5015_01.row.prog w) (ktrTop dp un gd cn cs L a ccd cl outer) (call (.ref f) vs) Q E s := C _ _ _ _ _ _ _ _ _ _ _ _ _ _ _ _ _ _ _ _ _ _ B F X N T hk hd' hu hret

def cells (x : Str) : Int := if Txt.contains (Str.ofString "ｂＢ漢") x then 2 else 1
def subc (x y : Str) : Int := if x = y then 0 else if Txt.lower x = Txt.lower y then 1 else 2
def codes : List Nat := [97, 65, 98, 65346, 65314, 233, 28450]
def clsOf (c : Nat) : Int := if c = 97 then 0 else if c = 65 then 0 else if c = 98 then 1 else if c = 65346 then 2 else if c = 65314 then 2 else if c = 233 then 3 else 4
def price (c d : Nat) : Int := if c = d then 0 else if clsOf c = clsOf d then 1 else 2
abbrev one (c : Nat) : Str := ⟨#[c]⟩
end Mine
end
noncomputable section
open PySem PySem.W PyProof.Rows
set_option maxRecDepth 100000
set_option maxHeartbeats 8000000
set_option Elab.async false
namespace Mine
theorem con67 (x : Str) (t : Tok) : Pur 67 0 [.str x t] (fun u => .int (cells x) u) := by
  unfold Pur
  w_top off
  k_fill
  intro w mean mg mb news dp un gd cn cs a ccd cl outer A₀ base h₀ L m s Q E B F X N T hk hdp hun hret
  refine wpAny_call ?_
  k_dflt cell_enter
  k_steps
  all_goals (refine cb_retI hret ?_ (by k_asm) (by k_asm))
  all_goals (unfold cells Txt.contains; simp_all)
end Mine
end
noncomputable section
open PySem PySem.W PyProof.Rows
set_option maxRecDepth 100000
set_option maxHeartbeats 8000000
set_option Elab.async false
namespace Mine
theorem con58 (x y : Str) (t u : Tok) (hx : x.length ≤ 1000) (hy : y.length ≤ 1000) : Pur 58 0 [.str x t, .str y u] (fun u => .int (subc x y) u) := by
  unfold Pur
  w_top off
  k_fill
  intro w mean mg mb news dp un gd cn cs a ccd cl outer A₀ base h₀ L m s Q E B F X N T hk hdp hun hret
  refine wpAny_call ?_
  k_dflt cell_enter
  k_steps
  all_goals (refine cb_retI hret ?_ (by k_asm) (by k_asm))
  all_goals (unfold subc; simp_all)
end Mine
end
noncomputable section
open PySem PySem.W PySem.Calls PyProof.Rows PySem.MeetsSeq
set_option maxRecDepth 100000
set_option maxHeartbeats 800000
namespace Mine
theorem tuple_index (l : Addr) (items : Array Value) (n : Nat) (x : Value) (e : Value → Bool) (he : ∀ y, y ∈ items → EqGives y x (e y)) (j : Nat) (hj : j < items.size) 
    (hit : e items[j] = true) (hno : ∀ m (hm : m < items.size), m < j → e items[m] = false) :
    Meets (Builtin.«tuple.index» ⟨[.ref l, x], []⟩)
      (fun _ R s => s.heap.get? l = some { cls := .type "tuple", dict := none, data := .seq items n, slots := #[] } ∧ R (.ok (.ret (.int j s.toks))) { s with toks := s.toks + 1 }) := by
  intro prog w A R s h
  obtain ⟨hp, g, d, tk, os⟩ := s; obtain ⟨hl, h⟩ := h
  wp_walk using wpAny_loadPart' hl
  change wpAny _ _ (forIn ([:min items.size items.size] : Std.Legacy.Range) (none, ()) (fun (i : Nat) (__s : Option Fin × Unit) => match items[i]? with
            | some y => (do
              let __do_lift ← eqBool y x
              if __do_lift = true then do
                  let __do_lift ← retInt (i : Int)
                  pure (ForInStep.done (some __do_lift, ()))
                else pure (ForInStep.yield (none, ())))
            | _ => pure (ForInStep.yield (none, ())))) _ _ _
  rw [Std.Legacy.Range.forIn_eq_forIn_range', Nat.min_self]
  have hsz : (Std.Legacy.Range.mk 0 items.size 1 (by decide)).size = items.size := by simp [Std.Legacy.Range.size]
  rw [hsz]
  refine wpAny_forIn_list _ (fun rest b s' => b = (none, ()) ∧ s' = ⟨hp, g, d, tk, os⟩ ∧ ∃ i, i ≤ j ∧ rest = List.range' i (items.size - i) 1) _ ?_ ?_ _ _ ⟨rfl, rfl, 0, Nat.zero_le _, by simp⟩
  · rintro k rest b s' ⟨rfl, rfl, i, hij, hr⟩
    have hi : i < items.size := by omega
    have e1 : items.size - i = (items.size - (i + 1)) + 1 := by omega
    rw [e1, List.range'_succ] at hr
    injection hr with hk hr
    subst hk hr
    have hg : items[k]? = some items[k] := by simp [hi]
    rw [hg]
    refine wpAny_bind (he _ (by simp) prog w _ _ _ _ ?_)
    by_cases hkj : k = j
    · subst hkj
      rw [hit]
      simp only [if_true]
      wp_walk
      exact h
    · rw [hno k hi (by omega)]
      exact wpAny_pure ⟨rfl, rfl, k + 1, by omega, rfl⟩
  · rintro b s' ⟨rfl, rfl, i, hij, hr⟩
    have e1 : items.size - i = (items.size - (i + 1)) + 1 := by omega
    rw [e1, List.range'_succ] at hr
    cases hr

def isS (x : Str) : Value → Bool
  | .str y _ => decide (y = x)
  | _ => false
theorem isS_gives (x : Str) (t : Tok) {vs : List Value} (hs : ∀ v ∈ vs, ∃ y u, v = .str y u) : ∀ y, y ∈ vs.toArray → EqGives y (.str x t) (isS x y) := by
  intro y hy
  obtain ⟨z, u, rfl⟩ := hs y (by simpa using hy)
  intro prog w A E s Q h
  exact wpAny_eqBool_str h
theorem tup_method_K {K : Frag} {prog : Program} {w : World} {A : Around} {E : Value → Shared → Prop} {s : Shared} {h₀ : Heap} {L a : Addr} {m : Str → Option Value} {pl : Sem Bool} {l : List Value} {n : Nat} {Q : Value × List Value → Shared → Prop}
    (F : Fr h₀ L s.heap m) (X : K.In h₀) (hl : K.lookup a = some ⟨.type "tuple", none, .seq l.toArray n, #[]⟩) (h : Q (.builtin "tuple.index", [.ref a]) s) : wpAny (model prog w) A (getMethod (.ref a) (Str.ofString "index") pl) Q E s :=
  getMethod_builtin ⟨_, (X.keeps F.keep) _ _ hl, rfl⟩ PySem.F.plainAttrs_tuple PySem.F.slot_tuple_index PySem.F.type_tuple_index (fun a e => by cases e; exact ⟨_, (X.keeps F.keep) _ _ hl, rfl⟩) h
theorem tup_index_K {K : Frag} {prog : Program} {w : World} {A : Around} {E : Value → Shared → Prop} {s : Shared} {h₀ : Heap} {L a : Addr} {m : Str → Option Value} {l : List Value} {n : Nat} {x : Str} {t : Tok} {Q : Value → Shared → Prop} (j : Nat)
    (F : Fr h₀ L s.heap m) (X : K.In h₀) (hl : K.lookup a = some ⟨.type "tuple", none, .seq l.toArray n, #[]⟩) (hs : ∀ v ∈ l, ∃ y u, v = .str y u) (hj : j < l.length) (hit : isS x l[j] = true) (hno : ∀ m (hm : m < l.length), m < j → isS x l[m] = false)
    (h : Q (.int j s.toks) { s with toks := s.toks + 1 }) : wpAny (model prog w) A (call (.builtin "tuple.index") [.ref a, .str x t]) Q E s :=
  call_meets PySem.F.slot_tuple_index ⟨_, (X.keeps F.keep) _ _ hl, rfl⟩ PySem.F.entry_tuple_index (PySem.F.args_tuple_index_2 _ _)
    (tuple_index a l.toArray n (.str x t) (isS x) (isS_gives x t hs) j (by simpa using hj) (by simpa using hit) (fun m hm hlt => by simpa using hno m (by simpa using hm) hlt)) ⟨(X.keeps F.keep) _ _ hl, h⟩
def posOf (c : Nat) : Nat := if c = 97 then 0 else if c = 65 then 1 else if c = 98 then 2 else if c = 65346 then 3 else if c = 65314 then 4 else if c = 233 then 5 else 6
theorem posOf_index {vs : List Value} {c : Nat} (hc : c ∈ codes) {t0 t1 t2 t3 t4 t5 t6 : Tok} (hv : vs = [.str (one 97) t0, .str (one 65) t1, .str (one 98) t2, .str (one 65346) t3, .str (one 65314) t4, .str (one 233) t5, .str (one 28450) t6]) :
    ∃ hj : posOf c < vs.length, isS (one c) vs[posOf c] = true ∧ ∀ m (hm : m < vs.length), m < posOf c → isS (one c) vs[m] = false := by
  subst hv
  simp only [codes, List.mem_cons, List.not_mem_nil, or_false] at hc
  rcases hc with rfl | rfl | rfl | rfl | rfl | rfl | rfl <;> refine ⟨by simp [posOf], by simp [posOf, isS], ?_⟩ <;> intro m hm hlt
  all_goals simp only [posOf] at hlt
  all_goals simp at hlt
  all_goals (rcases m with _ | _ | _ | _ | _ | _ | m <;> first | omega | simp [isS, one] | skip)
theorem signs_index {K : Frag} {prog : Program} {w : World} {A : Around} {E : Value → Shared → Prop} {s : Shared} {h₀ : Heap} {L a : Addr} {m : Str → Option Value} {l : List Value} {n : Nat} {c : Nat} {t : Tok} {Q : Value → Shared → Prop} {t0 t1 t2 t3 t4 t5 t6 : Tok}
    (F : Fr h₀ L s.heap m) (X : K.In h₀) (hc : c ∈ codes) (hl : K.lookup a = some ⟨.type "tuple", none, .seq l.toArray n, #[]⟩) (hv : l = [.str (one 97) t0, .str (one 65) t1, .str (one 98) t2, .str (one 65346) t3, .str (one 65314) t4, .str (one 233) t5, .str (one 28450) t6])
    (h : Q (.int (posOf c : Nat) s.toks) { s with toks := s.toks + 1 }) : wpAny (model prog w) A (call (.builtin "tuple.index") [.ref a, .str (one c) t]) Q E s := by
  obtain ⟨hj, h1, h2⟩ := posOf_index hc hv
  refine tup_index_K (posOf c) F X hl ?_ hj h1 h2 h
  subst hv
  intro v hv
  simp only [List.mem_cons, List.not_mem_nil, or_false] at hv
  rcases hv with rfl | rfl | rfl | rfl | rfl | rfl | rfl <;> exact ⟨_, _, rfl⟩
end Mine
end
noncomputable section
open PySem PySem.W PyProof.Rows
set_option maxRecDepth 100000
set_option maxHeartbeats 8000000
set_option Elab.async false
namespace Mine
local macro_rules | `(tactic| walk_at "getMethod ref") => `(tactic| (k_here; (with_reducible show wpAny _ _ (getMethod (Value.ref _) (PySem.Str.ofString "index") _) _ _ _); k_dflt (refine' tup_method_K ?F ?X ?l ?_; (case F => k_asm); (case X => k_asm); (case l => k_is))))
local macro_rules | `(tactic| walk_at "call builtin:tuple.index") => `(tactic| (k_here; k_dflt (refine' signs_index ?F ?X ?c ?l ?v ?_; (case F => k_asm); (case X => k_asm); (case c => assumption); (case l => k_is); (case v => rfl))))
theorem classes_item {K : Frag} {prog : Program} {w : World} {A : Around} {E : Value → Shared → Prop} {s : Shared} {h₀ : Heap} {L a : Addr} {m : Str → Option Value} {l : List Value} {n c : Nat} {u : Tok} {value slice : PySem.Expr} {Q : Value → Shared → Prop} {t0 t1 t2 t3 t4 t5 t6 : Tok}
    (F : Fr h₀ L s.heap m) (X : K.In h₀) (hc : c ∈ codes) (hl : K.lookup a = some ⟨.type "tuple", none, .seq l.toArray n, #[]⟩) (hv : l = [.int 0 t0, .int 0 t1, .int 1 t2, .int 2 t3, .int 2 t4, .int 3 t5, .int 4 t6])
    (h : ∀ t, Q (.int (clsOf c) t) s)
    (hs : subscripted slice false (.ref a) (.int (posOf c : Nat) u) = operate [.ref a, .int (posOf c : Nat) u] (getItem (.ref a) (.int (posOf c : Nat) u)) := by with_unfolding_all rfl) :
    wpAny (model prog w) A (subscriptTail value slice (.ref a) (.int (posOf c : Nat) u)) Q E s := by
  have hp : posOf c < 7 := by unfold posOf; split <;> (try split) <;> (try split) <;> (try split) <;> (try split) <;> (try split) <;> omega
  have hit : ∃ t, l[posOf c]? = some (.int (clsOf c) t) := by
    subst hv
    simp only [codes, List.mem_cons, List.not_mem_nil, or_false] at hc
    rcases hc with rfl | rfl | rfl | rfl | rfl | rfl | rfl <;> simp [posOf, clsOf]
  obtain ⟨t, ht⟩ := hit
  have hlen : l.length = 7 := by subst hv; rfl
  refine topTup_K F X hl (by omega) (by omega) (j := posOf c) ?_ ht (h t) hs
  rw [hlen]
  exact (seqIndex_of (by omega) (by omega)).trans (by simp)
local macro_rules | `(tactic| walk_at "subscriptTail") => `(tactic| (k_here; (with_reducible show wpAny _ _ (subscriptTail _ _ (Value.ref 60) (Value.int _ _)) _ _ _); k_dflt (refine' classes_item ?F ?X ?c ?l ?v ?_ ?s; (case F => k_asm); (case X => k_asm); (case c => assumption); (case l => k_is); (case v => rfl); (case s => with_unfolding_all rfl)); intro _))
theorem con74 (x y : Nat) (t u : Tok) (hx : x ∈ codes) (hy : y ∈ codes) : Pur 74 0 [.str (one x) t, .str (one y) u] (fun u => .int (price x y) u) := by
  unfold Pur
  w_top off
  k_fill
  intro w mean mg mb news dp un gd cn cs a ccd cl outer A₀ base h₀ L m s Q E B F X N T hk hdp hun hret
  refine wpAny_call ?_
  k_dflt cell_enter
  k_steps
  all_goals (refine cb_retI hret ?_ (by k_asm) (by k_asm))
  all_goals (unfold price; simp_all)
end Mine
end
noncomputable section
open PySem PySem.W PySem.Calls PyProof.Rows
set_option maxRecDepth 100000
namespace Mine
abbrev S (l : List Nat) : Str := ⟨l.toArray⟩
def Word (l : List Nat) : Prop := (∀ c ∈ l, c ∈ codes) ∧ l.length ≤ 1000
theorem S_len (l : List Nat) : (S l).length = l.length := by show l.toArray.size = _; simp
theorem S_eq_empty (l : List Nat) : (S l == Str.ofString "") = l.isEmpty := by
  cases l with
  | nil => rfl
  | cons x l =>
    simp only [List.isEmpty_cons, beq_eq_false_iff_ne, ne_eq]
    intro h
    have := congrArg Str.length h
    rw [S_len] at this
    cases this
theorem slice_from1 (l : List Nat) : Txt.slice (S l) (some 1) none = S l.tail := by
  cases l with
  | nil => decide
  | cons x l =>
    have h := slice_closes_from (x := S (x :: l)) (i := 1) ⟨by omega, by simp; omega⟩
    rw [beq_iff_eq] at h
    rw [h]
    simp
theorem slice_upto (l : List Nat) (j : Nat) (hj : j ≤ l.length) : Txt.slice (S l) none (some (j : Int)) = S (l.take j) := by
  have h := slice_closes_to (x := S l) (j := j) ⟨by omega, by simpa using hj⟩
  rw [beq_iff_eq] at h
  rw [h]
  simp
theorem item_at (l : List Nat) (i : Int) (h0 : 0 ≤ i) (h : i < l.length) : Txt.item (S l) i = one (l.getD i.toNat 0) := by
  unfold Txt.item Txt.charAt
  rw [S_len, seqIndex_of h0 h]
  have hn : i.toNat < l.length := by omega
  simp [hn]
section
variable {prog : Program} {w : World} {A : Around} {E : Value → Shared → Prop} {s : Shared} {value slice : PySem.Expr} {l : List Nat} {t u : Tok} {h₀ : Heap} {L : Addr} {m : Str → Option Value} {news : List (Addr × Obj)} {Q : Value → Shared → Prop}
theorem eq_empty (h : Q (.bool l.isEmpty) s) : wpAny (model prog w) A (compareOp .Eq (.str (S l) t) (.str (Str.ofString "") u)) Q E s :=
  PyProof.Rows.eq_str (by rw [S_eq_empty]; exact h)
theorem sub_from1 {ui : Tok} (hF : Fr h₀ L s.heap m) (hN : News h₀ L s.heap news) (hl : l.length ≤ 1000) (h : ∀ h' t' k, Fr h₀ L h' m → News h₀ L h' news → Q (.str (S l.tail) t') { s with heap := h', toks := k })
    (hs : subscripted slice false (.str (S l) t) (.ref s.heap.objs.size) = operate [.ref s.heap.objs.size, .str (S l) t] (getItem (.str (S l) t) (.ref s.heap.objs.size)))
    (ht : ∀ r, letTemporaryGo value (.str (S l) t) r = pure ()) :
    wpAny (model prog w) A (subscriptTail value slice (.str (S l) t) (.ref s.heap.objs.size)) Q E { s with heap := s.heap.push { cls := .type "slice", data := .fields #[.int 1 ui, .none, .none] } } :=
  slice_strN_sn hF hN (by rw [slice_from1]; exact h) hs ht (by rw [S_len, sizeLine_eq]; omega)
theorem sub_item {i : Int} {u : Tok} (hl : l.length ≤ 1000) (h0 : 0 ≤ i) (h1 : i < l.length) (h : Q (.str (one (l.getD i.toNat 0)) s.toks) { s with toks := s.toks + 1 })
    (hs : subscripted slice false (.str (S l) t) (.int i u) = operate [.str (S l) t, .int i u] (getItem (.str (S l) t) (.int i u)))
    (ht : ∀ r, letTemporaryGo value (.str (S l) t) r = pure ()) :
    wpAny (model prog w) A (subscriptTail value slice (.str (S l) t) (.int i u)) Q E s :=
  item_str (fitsSsize_of (N := 9223372036854775808) (by omega) (by omega) (Int.le_refl _)) (by rw [S_len]; omega) (by rw [S_len]; exact h1) (fun _ => by rw [item_at l i h0 h1]; exact h) hs ht
theorem len_S (hl : l.length ≤ 1000) (h : Q (.int l.length (s.toks + 1)) { s with toks := s.toks + 2 }) : wpAny (model prog w) A (call (.builtin "len") [.str (S l) t]) Q E s :=
  SBL.len (by rw [S_len]; omega) (by rw [S_len]; exact h)
end
theorem Word.le {l : List Nat} (h : Word l) : l.length ≤ 1000 := h.2
theorem Word.tail {x : Nat} {l : List Nat} (h : Word (x :: l)) : Word l := ⟨fun c hc => h.1 c (.tail _ hc), by have := h.2; simp at this; omega⟩
theorem Word.head {x : Nat} {l : List Nat} (h : Word (x :: l)) : x ∈ codes := h.1 x (.head _)
theorem Word.nth {l : List Nat} (h : Word l) {i : Int} (h0 : 0 ≤ i) (h1 : i < l.length) : l.getD i.toNat 0 ∈ codes := by
  have hn : i.toNat < l.length := by omega
  rw [List.getD_eq_getElem?_getD, List.getElem?_eq_getElem hn]
  exact h.1 _ (List.getElem_mem hn)
end Mine
end
open PySem PySem.W PySem.Calls PyProof.Rows Mine
local macro_rules | `(tactic| walk_at "compareOp Eq str str") => `(tactic| (k_here; (with_reducible show wpAny _ _ (compareOp CmpOp.Eq (Value.str (S _) _) (Value.str (Str.ofString "") _)) _ _ _); refine eq_empty ?_; (try dsimp only [List.isEmpty])))
local macro_rules | `(tactic| walk_at "call builtin:len") => `(tactic| (k_here; (with_reducible show wpAny _ _ (call (Value.builtin "len") [Value.str (S _) _]) _ _ _); refine' len_S ?h ?_; (case h => first | with_reducible assumption | exact Word.le (by with_reducible assumption) | (simp; done))))
local macro_rules | `(tactic| walk_at "subscriptTail Name Slice str ref") => `(tactic| (k_here; (with_reducible show wpAny _ _ (subscriptTail _ (PySem.Expr.Slice (some (PySem.Expr.Constant (Const.int 1) _ _)) none none _) (Value.str (S _) _) (Value.ref _)) _ _ _); (with_reducible rename Fr _ _ _ _ => F'); (with_reducible rename News _ _ _ _ => N'); (refine' sub_from1 (s := ⟨_, _, _, _, _⟩) F' N' ?h ?_ ?s ?t); (case s => with_unfolding_all rfl); (case t => (intro _; with_unfolding_all rfl)); (case h => first | with_reducible assumption | exact Word.le (by with_reducible assumption)); intro h9 t9 k9 F9 N9; (try dsimp only [List.tail])))
local macro_rules | `(tactic| walk_at "subscriptTail Name Constant str int") => `(tactic| (k_here; (with_reducible show wpAny _ _ (subscriptTail _ _ (Value.str (S _) _) (Value.int _ _)) _ _ _); (with_unfolding_all refine' sub_item ?h ?h0 ?h1 ?_ ?s ?t); (case s => with_unfolding_all rfl); (case t => (intro _; with_unfolding_all rfl)); (case h => first | with_reducible assumption | exact Word.le (by with_reducible assumption)); (case h0 => first | decide | omega); (case h1 => first | omega | (simp only [List.length_cons]; omega)); (try dsimp only)))
local macro_rules | `(tactic| walk_at "subscriptTail Name BinOp str int") => `(tactic| (k_here; (with_reducible show wpAny _ _ (subscriptTail _ _ (Value.str (S _) _) (Value.int _ _)) _ _ _); (with_unfolding_all refine' sub_item ?h ?h0 ?h1 ?_ ?s ?t); (case s => with_unfolding_all rfl); (case t => (intro _; with_unfolding_all rfl)); (case h => first | with_reducible assumption | exact Word.le (by with_reducible assumption)); (case h0 => first | decide | omega); (case h1 => first | omega | (simp only [List.length_cons]; omega)); (try dsimp only)))
local macro_rules | `(tactic| walk_at "subscriptTail Name Name str int") => `(tactic| (k_here; (with_reducible show wpAny _ _ (subscriptTail _ _ (Value.str (S _) _) (Value.int _ _)) _ _ _); (with_unfolding_all refine' sub_item ?h ?h0 ?h1 ?_ ?s ?t); (case s => with_unfolding_all rfl); (case t => (intro _; with_unfolding_all rfl)); (case h => first | with_reducible assumption | exact Word.le (by with_reducible assumption)); (case h0 => first | decide | omega); (case h1 => first | omega | (simp only [List.length_cons]; omega)); (try dsimp only)))
noncomputable section
open PySem PySem.W PySem.Calls PyProof.Rows
set_option maxRecDepth 100000
set_option maxHeartbeats 8000000
set_option Elab.async false
namespace Mine
def lall : List Nat → List Nat → Int
  | [], k => 2 * (k.length : Int)
  | x :: l, [] => 2 * ((l.length : Int) + 1)
  | x :: l, y :: k => min (min (2 + lall l (y :: k)) (2 + lall (x :: l) k)) (price x y + lall l k)
termination_by l k => l.length + k.length
theorem min3 {prog : Program} {w : World} {A : Around} {E : Value → Shared → Prop} {s : Shared} {h₀ : Heap} {L : Addr} {m : Str → Option Value} {news : List (Addr × Obj)} {a b c : Int} {t u x : Tok} {Q : Value → Shared → Prop} (hh : A.handled = none)
    (F : Fr h₀ L s.heap m) (N : News h₀ L s.heap news) (h : ∀ y h' tk, Fr h₀ L h' m → News h₀ L h' news → Q (.int (min (min a b) c) y) { s with heap := h', toks := tk }) :
    wpAny (model prog w) A (call (.builtin "min") [.int a t, .int b u, .int c x]) Q E s :=
  min_three_ints hh fun h' tk hk => by
    have H := fun y => h y h' tk (F.grownK hk) (N.keeps hk)
    by_cases h1 : b < a
    · by_cases h2 : c < b
      · have e : min (min a b) c = c := by omega
        rw [e] at H; simpa [h1, h2] using H x
      · have e : min (min a b) c = b := by omega
        rw [e] at H; simpa [h1, h2] using H u
    · by_cases h2 : c < a
      · have e : min (min a b) c = c := by omega
        rw [e] at H; simpa [h1, h2] using H x
      · have e : min (min a b) c = a := by omega
        rw [e] at H; simpa [h1, h2] using H t
local macro_rules | `(tactic| walk_at "call builtin:min") => `(tactic| (k_here; (with_reducible show wpAny _ _ (call (Value.builtin "min") [Value.int _ _, Value.int _ _, Value.int _ _]) _ _ _); k_dflt (refine' min3 ?h ?F ?N ?_; (case h => exact rfl); (case F => k_asm); (case N => k_asm)); intro y9 h9 tk9 F9 N9))
local macro_rules | `(tactic| walk_at "call ref") => `(tactic| (k_here; (with_reducible show wpAny _ _ (call (Value.ref 74) [Value.str _ _, Value.str _ _]) _ _ _); k_dflt (refine' pur_use (con74 _ _ _ _ ?hx ?hy) ?k1 ?k2 ?k3 ?k4 ?k5 ?kK ?kd ?ku ?_; (case hx => assumption); (case hy => assumption); (case k1 => k_asm); (case k2 => k_asm); (case k3 => k_asm); (case k4 => k_asm); (case k5 => k_asm); (case kK => first | exact rfl | assumption); (case kd => ktr_room); (case ku => ktr_units)); intro t9 h9 tk9 F9 N9))
theorem lall_nil (k : List Nat) : lall [] k = 2 * (k.length : Int) := by rw [lall]
theorem lall_nil2 (l : List Nat) : lall l [] = 2 * (l.length : Int) := by cases l <;> simp [lall]
def allBody (l k : List Nat) (n : Nat) : Prop := ∀ (t u : Tok), Pur 81 n [.str (S l) t, .str (S k) u] (fun u => .int (lall l k) u)
theorem con81_nil1 (n : Nat) (k : List Nat) (hk : Word k) (t u : Tok) : Pur 81 n [.str (S []) t, .str (S k) u] (fun u => .int (lall [] k) u) := by
  unfold Pur
  w_top off
  k_fill
  intro w mean mg mb news dp un gd cn cs a ccd cl outer A₀ base h₀ L m s Q E B F X N T hk hdp hun hret
  refine wpAny_call ?_
  k_dflt cell_enter
  k_steps
  all_goals (refine cb_retI hret ?_ (by k_asm) (by k_asm))
  all_goals (simp [lall_nil])
theorem con81_nil2 (n : Nat) (x : Nat) (l : List Nat) (hl : Word (x :: l)) (t u : Tok) : Pur 81 n [.str (S (x :: l)) t, .str (S []) u] (fun u => .int (lall (x :: l) []) u) := by
  unfold Pur
  w_top off
  k_fill
  intro w mean mg mb news dp un gd cn cs a ccd cl outer A₀ base h₀ L m s Q E B F X N T hk hdp hun hret
  refine wpAny_call ?_
  k_dflt cell_enter
  k_steps
  all_goals (refine cb_retI hret ?_ (by k_asm) (by k_asm))
  all_goals (simp [lall_nil2])

def AllIH (n : Nat) : Prop := ∀ (l k : List Nat) (t u : Tok), Word l → Word k → l.length + k.length ≤ n → Pur 81 n [.str (S l) t, .str (S k) u] (fun u => .int (lall l k) u)
theorem AllIH.get {n : Nat} (h : AllIH n) {l k : List Nat} {t u : Tok} (hl : Word l) (hk : Word k) (hn : l.length + k.length ≤ n) : Pur 81 n [.str (S l) t, .str (S k) u] (fun u => .int (lall l k) u) := h l k t u hl hk hn
local macro_rules | `(tactic| walk_at "call ref") => `(tactic| (k_here; (with_reducible show wpAny _ _ (call (Value.ref 81) [Value.str _ _, Value.str _ _]) _ _ _); k_dflt (refine' pur_use (AllIH.get ?ih ?hx ?hy ?hn) ?k1 ?k2 ?k3 ?k4 ?k5 ?kK ?kd ?ku ?_; (case ih => assumption); (case hx => first | assumption | exact Word.tail (by assumption)); (case hy => first | assumption | exact Word.tail (by assumption)); (case hn => (simp only [List.length_cons] at *; omega)); (case k1 => k_asm); (case k2 => k_asm); (case k3 => k_asm); (case k4 => k_asm); (case k5 => k_asm); (case kK => first | exact rfl | assumption); (case kd => ktr_room); (case ku => ktr_units)); intro t9 h9 tk9 F9 N9))
theorem con81_step (n : Nat) (ih : AllIH n) (x y : Nat) (l k : List Nat) (hl : Word (x :: l)) (hk' : Word (y :: k)) (hn : (x :: l).length + (y :: k).length ≤ n + 1) (t u : Tok) : Pur 81 (n + 1) [.str (S (x :: l)) t, .str (S (y :: k)) u] (fun u => .int (lall (x :: l) (y :: k)) u) := by
  have hx := hl.head
  have hy := hk'.head
  unfold Pur
  w_top off
  k_fill
  intro w mean mg mb news dp un gd cn cs a ccd cl outer A₀ base h₀ L m s Q E B F X N T hk hdp hun hret
  refine wpAny_call ?_
  k_dflt cell_enter
  k_steps
  all_goals (refine cb_retI hret ?_ (by k_asm) (by k_asm))
  all_goals (rw [lall]; rfl)
theorem con81 : ∀ n, AllIH n := by
  intro n
  induction n with
  | zero =>
    intro l k t u hl hk hn
    cases l with
    | nil => exact con81_nil1 0 k hk t u
    | cons x l => simp at hn
  | succ n ih =>
    intro l k t u hl hk hn
    cases l with
    | nil => exact con81_nil1 _ k hk t u
    | cons x l =>
      cases k with
      | nil => exact con81_nil2 _ x l hl t u
      | cons y k => exact con81_step n ih x y l k hl hk hn t u
end Mine
end
noncomputable section
open PySem PySem.W PySem.Calls PyProof.Rows PyProof.V PySem.Spec
set_option maxRecDepth 100000
namespace Mine
theorem kstB_self {m₁ : Str → Option Value} {ps : List (Str × Value)} (h : ∀ p ∈ ps, m₁ p.1 = some p.2) : kstB m₁ ps = m₁ := by
  funext z
  exact kstB_eq h fun _ => rfl
abbrev Led := List (Addr × Obj)
section
variable {prog : Program} {w : World} {A : Around} {E : Value → Shared → Prop} {s : Shared} {env : Env} {h₀ : Heap} {x : Str} {body : List Stmt} {Q : Flow → Shared → Prop}
theorem rngN {r : Addr} {b₀ : Int} {t₀ u₀ v₀ : Tok} {n : Nat} {m₀ : Str → Option Value} {news : Led} (J : Nat → (Str → Option Value) → Led → Prop)
    (hh : A.handled = none) (hr : IsRange s.heap r 0 b₀ 1 t₀ u₀ v₀) (hb : b₀ = (n : Int)) (hn : n ≤ 5000) (F : Fr h₀ env.locals s.heap m₀) (N : News h₀ env.locals s.heap news) (hj : J 0 m₀ news)
    (turn : ∀ (i : Nat) t m₁ nx h tk own, i < n → nx.map (·.1) = news.map (·.1) → OwnOff own (news.map (·.1)) → J i m₁ nx → Fr h₀ env.locals h (fun y => if y = x then some (.int (i : Int) t) else m₁ y) → News h₀ env.locals h (nx ++ own) →
      wpAny (model prog w) A (execs body env) (InvPostN h₀ env.locals (J (i + 1)) own (news.map (·.1)) { s with heap := h, toks := tk } Q) E { s with heap := h, toks := tk })
    (done : ∀ m₁ nx h tk, J n m₁ nx → Fr h₀ env.locals h m₁ → News h₀ env.locals h nx → Q .next { s with heap := h, toks := tk }) :
    wpAny (model prog w) A (pyIter (.ref r)) (fun it s₂ => LoopAtV prog w A h₀ env x body Q E it s₂) E s := by
  subst hb
  have hsmall : Builtin.Range.small 0 (n : Int) 1 = true := small_one (by omega) (by omega) (by omega) (by omega)
  have hsz : Builtin.Range.rangeSize 0 (n : Int) 1 = (n : Int) := by
    have := rangeSize_nat 0 n
    simpa using this
  refine wpAny_pyIter_range hr hsmall ?_
  have W : Walks prog w A s.heap.objs.size [s.heap.objs.size] [s.heap.objs.size] n (fun i v => i < n ∧ ∃ t, v = .int (0 + i * 1) t)
      (fun i h => IsRangeIter h s.heap.objs.size (0 + (i : Nat) * 1) ((n : Int) - (i : Nat)) 1) := (Walks.range hh _ 0 1 n).bound
  refine loop_invN J W ?_ ?_ ?_ ?_ (by show IsRangeIter _ _ _ _ _; rw [hsz]; simpa using Heap.get?_push_size _ rfl) (F.push _) (fun p hp => ⟨Heap.get?_push_of_some _ (N p hp).1, (N p hp).2⟩) hj ?_ ?_
  · intro hm
    exact absurd F.ns.lt ((List.mem_singleton.mp hm) ▸ Nat.lt_irrefl _)
  · intro b hb
    rw [List.mem_singleton.mp hb]
    exact next_is_new F
  · intro p hp hI
    exact absurd (Heap.lt_size (N p hp).1) ((List.mem_singleton.mp hI) ▸ Nat.lt_irrefl _)
  · intro p hp hI
    exact absurd (Heap.lt_size (N p hp).1) ((List.mem_singleton.mp hI) ▸ Nat.lt_irrefl _)
  · rintro i v m₁ nx h tk own hi ⟨_, t, rfl⟩ hmap hoff hJ F₁ N₁
    have e1 : (0 : Int) + (i : Int) * 1 = (i : Int) := by omega
    rw [e1] at F₁
    exact turn i t m₁ nx h tk own hi hmap hoff hJ F₁ N₁
  · exact done
end
end Mine
namespace Mine
section
variable {prog : Program} {w : World} {A : Around} {E : Value → Shared → Prop} {s : Shared} {h₀ : Heap} {L : Addr} {m : Str → Option Value} {env : Env}
theorem rest_ind {elt : PySem.Expr} {x : Str} {scope : Scope} {cl : List (Str × Addr)} {S : Led → Prop} {P : Nat → Value → Prop} {Fin : List Value → Led → Prop} {n : Nat} (J : Nat → List Value → Led → Prop)
    (turn : ∀ i ys news v I oI C oC D m₂ h tk (E' : Value → Shared → Prop), i < n → J i ys news → P i v → LCg.NsObj oC m₂ → m₂ x = some v → Fr h₀ L h m → News h₀ L h ((I, oI) :: (C, oC) :: (D, LCg.lst ys) :: news) → LCg.Off3 I C D news → ((@Ne Nat I C) ∧ (@Ne Nat I D) ∧ (@Ne Nat C D)) →
      wpAny (model prog w) A (eval elt (compEnvC scope cl C env)) (LCg.CompEnd h₀ L m { s with heap := h, toks := tk } I oI C oC D (LCg.lst ys) S (fun y news' => J (i + 1) (ys ++ [y]) news')) E' { s with heap := h, toks := tk })
    (fin : ∀ ys news, J n ys news → Fin ys news) {news : Led} (h0 : J 0 [] news) : LCg.CompRest prog w A h₀ L m env elt x scope cl s S P Fin n 0 [] news := by
  have all : ∀ k i ys news, i + k = n → J i ys news → LCg.CompRest prog w A h₀ L m env elt x scope cl s S P Fin k i ys news := by
    intro k
    induction k with
    | zero => intro i ys news e hJ; exact fin _ _ (by have : i = n := by omega
                                                      exact this ▸ hJ)
    | succ k ih =>
      intro i ys news e hJ v I oI C oC D m₂ h tk E' hP hoC hx F N off hne
      refine wpAny_mono (turn i ys news v I oI C oC D m₂ h tk E' (by omega) hJ hP hoC hx F N off hne) (fun y s₂ H => ?_) fun _ _ e => e
      obtain ⟨h', tk', news', e1, F', N', o', hS, r⟩ := H
      exact ⟨h', tk', news', e1, F', N', o', hS, ih (i + 1) _ _ (by omega) r⟩
  exact all n 0 [] news (by omega) h0

theorem ints_set {vs : List Value} {ns : List Int} (h : IntsAre vs ns) : ∀ (k : Nat) (v : Int) (t : Tok), IntsAre (vs.set k (.int v t)) (ns.set k v) := by
  induction h with
  | nil => intro k v t; simp only [List.set_nil]; exact .nil
  | cons n t₀ _ ih =>
    intro k v t
    cases k with
    | zero => exact .cons v t (by assumption)
    | succ k => exact .cons n t₀ (ih k v t)
/-- a list object that holds just vs -/
def RowO (o : Obj) (vs : List Value) : Prop := o.cls = .type "list" ∧ ∃ e, o.data = .seq vs.toArray e
structure TInv (base led : Led) (tb : Addr) (ra : Nat → Addr) (m n : Nat) (T : Nat → Nat → Int) : Prop where
  base : ∀ p ∈ base, p ∈ led
  top : ∃ o, (tb, o) ∈ led ∧ RowO o ((List.range m).map fun i => Value.ref (ra i))
  rows : ∀ i, i < m → ∃ o vs, (ra i, o) ∈ led ∧ RowO o vs ∧ IntsAre vs ((List.range n).map (T i))
structure TSep (base : Led) (tb : Addr) (ra : Nat → Addr) (m : Nat) : Prop where
  inj : ∀ i j, i < m → j < m → ra i = ra j → i = j
  tb : ∀ i, i < m → ra i ≠ tb
  base : ∀ p ∈ base, ∀ i, i < m → p.1 ≠ ra i
def updT (T : Nat → Nat → Int) (i j : Nat) (v : Int) : Nat → Nat → Int := fun a b => if a = i ∧ b = j then v else T a b
theorem RowO.isList {h : Heap} {a : Addr} {o : Obj} {vs : List Value} (x : RowO o vs) (e : h.get? a = some o) : h.IsList a vs.toArray := ⟨o, e, x.1, x.2⟩
theorem TInv.mono {base base' led led' : Led} {tb : Addr} {ra : Nat → Addr} {m n : Nat} {T : Nat → Nat → Int} (x : TInv base led tb ra m n T) (h : ∀ p ∈ led, p ∈ led') (hb : ∀ p ∈ base', p ∈ led') : TInv base' led' tb ra m n T :=
  ⟨hb, let ⟨o, ho, r⟩ := x.top; ⟨o, h _ ho, r⟩, fun i hi => let ⟨o, vs, ho, r⟩ := x.rows i hi; ⟨o, vs, h _ ho, r⟩⟩
variable {base led LED own : Led} {tb : Addr} {ra : Nat → Addr} {mm nn : Nat} {T : Nat → Nat → Int} {value slice : PySem.Expr} {k : Int} {u : Tok}
theorem tab_row {Q : Value → Shared → Prop} (N : News h₀ L s.heap LED) (I : TInv base led tb ra mm nn T) (sub : ∀ p ∈ led, p ∈ LED) (h0 : 0 ≤ k) (h1 : k < mm) (hm : mm ≤ 5000) (h : Q (.ref (ra k.toNat)) s)
    (hs : subscripted slice false (.ref tb) (.int k u) = operate [.ref tb, .int k u] (getItem (.ref tb) (.int k u))) :
    wpAny (model prog w) A (subscriptTail value slice (.ref tb) (.int k u)) Q E s := by
  obtain ⟨o, ho, r⟩ := I.top
  have hl := r.isList (N _ (sub _ ho)).1
  have hx : ((List.range mm).map fun i => Value.ref (ra i))[k.toNat]? = some (.ref (ra k.toNat)) := by
    have : k.toNat < mm := by omega
    simp [this]
  exact tail_any hl.typeIs slot_list_getitem.lookup (wpAny_getItem_list hl h0 (by omega) (by simpa using hx) h) hs
theorem tab_item {Q : Value → Shared → Prop} {i : Nat} (N : News h₀ L s.heap LED) (I : TInv base led tb ra mm nn T) (sub : ∀ p ∈ led, p ∈ LED) (hi : i < mm) (h0 : 0 ≤ k) (h1 : k < nn) (hm : nn ≤ 5000) (h : ∀ t, Q (.int (T i k.toNat) t) s)
    (hs : subscripted slice false (.ref (ra i)) (.int k u) = operate [.ref (ra i), .int k u] (getItem (.ref (ra i)) (.int k u))) :
    wpAny (model prog w) A (subscriptTail value slice (.ref (ra i)) (.int k u)) Q E s := by
  obtain ⟨o, vs, ho, r, hi'⟩ := I.rows i hi
  have hl := r.isList (N _ (sub _ ho)).1
  have hlt : k.toNat < nn := by omega
  obtain ⟨t, hx⟩ := hi'.get k.toNat (T i k.toNat) (by simp [hlt])
  exact tail_any hl.typeIs slot_list_getitem.lookup (wpAny_getItem_list hl h0 (by omega) (by simpa using hx) (h t)) hs
theorem tab_store {Q : Unit → Shared → Prop} {i : Nat} {v : Int} {tv : Tok} (F : Fr h₀ L s.heap m) (N : News h₀ L s.heap LED) (I : TInv base led tb ra mm nn T) (Z : TSep base tb ra mm) (sub : ∀ p ∈ led, p ∈ LED) (subo : ∀ p ∈ own, p ∈ LED) (off : OwnOff own (led.map (·.1)))
    (hi : i < mm) (h0 : 0 ≤ k) (h1 : k < nn) (hm : nn ≤ 5000)
    (h : ∀ h' led', Fr h₀ L h' m → News h₀ L h' (led' ++ own) → led'.map (·.1) = led.map (·.1) → TInv base led' tb ra mm nn (updT T i k.toNat v) → Q () { s with heap := h' }) :
    wpAny (model prog w) A (setItem (.ref (ra i)) (.int k u) (.int v tv)) Q E s := by
  obtain ⟨o, vs, ho, r, hi'⟩ := I.rows i hi
  have hl := r.isList (N _ (sub _ ho)).1
  have hlen : vs.length = nn := by rw [hi'.length]; simp
  have hlt : k.toNat < nn := by omega
  refine wpAny_setItem_list hl h0 (by omega) (by simp; omega) fun h' hl' hs' => ?_
  obtain ⟨o', ho', hc', e', hd'⟩ := hl'
  have hRa := (N _ (sub _ ho)).2
  have F' : Fr h₀ L h' m := F.change hs' hRa.1 hRa.2
  have N₀ : News h₀ L s.heap led := fun p hp => N p (sub p hp)
  have N₁ := N₀.update ho hs' ho'
  have key : ∀ p : Addr × Obj, p ∈ led → p.1 ≠ ra i → p ∈ led.map (fun p => if p.1 = ra i then (ra i, o') else p) := fun p hp hne => List.mem_map.mpr ⟨p, hp, by rw [if_neg hne]⟩
  refine h h' (led.map fun p => if p.1 = ra i then (ra i, o') else p) F' ?_ ?_ ?_
  · intro p hp
    rcases List.mem_append.mp hp with hp | hp
    · exact N₁ p hp
    · have hne : p.1 ≠ ra i := off p hp (ra i) (List.mem_map.mpr ⟨_, ho, rfl⟩)
      exact ⟨(hs'.2 p.1 hne).trans (N p (subo p hp)).1, (N p (subo p hp)).2⟩
  · rw [List.map_map]
    apply List.map_congr_left
    intro p _
    by_cases hp : p.1 = ra i
    · simp [hp]
    · simp [hp]
  · refine ⟨fun p hp => key p (I.base p hp) (Z.base p hp i hi), ?_, ?_⟩
    · obtain ⟨ot, hot, rt⟩ := I.top
      exact ⟨ot, key _ hot (fun e => Z.tb i hi e.symm), rt⟩
    · intro a ha
      by_cases hai : a = i
      · subst hai
        refine ⟨o', vs.set k.toNat (.int v tv), List.mem_map.mpr ⟨_, ho, by simp⟩, ⟨hc', e', by simpa using hd'⟩, ?_⟩
        have e1 : (List.range nn).map (updT T a k.toNat v a) = ((List.range nn).map (T a)).set k.toNat v := by
          apply List.ext_getElem
          · simp
          · intro z h1 h2
            simp only [List.getElem_map, List.getElem_range, List.getElem_set, updT, true_and]
            by_cases hz : z = k.toNat
            · subst hz; simp
            · have : ¬ k.toNat = z := fun e => hz e.symm
              simp [hz, this]
        rw [e1]
        exact ints_set hi' _ _ _
      · obtain ⟨oa, va, hoa, r1, r2⟩ := I.rows a ha
        refine ⟨oa, va, key _ hoa (fun e => hai (Z.inj a i ha hi e)), r1, ?_⟩
        have e1 : (List.range nn).map (updT T i k.toNat v a) = (List.range nn).map (T a) := by
          apply List.map_congr_left
          intro z _
          simp [updT, hai]
        rw [e1]; exact r2
end
end Mine
namespace Mine
/-- a goal at which the walk is to stand still -/
def Halt (P : Prop) : Prop := P
theorem halt {P : Prop} (h : Halt P) : P := h
theorem Halt.go {P : Prop} (h : P) : Halt P := h
end Mine
namespace Mine
structure JRow (base : Led) (n i : Nat) (ra : Nat → Addr) (ys : List Value) (nw : Led) : Prop where
  ys : ys = (List.range i).map fun a => Value.ref (ra a)
  kept : ∀ p ∈ base, p ∈ nw
  rows : ∀ a, a < i → ∃ o vs, (ra a, o) ∈ nw ∧ RowO o vs ∧ IntsAre vs ((List.range n).map fun _ => 0)
  inj : ∀ a b, a < i → b < i → ra a = ra b → a = b
  sep : ∀ p ∈ base, ∀ a, a < i → p.1 ≠ ra a
theorem JRow.start (base : Led) (n : Nat) : JRow base n 0 (fun _ => 0) [] base := ⟨rfl, fun _ h => h, fun _ h => absurd h (Nat.not_lt_zero _), fun _ _ h => absurd h (Nat.not_lt_zero _), fun _ _ _ h => absurd h (Nat.not_lt_zero _)⟩
theorem JRow.step {base nw : Led} {n i : Nat} {ra : Nat → Addr} {ys vs : List Value} {D : Addr} {o : Obj} (J : JRow base n i ra ys nw) (hlt : AllLt D nw) (hr : RowO o vs) (hi : IntsAre vs ((List.range n).map fun _ => 0)) :
    JRow base n (i + 1) (fun a => if a = i then D else ra a) (ys ++ [.ref D]) ((D, o) :: nw) := by
  have hl := ktn_ltOf hlt
  have hne : ∀ a, a < i → ra a ≠ D := fun a ha e => by
    obtain ⟨o', _, h, _⟩ := J.rows a ha
    have := hl _ h
    rw [e] at this
    exact Nat.lt_irrefl _ this
  refine ⟨?_, fun p hp => .tail _ (J.kept p hp), ?_, ?_, ?_⟩
  · rw [J.ys, List.range_succ, List.map_append]
    congr 1
    · apply List.map_congr_left
      intro a ha
      have := List.mem_range.mp ha
      rw [if_neg (by omega)]
    · simp
  · intro a ha
    by_cases h : a = i
    · exact ⟨o, vs, by simp [h], hr, hi⟩
    · obtain ⟨o', vs', h1, h2⟩ := J.rows a (by omega)
      exact ⟨o', vs', by rw [if_neg h]; exact .tail _ h1, h2⟩
  · intro a b ha hb e
    by_cases h1 : a = i <;> by_cases h2 : b = i
    · omega
    · rw [if_pos h1, if_neg h2] at e; exact absurd e.symm (hne b (by omega))
    · rw [if_neg h1, if_pos h2] at e; exact absurd e (hne a (by omega))
    · rw [if_neg h1, if_neg h2] at e; exact J.inj a b (by omega) (by omega) e
  · intro p hp a ha
    by_cases h : a = i
    · rw [if_pos h]; exact Nat.ne_of_lt (hl _ (J.kept p hp))
    · rw [if_neg h]; exact J.sep p hp a (by omega)
theorem JRow.tab {base nw : Led} {n i : Nat} {ra : Nat → Addr} {ys : List Value} {D : Addr} (J : JRow base n i ra ys nw) (off : LCg.Off1 D nw) :
    TInv base ((D, LCg.lst ys) :: nw) D ra i n (fun _ _ => 0) ∧ TSep base D ra i := by
  have hoff : ∀ {l : Led}, LCg.Off1 D l → ∀ p ∈ l, p.1 ≠ D := by
    intro l
    induction l with
    | nil => intro _ p hp; cases hp
    | cons q r ih =>
      intro h p hp
      rcases List.mem_cons.mp hp with rfl | hp
      · exact h.1
      · exact ih h.2 p hp
  refine ⟨⟨fun p hp => .tail _ (J.kept p hp), ⟨_, .head _, rfl, ys.length, by rw [J.ys]⟩, fun a ha => ?_⟩, ⟨J.inj, fun a ha => ?_, J.sep⟩⟩
  · obtain ⟨o, vs, h, r⟩ := J.rows a ha
    exact ⟨o, vs, .tail _ h, r⟩
  · obtain ⟨o, vs, h, r⟩ := J.rows a ha
    exact hoff off _ h
theorem reps_flat {α : Type} (n : Nat) (v : α) : (List.replicate n [v]).flatten = List.replicate n v := by
  induction n with
  | zero => rfl
  | succ n ih => rw [List.replicate_succ, List.flatten_cons, ih]; rfl
theorem reps_zero {vs : List Value} {k : Nat} {z : Int} (hz : z.toNat = k) (h : IntsAre vs (List.replicate z.toNat [(0 : Int)]).flatten) : IntsAre vs ((List.range k).map fun _ => 0) := by
  have e : (List.replicate z.toNat [(0 : Int)]).flatten = (List.range k).map fun _ => 0 := by
    rw [reps_flat, hz]
    apply List.ext_getElem <;> simp
  rwa [e] at h
end Mine
namespace Mine
/-- the least costs of the beginnings, as the table holds them -/
def dpt (l k : List Nat) : Nat → Nat → Int
  | 0, 0 => 0
  | 0, j + 1 => dpt l k 0 j + 2
  | i + 1, 0 => dpt l k i 0 + 2
  | i + 1, j + 1 => min (min (dpt l k i (j + 1) + 2) (dpt l k (i + 1) j + 2)) (dpt l k i j + subc (one (l.getD i 0)) (one (k.getD j 0)))
def Tst (l k : List Nat) (i j : Nat) : Nat → Nat → Int := fun a b => if a < i ∨ (a = i ∧ b < j) then dpt l k a b else 0
theorem Tst_upd (l k : List Nat) (i j : Nat) : updT (Tst l k i j) i j (dpt l k i j) = Tst l k i (j + 1) := by
  funext a b
  unfold updT Tst
  by_cases h : a = i ∧ b = j
  · obtain ⟨rfl, rfl⟩ := h
    simp
  · rw [if_neg h]
    have e : (a < i ∨ (a = i ∧ b < j)) ↔ (a < i ∨ (a = i ∧ b < j + 1)) := by omega
    simp only [e]
theorem Tst_zero (l k : List Nat) : Tst l k 0 0 = fun _ _ => 0 := by
  funext a b
  unfold Tst
  rw [if_neg (by omega)]
theorem Tst_row (l k : List Nat) (i n b a : Nat) (hb : b < n) : Tst l k i n a b = Tst l k (i + 1) 0 a b := by
  unfold Tst
  have e : (a < i ∨ (a = i ∧ b < n)) ↔ (a < i + 1 ∨ (a = i + 1 ∧ b < 0)) := by omega
  simp only [e]
theorem Tst_get (l k : List Nat) {i j a b : Nat} (h : a < i ∨ (a = i ∧ b < j)) : Tst l k i j a b = dpt l k a b := if_pos h
theorem TInv.congr {base led : Led} {tb : Addr} {ra : Nat → Addr} {m n : Nat} {T T' : Nat → Nat → Int} (x : TInv base led tb ra m n T) (h : ∀ a b, a < m → b < n → T a b = T' a b) : TInv base led tb ra m n T' :=
  ⟨x.base, x.top, fun i hi => by
    obtain ⟨o, vs, h1, h2, h3⟩ := x.rows i hi
    refine ⟨o, vs, h1, h2, ?_⟩
    have e : (List.range n).map (T' i) = (List.range n).map (T i) := List.map_congr_left fun b hb => (h i b hi (List.mem_range.mp hb)).symm
    rw [e]; exact h3⟩
structure JT (base adr0 own : Led) (tb : Addr) (ra : Nat → Addr) (l k : List Nat) (i j : Nat) (ps : List (Str × Value)) (m₁ : Str → Option Value) (nx : Led) : Prop where
  fr : ∀ p ∈ ps, m₁ p.1 = some p.2
  led : ∃ nx', nx = nx' ++ own ∧ nx'.map (·.1) = adr0.map (·.1) ∧ TInv base nx' tb ra (l.length + 1) (k.length + 1) (Tst l k i j)
end Mine
namespace Mine
theorem ld_cellE {M : Model} {A : Around} {E : Value → Shared → Prop} {s : Shared} {h₀ : Heap} {L c : Addr} {LED : Led} {env : Env} {x : Str} {pos : Pos} {v : Value} {o : Obj} {Q : Value → Shared → Prop} (N : News h₀ L s.heap LED) (hm : (c, o) ∈ LED) (hd : o.data = .cell (some v)) (h : Q v s)
    (hk : env.scope.kind = .function) (hx : env.kindOf x = some .cell) (hc : env.cells.lookup x = some c) (hb : (x == ("__debug__" : Str)) = false := by decide) :
    wpAny M A (eval (.Name x pos) env) Q E s := wpAny_Name (wpAny_loadName_cell hk hx hc ⟨o, N.get hm, hd⟩ h) hb
end Mine
namespace Mine
section
variable {prog : Program} {w : World} {A : Around} {E : Value → Shared → Prop} {s : Shared} {h₀ : Heap} {L a b : Addr} {m : Str → Option Value} {LED : Led} {its its' : Array Value} {e e' : Nat}
theorem ways_ne {x : Int} {t : Tok} {r : List Value} {ns : List Int} {Q : Value → Shared → Prop} (N : News h₀ L s.heap LED) (ha : (a, listOf its e) ∈ LED) (hb : (b, listOf its' e') ∈ LED) (hi : its.toList = .int x t :: r) (hr : IntsAre r ns) (hi' : its'.toList = []) (hu : A.units + 64 < cLine)
    (h : Q (.bool true) s) : wpAny (model prog w) A (compareOp .NotEq (.ref a) (.ref b)) Q E s := by
  have e1 : its = (.int x t :: r : List Value).toArray := by rw [← hi]
  have e2 : its' = ([] : List Value).toArray := by rw [← hi']
  subst e1 e2
  refine ne_intsK (N.isList ha) (.cons x t hr) (N.isList hb) .nil hu ?_
  simpa using h
theorem ways_min1 {x : Int} {t : Tok} {Q : Value → Shared → Prop} (hh : A.handled = none) (F : Fr h₀ L s.heap m) (N : News h₀ L s.heap LED) (ha : (a, listOf its e) ∈ LED) (hi : its.toList = [.int x t])
    (h : ∀ h' t tk, Fr h₀ L h' m → News h₀ L h' LED → Q (.int x t) { s with heap := h', toks := tk }) : wpAny (model prog w) A (call (.builtin "min") [.ref a]) Q E s := by
  have e1 : its = ([.int x t] : List Value).toArray := by rw [← hi]
  subst e1
  refine min_list_N hh F N (N.isList ha) (.cons x t .nil) (by simp) fun h' M t' tk F' N' hM _ => ?_
  have : M = x := by simpa using hM
  subst this
  exact h h' t' tk F' N'
theorem ways_min3 {x y z : Int} {t t2 t3 : Tok} {Q : Value → Shared → Prop} (hh : A.handled = none) (F : Fr h₀ L s.heap m) (N : News h₀ L s.heap LED) (ha : (a, listOf its e) ∈ LED) (hi : its.toList = [.int x t, .int y t2, .int z t3])
    (h : ∀ h' t tk, Fr h₀ L h' m → News h₀ L h' LED → Q (.int (min (min x y) z) t) { s with heap := h', toks := tk }) : wpAny (model prog w) A (call (.builtin "min") [.ref a]) Q E s := by
  have e1 : its = ([.int x t, .int y t2, .int z t3] : List Value).toArray := by rw [← hi]
  subst e1
  refine min_list_N hh F N (N.isList ha) (.cons x t (.cons y t2 (.cons z t3 .nil))) (by simp) fun h' M t' tk F' N' hM hle => ?_
  have hx := hle x (by simp)
  have hy := hle y (by simp)
  have hz := hle z (by simp)
  have e2 : M = min (min x y) z := by
    simp only [List.mem_cons, List.not_mem_nil, or_false] at hM
    omega
  subst e2
  exact h h' t' tk F' N'
end
end Mine
namespace Mine
theorem ld_cellS {M : Model} {A : Around} {E : Value → Shared → Prop} {s : Shared} {h₀ : Heap} {L c : Addr} {LED led : Led} {env : Env} {x : Str} {pos : Pos} {v : Value} {o : Obj} {Q : Value → Shared → Prop} (N : News h₀ L s.heap LED) (hm : (c, o) ∈ led) (sub : ∀ p ∈ led, p ∈ LED) (hd : o.data = .cell (some v)) (h : Q v s)
    (hk : env.scope.kind = .function) (hx : env.kindOf x = some .cell) (hc : env.cells.lookup x = some c) (hb : (x == ("__debug__" : Str)) = false := by decide) :
    wpAny M A (eval (.Name x pos) env) Q E s := ld_cellE N (sub _ hm) hd h hk hx hc hb
end Mine
namespace Mine
theorem upd_eq {l k : List Nat} {i j i' j' : Nat} {v : Int} (hi : i' = i) (hj : j' = j) (hv : v = dpt l k i j) : updT (Tst l k i j) i' j' v = Tst l k i (j + 1) := by
  subst hi hj hv
  exact Tst_upd l k _ _
theorem dpt_case1 {l k : List Nat} {i j a b : Nat} (hi : i = 0) (hj : 0 < j) (ha : a = i) (hb : b + 1 = j) : Tst l k i j a b + 2 = dpt l k i j := by
  subst ha hb
  rw [Tst_get l k (by omega)]
  subst hi
  conv => rhs; rw [dpt]
theorem dpt_case2 {l k : List Nat} {i j a b : Nat} (hi : 0 < i) (hj : j = 0) (ha : a + 1 = i) (hb : b = j) : Tst l k i j a b + 2 = dpt l k i j := by
  subst ha hb
  rw [Tst_get l k (by omega)]
  subst hj
  conv => rhs; rw [dpt]
theorem dpt_case3 {l k : List Nat} {i j a b a' b' : Nat} (ha : a + 1 = i) (hb : b + 1 = j) (ha' : a' = i) (hb' : b' = j) :
    min (min (Tst l k i j a b' + 2) (Tst l k i j a' b + 2)) (Tst l k i j a b + subc (one (l.getD a 0)) (one (k.getD b 0))) = dpt l k i j := by
  subst ha' hb' ha hb
  rw [Tst_get l k (by omega), Tst_get l k (by omega), Tst_get l k (by omega)]
  conv => rhs; rw [dpt]
theorem jt_end {base adr0 own1 own2 led9 nx0 LED : Led} {tb : Addr} {ra : Nat → Addr} {l k : List Nat} {i j : Nat} {ps : List (Str × Value)} {m' : Str → Option Value} {h₀ h' : Heap} {L : Addr} {s₁ : Shared} {tk : Nat} {T : Nat → Nat → Int}
    (F : Fr h₀ L h' m') (N : News h₀ L h' LED) (h1 : ∀ p ∈ led9, p ∈ LED) (h2 : ∀ p ∈ own1, p ∈ LED) (h3 : ∀ p ∈ own2, p ∈ LED) (hf : ∀ p ∈ ps, m' p.1 = some p.2) (hmap : led9.map (·.1) = adr0.map (·.1)) (h0 : nx0.map (·.1) = adr0.map (·.1))
    (I : TInv base led9 tb ra (l.length + 1) (k.length + 1) T) (e : T = Tst l k i (j + 1)) :
    InvEndN h₀ L (fun m nx => JT base adr0 own1 tb ra l k i (j + 1) ps m nx) own2 ((nx0 ++ own1).map (·.1)) s₁ { s₁ with heap := h', toks := tk } := by
  subst e
  refine InvEndN.intro (nx := led9 ++ own1) F N ⟨hf, led9, rfl, hmap, I⟩ ?_ ?_ h3
  · rw [List.map_append, List.map_append, hmap, h0]
  · intro p hp
    rcases List.mem_append.mp hp with hp | hp
    · exact h1 p hp
    · exact h2 p hp
end Mine
end
noncomputable section
open PySem PySem.W PySem.Calls PyProof.Rows
set_option maxRecDepth 100000
set_option maxHeartbeats 8000000
set_option Elab.async false
set_option pp.maxSteps 600
namespace Mine
def Con86 (l k : List Nat) (T : Nat → Nat → Int) : Prop :=
  ∀ (t u : Tok) (w : World) (mean : ExcName → Option Value) (mg mb : Str → Option Value) (news : List (Addr × Obj))
    (dp un : Nat) (gd : Option (List Code)) (cn : Str) (cs : Scope) (a : Addr) (ccd : Value) (cl : List (Str × Addr)) (outer : List Env) (A₀ : Around) (base h₀ : Heap) (L : Addr) (m : Str → Option Value) (s : Shared) (Q E : Value → Shared → Prop),
    Below A₀ base outer h₀ → Fr h₀ L s.heap m → (hd.heap_39 w.params).In h₀ → News h₀ L s.heap news → Top hd.view_39 (looseW hd.view_39 [Str.ofString "_display_width"]) mean mg mb h₀ → cs.kind = .function →
    dp + 3 < recursionLimit → un + 100 < cLine →
    (∀ tb ra led h' tk', Fr h₀ L h' m → News h₀ L h' led → TInv news led tb ra (l.length + 1) (k.length + 1) T → Q (.ref tb) { s with heap := h', toks := tk' }) →
      wpAny (model PySem.Challenge.rw_gq5015_01.row.prog w) (ktrTop dp un gd cn cs L a ccd cl outer) (call (.ref 86) [.str (S l) t, .str (S k) u]) Q E s
local macro_rules | `(tactic| walk_at "subscriptTail Subscript Name") => `(tactic| (k_here; k_dflt (refine kba_turn (value' := PySem.Expr.Name (PySem.Str.ofString "_") ⟨0, 0, 0, 0⟩) (fun _ => rfl) ?_)))
local macro_rules | `(tactic| walk_at "CompSrc") => `(tactic| refine halt ?_)
local macro_rules | `(tactic| walk_at "exec For Name Call cons nil") => `(tactic| refine halt ?_)
local macro_rules | `(tactic| walk_at "eval Name") => `(tactic| (k_here; (with_reducible show wpAny _ _ (eval (PySem.Expr.Name (PySem.Str.ofString "second") _) (compEnvC _ _ _ _)) _ _ _); k_dflt (refine' lcf_cell ?N ?c ?m ?d ?_ ?a ?b; (case a => rfl); (case b => rfl); (case c => rfl); (case N => k_asm); (case m => first | assumption | exact List.Mem.tail _ (by assumption) | exact List.Mem.tail _ (List.Mem.tail _ (by assumption)) | exact List.Mem.tail _ (List.Mem.tail _ (List.Mem.tail _ (by assumption))) | exact List.Mem.tail _ (List.Mem.tail _ (List.Mem.tail _ (List.Mem.tail _ (by assumption))))); (case d => k_asm))))
local macro_rules | `(tactic| walk_at "pyIter ref") => `(tactic| refine halt ?_)
local macro_rules | `(tactic| walk_at "eval Name") => `(tactic| (k_here; (with_reducible show wpAny _ _ (eval (PySem.Expr.Name (PySem.Str.ofString "second") _) (envOfC _ _ _ _ _)) _ _ _); k_dflt (refine' ld_cellS ?N ?m ?sub ?d ?_ ?a ?b ?c; (case a => rfl); (case b => rfl); (case c => rfl); (case N => k_asm); (case m => assumption); (case sub => (intro p9 hp9; simp only [List.mem_cons, List.mem_append, hp9, true_or, or_true])); (case d => assumption))))
local macro_rules | `(tactic| walk_at "subscriptTail Name BinOp ref int") => `(tactic| first | (k_here; k_dflt (refine' tab_row ?N ?I ?sub ?h0 ?h1 ?hm ?_ ?hs; (case hs => with_unfolding_all rfl); (case N => k_asm); (case I => assumption); (case sub => (intro p9 hp9; simp only [List.mem_cons, List.mem_append, hp9, true_or, or_true])); (case h0 => omega); (case h1 => omega); (case hm => omega))) | (k_here; k_dflt (refine' tab_item ?N ?I ?sub ?hi ?h0 ?h1 ?hm ?_ ?hs; (case hs => with_unfolding_all rfl); (case N => k_asm); (case I => assumption); (case sub => (intro p9 hp9; simp only [List.mem_cons, List.mem_append, hp9, true_or, or_true])); (case hi => omega); (case h0 => omega); (case h1 => omega); (case hm => omega)); intro t9))
local macro_rules | `(tactic| walk_at "subscriptTail Name Name ref int") => `(tactic| first | (k_here; k_dflt (refine' tab_row ?N ?I ?sub ?h0 ?h1 ?hm ?_ ?hs; (case hs => with_unfolding_all rfl); (case N => k_asm); (case I => assumption); (case sub => (intro p9 hp9; simp only [List.mem_cons, List.mem_append, hp9, true_or, or_true])); (case h0 => omega); (case h1 => omega); (case hm => omega))) | (k_here; k_dflt (refine' tab_item ?N ?I ?sub ?hi ?h0 ?h1 ?hm ?_ ?hs; (case hs => with_unfolding_all rfl); (case N => k_asm); (case I => assumption); (case sub => (intro p9 hp9; simp only [List.mem_cons, List.mem_append, hp9, true_or, or_true])); (case hi => omega); (case h0 => omega); (case h1 => omega); (case hm => omega)); intro t9))
local macro_rules | `(tactic| walk_at "compareOp NotEq ref ref") => `(tactic| (k_here; k_dflt (refine' ways_ne ?N ?ha ?hb ?hi ?hr ?hq ?hu ?_; (case N => k_asm); (case ha => exact List.Mem.tail _ (List.Mem.head _)); (case hb => exact List.Mem.head _); (case hi => rfl); (case hr => first | exact IntsAre.nil | exact IntsAre.cons _ _ (IntsAre.cons _ _ IntsAre.nil)); (case hq => rfl); (case hu => ktr_units))))
local macro_rules | `(tactic| walk_at "call builtin:min") => `(tactic| (k_here; k_dflt (first
  | (refine' ways_min1 ?hh ?F ?N ?ha ?hi ?_; (case hh => rfl); (case F => k_asm); (case N => k_asm); (case ha => exact List.Mem.tail _ (List.Mem.head _)); (case hi => rfl))
  | (refine' ways_min3 ?hh ?F ?N ?ha ?hi ?_; (case hh => rfl); (case F => k_asm); (case N => k_asm); (case ha => exact List.Mem.tail _ (List.Mem.head _)); (case hi => rfl))); intro h9 t9 tk9 F9 N9))
local macro_rules | `(tactic| walk_at "setItem ref int") => `(tactic| (k_here; k_dflt (refine' tab_store ?F ?N ?I ?Z ?sub ?subo ?off ?hi ?h0 ?h1 ?hm ?_; (case F => k_asm); (case N => k_asm); (case I => assumption); (case Z => assumption); (case off => assumption); (case sub => (intro p9 hp9; simp only [List.mem_cons, List.mem_append, hp9, true_or, or_true])); (case subo => (intro p9 hp9; simp only [List.mem_cons, List.mem_append] at hp9 ⊢; rcases hp9 with hp9 | hp9 <;> simp only [hp9, true_or, or_true])); (case hi => omega); (case h0 => omega); (case h1 => omega); (case hm => omega)); intro h9 led9 F9 N9 hmap9 I9))
local macro_rules | `(tactic| walk_at "CompEnd") => `(tactic| refine halt ?_)
local macro_rules | `(tactic| walk_at "InvEndN") => `(tactic| refine halt ?_)
local macro_rules | `(tactic| walk_at "call ref") => `(tactic| (k_here; (with_reducible show wpAny _ _ (call (Value.ref 58) [Value.str _ _, Value.str _ _]) _ _ _); k_dflt (refine' pur_use (con58 _ _ _ _ ?hx ?hy) ?k1 ?k2 ?k3 ?k4 ?k5 ?kK ?kd ?ku ?_; (case hx => exact Nat.le_of_ble_eq_true rfl); (case hy => exact Nat.le_of_ble_eq_true rfl); (case k1 => k_asm); (case k2 => k_asm); (case k3 => k_asm); (case k4 => k_asm); (case k5 => k_asm); (case kK => first | exact rfl | assumption); (case kd => ktr_room); (case ku => ktr_units)); intro t9 h9 tk9 F9 N9))
theorem con86 (l k : List Nat) (hl : Word l) (hk' : Word k) : Con86 l k (dpt l k) := by
  unfold Con86
  w_top off
  k_fill
  intro t u w mean mg mb news dp un gd cn cs a ccd cl outer A₀ base h₀ L m s Q E B F X N T hk hdp hun hret
  refine wpAny_call ?_
  k_dflt (refine' code_defC ?k1 ?k2 ?k3 ?k4 ?k5 ?kA ?kF ?kK ?k6 ?k7 ?k8 ?k9 ?kB ?kD ?_ ?c2 ?c3 ?c4; (case kA => exact rfl); (case kF => exact rfl); (case kK => assumption); (case k1 => k_asm); (case k2 => k_asm); (case k3 => k_asm); (case k4 => k_asm); (case k5 => k_asm); (case k6 => k_is); (case k7 => k_is); (case k8 => ktr_room); (case k9 => exact BindsTo.of_eq rfl); (case kB => exact rfl); (case kD => decide +kernel); (case c2 => exact rfl); (case c3 => exact rfl); (case c4 => exact rfl); k_whole; intro g' L' h' tk' cells' FG' F' N' Y' B' X' T' l1; (try k_lt l1); k_cells Y'; (try simp only [List.cons_append, List.nil_append] at N'); (try dsimp only); (try k_lift B'); (try k_fold))
  rename PySem.Obj => oc
  rename PySem.Obj.data _ = Data.cell _ => d1
  have hoc : oc.data = Data.cell (some (.str (S k) u)) := by with_unfolding_all exact d1
  clear d1
  have hle := hl.le
  have hke := hk'.le
  k_steps
  refine Halt.go (LCg.CompSrc.range (n := l.length + 1) (by rfl) (by k_asm) (by k_asm) (by assumption) (small_one (by omega) (by omega) (by omega) (by omega)) ((rangeSize_nat _ _).trans (by omega)) (by rw [sizeLine_eq]; omega) ?_)
  intro g
  refine rest_ind (fun i ys nw => ∃ ra, JRow ((L' + 1, oc) :: news) (k.length + 1) i ra ys nw) ?_ ?_ ⟨_, JRow.start _ _⟩
  · rintro i ys nw v I oI C oC D m₂ h tk E' hi ⟨ra, J⟩ ⟨t9, rfl⟩ hoC hx F9 N9 off ne
    have hcell : (L' + 1, oc) ∈ nw := J.kept _ (.head _)
    k_steps
    rename (@LT.lt Nat _ _ _) ∧ _ => hlt
    rename IntsAre _ _ => hin
    rename Fr _ _ _ _ => Fx
    rename News _ _ _ _ => Nx
    refine Halt.go (LCg.CompEnd.intro Fx Nx _ ?_ ?_ trivial ⟨_, J.step (o := PySem.W.listOf (List.replicate _ _).flatten.toArray 0) hlt.2.2.2.2 ⟨rfl, 0, rfl⟩ (reps_zero (by omega) hin)⟩)
    · intro p hp
      simp only [List.mem_cons] at hp ⊢
      rcases hp with h | h | h | h | h
      · exact .inr (.inr (.inl h))
      · exact .inr (.inr (.inr (.inl h)))
      · exact .inr (.inr (.inr (.inr (.inl h))))
      · exact .inl h
      · exact .inr (.inr (.inr (.inr (.inr h))))
    · exact ⟨⟨Nat.ne_of_gt hlt.2.1, Nat.ne_of_gt hlt.2.2.1, Nat.ne_of_gt hlt.2.2.2.1⟩, off⟩
  · rintro ys nw ⟨ra, J⟩
    intro D h tk F9 N9 o1
    obtain ⟨I9, Z9⟩ := J.tab o1
    k_steps
    refine Halt.go ?_
    rename Fr _ _ _ _ => lF'
    with_unfolding_all refine' For_invVF lF' ?k1 ?k2 ?_
    (case k1 => exact rfl)
    (case k2 => exact rfl)
    k_steps
    rename IsRange _ _ _ _ _ _ _ _ => rgX
    rename Fr _ _ _ _ => Fx
    rename News _ _ _ _ => Nx
    refine Halt.go (rngN (n := l.length + 1) (fun i m₁ nx => JT ((L' + 1, oc) :: news) ((D, LCg.lst ys) :: nw) [] D ra l k i 0 [(Str.ofString "table", .ref D), (Str.ofString "first", .str (S l) t)] m₁ nx) (by rfl) rgX (by omega) (by omega) Fx Nx ?_ ?_ ?_)
    · refine ⟨?_, _, (List.append_nil _).symm, rfl, by rw [Tst_zero]; exact I9⟩
      intro p hp
      simp only [List.mem_cons, List.not_mem_nil, or_false] at hp
      rcases hp with rfl | rfl <;> rfl
    · rintro i t1 m₁ nx h1 tk1 own1 hi hmap hoff ⟨hf, nx', hnx, hadr, I1⟩ F1 N1
      rw [List.append_nil] at hnx
      subst hnx
      rw [← kstB_self hf] at F1
      simp only [kstB] at F1
      have hcell : (L' + 1, oc) ∈ nx := I1.base _ (.head _)
      k_steps
      refine Halt.go ?_
      rename Fr _ _ _ _ => lF'
      with_unfolding_all refine' For_invVF lF' ?k1 ?k2 ?_
      (case k1 => exact rfl)
      (case k2 => exact rfl)
      k_steps
      rename IsRange _ _ _ _ _ _ _ _ => rgX
      rename Fr _ _ _ _ => Fx
      rename News _ _ _ _ => Nx
      refine Halt.go (rngN (n := k.length + 1) (fun j m₁ nx => JT ((L' + 1, oc) :: news) ((D, LCg.lst ys) :: nw) own1 D ra l k i j [(Str.ofString "table", .ref D), (Str.ofString "first", .str (S l) t), (Str.ofString "i", .int (i : Int) t1)] m₁ nx) (by rfl) rgX (by omega) (by omega) Fx Nx ?_ ?_ ?_)
      · refine ⟨?_, nx, rfl, hadr, I1⟩
        intro p hp
        simp only [List.mem_cons, List.not_mem_nil, or_false] at hp
        rcases hp with rfl | rfl | rfl <;> rfl
      · rintro j t2 m₂ nx2 h2 tk2 own2 hj hmap2 hoff2 ⟨hf2, nx', rfl, hadr2, I2⟩ F2 N2
        rw [← kstB_self hf2] at F2
        simp only [kstB] at F2
        have hcell2 : (L' + 1, oc) ∈ nx' := I2.base _ (.head _)
        have hoffA : OwnOff (own1 ++ own2) (nx'.map (·.1)) := by
          intro p hp b hb
          rcases List.mem_append.mp hp with hp | hp
          · exact hoff p hp b (hadr2 ▸ hb)
          · refine hoff2 p hp b ?_
            rw [← hmap2, List.map_append]
            exact List.mem_append.mpr (.inl hb)
        rcases Nat.eq_zero_or_pos i with hi0 | hi0 <;> rcases Nat.eq_zero_or_pos j with hj0 | hj0
        · k_steps
          rename Fr _ _ _ _ => Fz
          rename News _ _ _ _ => Nz
          refine Halt.go (jt_end (led9 := nx') Fz Nz (by intro p9 hp9; simp only [List.mem_cons, List.mem_append, hp9, true_or, or_true]) (by intro p9 hp9; simp only [List.mem_cons, List.mem_append, hp9, true_or, or_true]) (by intro p9 hp9; simp only [List.mem_cons, List.mem_append, hp9, true_or, or_true]) (by intro p hp; simp only [List.mem_cons, List.not_mem_nil, or_false] at hp; rcases hp with rfl | rfl | rfl <;> rfl) hadr2 hadr I2 ?_)
          subst hi0 hj0
          have e0 : dpt l k 0 0 = 0 := by rw [dpt]
          rw [← Tst_upd, e0]
          funext a b
          unfold updT Tst
          by_cases hab : a = 0 ∧ b = 0 <;> simp [hab]
        · k_steps
          rename Fr _ _ _ _ => Fz
          rename News _ _ _ _ => Nz
          rename TInv _ _ _ _ _ _ _ => Iz
          rename List.map _ _ = List.map _ nx' => hmz
          refine Halt.go (jt_end Fz Nz (by intro p9 hp9; simp only [List.mem_cons, List.mem_append, hp9, true_or, or_true]) (by intro p9 hp9; simp only [List.mem_cons, List.mem_append, hp9, true_or, or_true]) (by intro p9 hp9; simp only [List.mem_cons, List.mem_append, hp9, true_or, or_true]) (by intro p hp; simp only [List.mem_cons, List.not_mem_nil, or_false] at hp; rcases hp with rfl | rfl | rfl <;> rfl) (hmz.trans hadr2) hadr Iz ?_)
          exact upd_eq (by omega) (by omega) (dpt_case1 hi0 hj0 (by omega) (by omega))
        · k_steps
          rename Fr _ _ _ _ => Fz
          rename News _ _ _ _ => Nz
          rename TInv _ _ _ _ _ _ _ => Iz
          rename List.map _ _ = List.map _ nx' => hmz
          refine Halt.go (jt_end Fz Nz (by intro p9 hp9; simp only [List.mem_cons, List.mem_append, hp9, true_or, or_true]) (by intro p9 hp9; simp only [List.mem_cons, List.mem_append, hp9, true_or, or_true]) (by intro p9 hp9; simp only [List.mem_cons, List.mem_append, hp9, true_or, or_true]) (by intro p hp; simp only [List.mem_cons, List.not_mem_nil, or_false] at hp; rcases hp with rfl | rfl | rfl <;> rfl) (hmz.trans hadr2) hadr Iz ?_)
          exact upd_eq (by omega) (by omega) (dpt_case2 hi0 hj0 (by omega) (by omega))
        · k_steps
          rename Fr _ _ _ _ => Fz
          rename News _ _ _ _ => Nz
          rename TInv _ _ _ _ _ _ _ => Iz
          rename List.map _ _ = List.map _ nx' => hmz
          refine Halt.go (jt_end Fz Nz (by intro p9 hp9; simp only [List.mem_cons, List.mem_append, hp9, true_or, or_true]) (by intro p9 hp9; simp only [List.mem_cons, List.mem_append, hp9, true_or, or_true]) (by intro p9 hp9; simp only [List.mem_cons, List.mem_append, hp9, true_or, or_true]) (by intro p hp; simp only [List.mem_cons, List.not_mem_nil, or_false] at hp; rcases hp with rfl | rfl | rfl <;> rfl) (hmz.trans hadr2) hadr Iz ?_)
          exact upd_eq (by omega) (by omega) (dpt_case3 (by omega) (by omega) (by omega) (by omega))
      · rintro m₃ nx3 h3 tk3 ⟨hf3, nx', rfl, hadr3, I3⟩ F3 N3
        rw [← kstB_self hf3] at F3
        simp only [kstB] at F3
        k_steps
        rename Fr _ _ _ _ => Fz
        rename News _ _ _ _ => Nz
        refine Halt.go (InvEndN.intro (nx := nx') Fz Nz ⟨?_, nx', (List.append_nil _).symm, hadr3, I3.congr fun a b ha hb => Tst_row l k i _ _ _ hb⟩ hadr3 (by intro p9 hp9; simp only [List.mem_cons, List.mem_append, hp9, true_or, or_true]) (by intro p9 hp9; simp only [List.mem_cons, List.mem_append, hp9, true_or, or_true]))
        intro p hp
        simp only [List.mem_cons, List.not_mem_nil, or_false] at hp
        rcases hp with rfl | rfl <;> rfl
    · rintro m₃ nx3 h3 tk3 ⟨hf3, nx', hnx, hadr3, I3⟩ F3 N3
      rw [List.append_nil] at hnx
      subst hnx
      rw [← kstB_self hf3] at F3
      simp only [kstB] at F3
      k_steps
      rename Fr _ _ _ _ => Fz
      rename News _ _ _ _ => Nz
      exact hret D ra nx3 _ _ Fz Nz ((I3.mono (fun p hp => hp) fun p hp => I3.base p (.tail _ hp)).congr fun a b ha hb => Tst_get l k (.inl ha))
end Mine
end
noncomputable section
open PySem PySem.W PySem.Calls PyProof.Rows PyProof.V PySem.Spec
set_option maxRecDepth 100000
namespace Mine
abbrev Col := Option Nat × Option Nat
def sc : Col → Int
  | (some a, some b) => subc (one a) (one b)
  | _ => 2
def csum (cs : List Col) : Int := (cs.map sc).sum
structure Ali (l k : List Nat) (cs : List Col) : Prop where
  lefts : cs.filterMap (·.1) = l
  rights : cs.filterMap (·.2) = k
  nn : ∀ c ∈ cs, c ≠ (none, none)
inductive OptV : Value → Option Nat → Prop
  | none : OptV .none Option.none
  | some (c : Nat) (t : Tok) : OptV (.str (one c) t) (Option.some c)
def TupO (o : Obj) (vs : List Value) : Prop := ∃ n, o = { cls := .type "tuple", data := .seq vs.toArray n }
inductive ColsIn (led : Led) : List Value → List Col → Prop
  | nil : ColsIn led [] []
  | cons {a : Addr} {o : Obj} {x y : Value} {p q : Option Nat} {vs : List Value} {cs : List Col} : (a, o) ∈ led → TupO o [x, y] → OptV x p → OptV y q → ColsIn led vs cs → ColsIn led (.ref a :: vs) ((p, q) :: cs)
theorem ColsIn.mono {led led' : Led} {vs : List Value} {cs : List Col} (h : ColsIn led vs cs) (sub : ∀ p ∈ led, p ∈ led') : ColsIn led' vs cs := by
  induction h with
  | nil => exact .nil
  | cons h1 h2 h3 h4 _ ih => exact .cons (sub _ h1) h2 h3 h4 ih
theorem ColsIn.length {led : Led} {vs : List Value} {cs : List Col} (h : ColsIn led vs cs) : vs.length = cs.length := by
  induction h with
  | nil => rfl
  | cons _ _ _ _ _ ih => simp [ih]
theorem Ali.len {l k : List Nat} {cs : List Col} (h : Ali l k cs) : cs.length ≤ l.length + k.length := by
  obtain ⟨h1, h2, h3⟩ := h
  subst h1 h2
  induction cs with
  | nil => simp
  | cons c cs ih =>
    have h := ih fun c hc => h3 c (.tail _ hc)
    have hc := h3 c (.head _)
    obtain ⟨a, b⟩ := c
    cases a <;> cases b <;> simp at hc ⊢ <;> omega
theorem drop_get {l : List Nat} {i : Nat} (h : i < l.length) : l.drop i = l.getD i 0 :: l.drop (i + 1) := by
  rw [List.drop_eq_getElem_cons h]
  congr 1
  simp [h]
theorem Ali.both {l k : List Nat} {i j : Nat} {cs : List Col} (h : Ali (l.drop (i + 1)) (k.drop (j + 1)) cs) (hi : i < l.length) (hj : j < k.length) : Ali (l.drop i) (k.drop j) ((some (l.getD i 0), some (k.getD j 0)) :: cs) := by
  refine ⟨?_, ?_, ?_⟩
  · rw [drop_get hi, ← h.lefts]; rfl
  · rw [drop_get hj, ← h.rights]; rfl
  · intro c hc
    rcases List.mem_cons.mp hc with rfl | hc
    · simp
    · exact h.nn c hc
theorem Ali.left {l k : List Nat} {i j : Nat} {cs : List Col} (h : Ali (l.drop (i + 1)) (k.drop j) cs) (hi : i < l.length) : Ali (l.drop i) (k.drop j) ((some (l.getD i 0), none) :: cs) := by
  refine ⟨?_, ?_, ?_⟩
  · rw [drop_get hi, ← h.lefts]; rfl
  · rw [← h.rights]; rfl
  · intro c hc
    rcases List.mem_cons.mp hc with rfl | hc
    · simp
    · exact h.nn c hc
theorem Ali.right {l k : List Nat} {i j : Nat} {cs : List Col} (h : Ali (l.drop i) (k.drop (j + 1)) cs) (hj : j < k.length) : Ali (l.drop i) (k.drop j) ((none, some (k.getD j 0)) :: cs) := by
  refine ⟨?_, ?_, ?_⟩
  · rw [← h.lefts]; rfl
  · rw [drop_get hj, ← h.rights]; rfl
  · intro c hc
    rcases List.mem_cons.mp hc with rfl | hc
    · simp
    · exact h.nn c hc
/-- the state of the way back: i and j of the beginnings are left, cs stands behind them -/
structure Back (l k : List Nat) (i j : Nat) (cs : List Col) : Prop where
  hi : i ≤ l.length
  hj : j ≤ k.length
  ali : Ali (l.drop i) (k.drop j) cs
  cost : csum cs + dpt l k i j = dpt l k l.length k.length
theorem Back.start (l k : List Nat) : Back l k l.length k.length [] :=
  ⟨Nat.le_refl _, Nat.le_refl _, ⟨by simp, by simp, fun _ h => nomatch h⟩, by simp [csum]⟩
theorem csum_cons (c : Col) (cs : List Col) : csum (c :: cs) = sc c + csum cs := by simp [csum]
theorem Back.both {l k : List Nat} {i j a b : Nat} {cs : List Col} (h : Back l k i j cs) (ha : a + 1 = i) (hb : b + 1 = j) (e : dpt l k i j = dpt l k a b + subc (one (l.getD a 0)) (one (k.getD b 0))) : Back l k a b ((some (l.getD a 0), some (k.getD b 0)) :: cs) := by
  subst ha hb
  refine ⟨by have := h.hi; omega, by have := h.hj; omega, h.ali.both h.hi h.hj, ?_⟩
  rw [csum_cons, ← h.cost, e]
  show subc _ _ + _ + _ = _
  omega
theorem Back.left {l k : List Nat} {i j a : Nat} {cs : List Col} (h : Back l k i j cs) (ha : a + 1 = i) (e : dpt l k i j = dpt l k a j + 2) : Back l k a j ((some (l.getD a 0), none) :: cs) := by
  subst ha
  refine ⟨by have := h.hi; omega, h.hj, h.ali.left h.hi, ?_⟩
  rw [csum_cons, ← h.cost, e]
  show (2 : Int) + _ + _ = _
  omega
theorem Back.right {l k : List Nat} {i j b : Nat} {cs : List Col} (h : Back l k i j cs) (hb : b + 1 = j) (e : dpt l k i j = dpt l k i b + 2) : Back l k i b ((none, some (k.getD b 0)) :: cs) := by
  subst hb
  refine ⟨h.hi, by have := h.hj; omega, h.ali.right h.hj, ?_⟩
  rw [csum_cons, ← h.cost, e]
  show (2 : Int) + _ + _ = _
  omega
theorem Back.fin {l k : List Nat} {cs : List Col} (h : Back l k 0 0 cs) : Ali l k cs ∧ csum cs = dpt l k l.length k.length := by
  refine ⟨by simpa using h.ali, ?_⟩
  have := h.cost
  rw [dpt] at this
  omega
theorem dpt_pos {l k : List Nat} {i j a b : Nat} (ha : a + 1 = i) (hb : b + 1 = j) : dpt l k i j = min (min (dpt l k a j + 2) (dpt l k i b + 2)) (dpt l k a b + subc (one (l.getD a 0)) (one (k.getD b 0))) := by
  subst ha hb
  conv => lhs; rw [dpt]
theorem dpt_i0 {l k : List Nat} {i j a : Nat} (ha : a + 1 = i) (hj : j = 0) : dpt l k i j = dpt l k a j + 2 := by
  subst ha hj
  conv => lhs; rw [dpt]
theorem dpt_0j {l k : List Nat} {i j b : Nat} (hi : i = 0) (hb : b + 1 = j) : dpt l k i j = dpt l k i b + 2 := by
  subst hi hb
  conv => lhs; rw [dpt]
end Mine
end
noncomputable section
open PySem PySem.W PySem.Calls PyProof.Rows
set_option maxRecDepth 100000
set_option maxHeartbeats 8000000
set_option Elab.async false
set_option pp.maxSteps 600
namespace Mine
theorem cols_insert {prog : Program} {w : World} {A : Around} {E : Value → Shared → Prop} {s : Shared} {h₀ : Heap} {L c t : Addr} {m : Str → Option Value} {o : Obj} {vs : List Value} {e : Nat} {rest : Led} {y : Value} {u : Tok} {Q : Value → Shared → Prop}
    (F : Fr h₀ L s.heap m) (N : News h₀ L s.heap ((t, o) :: (c, listOf vs.toArray e) :: rest)) (ho : o.cls = .type "tuple") (hne : ∀ p ∈ rest, p.1 ≠ c) (hn : vs.length ≤ 5000)
    (h : ∀ h', Fr h₀ L h' m → News h₀ L h' ((t, o) :: (c, listOf (y :: vs).toArray (e + 1)) :: rest) → Q .none { s with heap := h' }) :
    wpAny (model prog w) A (call (.builtin "list.insert") [.ref c, .int 0 u, y]) Q E s := by
  have htc : t ≠ c := by
    intro e1
    have h1 := (N _ (.head _)).1
    have h2 := (N _ (.tail _ (.head _))).1
    simp only at h1 h2
    rw [e1, h2] at h1
    have := congrArg Obj.cls (Option.some.inj h1)
    rw [ho] at this
    simp at this
  exact kl_insert (l := y :: vs) F N rfl (by cases vs <;> rfl) (Upd.tail htc (Upd.head hne)) (by rw [sizeLine_eq]; simp; omega) h
def Con93 (l k : List Nat) : Prop :=
  ∀ (t u : Tok) (tbase : Led) (tb : Addr) (ra : Nat → Addr) (w : World) (mean : ExcName → Option Value) (mg mb : Str → Option Value) (news : List (Addr × Obj))
    (dp un : Nat) (gd : Option (List Code)) (cn : Str) (cs : Scope) (a : Addr) (ccd : Value) (cl : List (Str × Addr)) (outer : List Env) (A₀ : Around) (base h₀ : Heap) (L : Addr) (m : Str → Option Value) (s : Shared) (Q E : Value → Shared → Prop),
    Below A₀ base outer h₀ → Fr h₀ L s.heap m → (hd.heap_39 w.params).In h₀ → News h₀ L s.heap news → Top hd.view_39 (looseW hd.view_39 [Str.ofString "_display_width"]) mean mg mb h₀ → cs.kind = .function →
    dp + 3 < recursionLimit → un + 100 < cLine → TInv tbase news tb ra (l.length + 1) (k.length + 1) (dpt l k) →
    (∀ c col vs e led h' tk', Fr h₀ L h' m → News h₀ L h' ((c, listOf vs.toArray e) :: led) → (∀ p ∈ news, p ∈ led) → (∀ p ∈ led, p.1 ≠ c) → ColsIn led vs col → Ali l k col → csum col = dpt l k l.length k.length → Q (.ref c) { s with heap := h', toks := tk' }) →
      wpAny (model PySem.Challenge.rw_gq5015_01.row.prog w) (ktrTop dp un gd cn cs L a ccd cl outer) (call (.ref 93) [.str (S l) t, .str (S k) u, .ref tb]) Q E s
local macro_rules | `(tactic| walk_at "subscriptTail Subscript Name") => `(tactic| (k_here; k_dflt (refine kba_turn (value' := PySem.Expr.Name (PySem.Str.ofString "_") ⟨0, 0, 0, 0⟩) (fun _ => rfl) ?_)))
local macro_rules | `(tactic| walk_at "subscriptTail Name BinOp ref int") => `(tactic| first | (k_here; k_dflt (refine' tab_row ?N ?I ?sub ?h0 ?h1 ?hm ?_ ?hs; (case hs => with_unfolding_all rfl); (case N => k_asm); (case I => assumption); (case sub => (intro p9 hp9; simp only [List.mem_cons, List.mem_append, hp9, true_or, or_true])); (case h0 => omega); (case h1 => omega); (case hm => omega))) | (k_here; k_dflt (refine' tab_item ?N ?I ?sub ?hi ?h0 ?h1 ?hm ?_ ?hs; (case hs => with_unfolding_all rfl); (case N => k_asm); (case I => assumption); (case sub => (intro p9 hp9; simp only [List.mem_cons, List.mem_append, hp9, true_or, or_true])); (case hi => omega); (case h0 => omega); (case h1 => omega); (case hm => omega)); intro t9))
local macro_rules | `(tactic| walk_at "subscriptTail Name Name ref int") => `(tactic| first | (k_here; k_dflt (refine' tab_row ?N ?I ?sub ?h0 ?h1 ?hm ?_ ?hs; (case hs => with_unfolding_all rfl); (case N => k_asm); (case I => assumption); (case sub => (intro p9 hp9; simp only [List.mem_cons, List.mem_append, hp9, true_or, or_true])); (case h0 => omega); (case h1 => omega); (case hm => omega))) | (k_here; k_dflt (refine' tab_item ?N ?I ?sub ?hi ?h0 ?h1 ?hm ?_ ?hs; (case hs => with_unfolding_all rfl); (case N => k_asm); (case I => assumption); (case sub => (intro p9 hp9; simp only [List.mem_cons, List.mem_append, hp9, true_or, or_true])); (case hi => omega); (case h0 => omega); (case h1 => omega); (case hm => omega)); intro t9))
local macro_rules | `(tactic| walk_at "call ref") => `(tactic| (k_here; (with_reducible show wpAny _ _ (call (Value.ref 58) [Value.str _ _, Value.str _ _]) _ _ _); k_dflt (refine' pur_use (con58 _ _ _ _ ?hx ?hy) ?k1 ?k2 ?k3 ?k4 ?k5 ?kK ?kd ?ku ?_; (case hx => exact Nat.le_of_ble_eq_true rfl); (case hy => exact Nat.le_of_ble_eq_true rfl); (case k1 => k_asm); (case k2 => k_asm); (case k3 => k_asm); (case k4 => k_asm); (case k5 => k_asm); (case kK => first | exact rfl | assumption); (case kd => ktr_room); (case ku => ktr_units)); intro t9 h9 tk9 F9 N9))
local macro_rules | `(tactic| walk_at "call builtin:list.insert") => `(tactic| (k_here; k_dflt (refine' cols_insert ?F ?N ?ho ?hne ?hn ?_; (case F => k_asm); (case N => k_asm); (case ho => rfl); (case hne => assumption); (case hn => assumption)); intro h9 F9 N9))
local macro_rules | `(tactic| walk_at "WhileStep2") => `(tactic| refine halt ?_)
def JW (news : Led) (l k : List Nat) (t u : Tok) (tb : Addr) (n : Nat) (m₁ : Str → Option Value) (nx : Led) : Prop :=
  ∃ c i j ti tj cols vs e rest, n = i + j ∧ nx = (c, listOf vs.toArray e) :: rest ∧ (∀ p ∈ rest, p.1 ≠ c) ∧ (∀ p ∈ news, p ∈ rest) ∧ ColsIn rest vs cols ∧ Back l k i j cols ∧
    ∀ p ∈ [(Str.ofString "columns", Value.ref c), (Str.ofString "i", .int (i : Int) ti), (Str.ofString "j", .int (j : Int) tj), (Str.ofString "first", .str (S l) t), (Str.ofString "second", .str (S k) u), (Str.ofString "table", .ref tb)], m₁ p.1 = some p.2
theorem jw_push {news rest : Led} {l k : List Nat} {t u : Tok} {tb c D : Addr} {n i' j' e : Nat} {ii jj : Int} {x y : Value} {p q : Option Nat} {vs : List Value} {cols : List Col} {h₀ h' : Heap} {L : Addr} {m₂ : Str → Option Value} {s : Shared} {tk : Nat} {Q : Flow → Shared → Prop} {o : Obj}
    (F : Fr h₀ L h' m₂) (N : News h₀ L h' ((D, o) :: (c, listOf (.ref D :: vs).toArray (e + 1)) :: rest)) (ho : TupO o [x, y]) (hcD : c < D) (hne : ∀ p ∈ rest, p.1 ≠ c) (hsub : ∀ p ∈ news, p ∈ rest) (hC : ColsIn rest vs cols)
    (hx : OptV x p) (hy : OptV y q) (hB : Back l k i' j' ((p, q) :: cols)) (hi : ∃ ti, m₂ (Str.ofString "i") = some (.int ii ti)) (hj : ∃ tj, m₂ (Str.ofString "j") = some (.int jj tj)) (hii : ii = (i' : Int)) (hjj : jj = (j' : Int))
    (hf : ∀ z ∈ [(Str.ofString "columns", Value.ref c), (Str.ofString "first", .str (S l) t), (Str.ofString "second", .str (S k) u), (Str.ofString "table", .ref tb)], m₂ z.1 = some z.2) (hlt : i' + j' < n) :
    WhileStep2 h₀ L s (JW news l k t u tb) Q n .next { s with heap := h', toks := tk } := by
  obtain ⟨ti, hi⟩ := hi
  obtain ⟨tj, hj⟩ := hj
  subst hii hjj
  refine ⟨h', tk, m₂, (c, listOf (.ref D :: vs).toArray (e + 1)) :: (D, o) :: rest, i' + j', rfl, F, ?_, hlt, c, i', j', ti, tj, (p, q) :: cols, _, _, (D, o) :: rest, rfl, rfl, ?_, fun z hz => .tail _ (hsub z hz), .cons (.head _) ho hx hy (hC.mono fun _ h => .tail _ h), hB, ?_⟩
  · intro z hz
    simp only [List.mem_cons] at hz
    rcases hz with rfl | rfl | hz
    · exact N _ (.tail _ (.head _))
    · exact N _ (.head _)
    · exact N _ (.tail _ (.tail _ hz))
  · intro z hz
    rcases List.mem_cons.mp hz with rfl | hz
    · exact Nat.ne_of_gt hcD
    · exact hne z hz
  · intro z hz
    simp only [List.mem_cons, List.not_mem_nil, or_false] at hz
    rcases hz with rfl | rfl | rfl | rfl | rfl | rfl
    · exact hf _ (.head _)
    · exact hi
    · exact hj
    · exact hf _ (.tail _ (.head _))
    · exact hf _ (.tail _ (.tail _ (.head _)))
    · exact hf _ (.tail _ (.tail _ (.tail _ (.head _))))
local macro_rules | `(tactic| walk_at "exec While") => `(tactic| refine halt ?_)
theorem con93 (l k : List Nat) (hl : Word l) (hk' : Word k) : Con93 l k := by
  unfold Con93
  w_top off
  k_fill
  intro t u tbase tb ra w mean mg mb news dp un gd cn cs a ccd cl outer A₀ base h₀ L m s Q E B F X N T hk hdp hun I0 hret
  refine wpAny_call ?_
  k_dflt cell_enter
  have hle := hl.le
  have hke := hk'.le
  k_steps
  rename Fr _ _ _ _ => Fx
  rename News _ _ _ _ => Nx
  rename ∀ p ∈ news, _ => hlt
  refine Halt.go (While_inv2 (JW news l k t u tb) Fx Nx (n₀ := l.length + k.length) ?_ ?_)
  · have e1 : ∀ {x : Nat} {P : Prop}, (x = x → P) → P := fun h => h rfl
    refine' ⟨_, l.length, k.length, ?ti, ?tj, [], [], 0, news, rfl, rfl, fun p hp => Nat.ne_of_lt (hlt p hp), fun p hp => hp, .nil, Back.start l k, ?hf⟩
    case hf =>
      intro p hp
      simp only [List.mem_cons, List.not_mem_nil, or_false] at hp
      rcases hp with rfl | rfl | rfl | rfl | rfl | rfl <;> rfl
  · rintro n m₁ nx h1 tk1 F1 N1 ⟨c, i, j, ti, tj, cols, vs, e, rest, rfl, rfl, hne, hsub, hC, hB, hf⟩
    rw [← kstB_self hf] at F1
    simp only [kstB] at F1
    have I1 : TInv [] rest tb ra (l.length + 1) (k.length + 1) (dpt l k) := I0.mono hsub (fun _ h => nomatch h)
    have hBi := hB.hi
    have hBj := hB.hj
    have hvl : vs.length ≤ 5000 := by
      have h1 := hC.length
      have h2 := hB.ali.len
      simp only [List.length_drop] at h2
      omega
    k_steps
    · rename Fr _ _ _ _ => Fz
      rename News _ _ _ _ => Nz
      rename (@LT.lt Nat _ _ _) ∧ _ => hcD
      refine Halt.go (jw_push Fz Nz ⟨0, rfl⟩ hcD.1 hne hsub hC (OptV.some _ _) (OptV.some _ _) (hB.both (a := ((i : Int) - 1).toNat) (b := ((j : Int) - 1).toNat) (by omega) (by omega) (by rename dpt _ _ _ _ = _ => hd'; simpa using hd')) ⟨_, rfl⟩ ⟨_, rfl⟩ (by omega) (by omega) ?_ (by omega))
      intro p hp
      simp only [List.mem_cons, List.not_mem_nil, or_false] at hp
      rcases hp with rfl | rfl | rfl | rfl <;> rfl
    · rename Fr _ _ _ _ => Fz
      rename News _ _ _ _ => Nz
      rename (@LT.lt Nat _ _ _) ∧ _ => hcD
      refine Halt.go (jw_push Fz Nz ⟨0, rfl⟩ hcD.1 hne hsub hC (OptV.some _ _) OptV.none (hB.left (a := ((i : Int) - 1).toNat) (by omega) (by rename dpt _ _ _ _ = _ => hd'; simpa using hd')) ⟨_, rfl⟩ ⟨_, rfl⟩ (by omega) (by omega) ?_ (by omega))
      intro p hp
      simp only [List.mem_cons, List.not_mem_nil, or_false] at hp
      rcases hp with rfl | rfl | rfl | rfl <;> rfl
    · rename Fr _ _ _ _ => Fz
      rename News _ _ _ _ => Nz
      rename (@LT.lt Nat _ _ _) ∧ _ => hcD
      refine Halt.go (jw_push Fz Nz ⟨0, rfl⟩ hcD.1 hne hsub hC OptV.none (OptV.some _ _) (hB.right (b := ((j : Int) - 1).toNat) (by omega) (by rename dpt _ _ _ _ = _ => hd'; simpa using hd')) ⟨_, rfl⟩ ⟨_, rfl⟩ (by omega) (by omega) ?_ (by omega))
      intro p hp
      simp only [List.mem_cons, List.not_mem_nil, or_false] at hp
      rcases hp with rfl | rfl | rfl | rfl <;> rfl
    · exfalso
      have hd' := dpt_pos (l := l) (k := k) (i := (i : Int).toNat) (j := (j : Int).toNat) (a := ((i : Int) - 1).toNat) (b := ((j : Int) - 1).toNat) (by omega) (by omega)
      omega
    · rename Fr _ _ _ _ => Fz
      rename News _ _ _ _ => Nz
      rename (@LT.lt Nat _ _ _) ∧ _ => hcD
      refine Halt.go (jw_push Fz Nz ⟨0, rfl⟩ hcD.1 hne hsub hC (OptV.some _ _) OptV.none (hB.left (a := ((i : Int) - 1).toNat) (by omega) (by rename dpt _ _ _ _ = _ => hd'; simpa using hd')) ⟨_, rfl⟩ ⟨_, rfl⟩ (by omega) (by omega) ?_ (by omega))
      intro p hp
      simp only [List.mem_cons, List.not_mem_nil, or_false] at hp
      rcases hp with rfl | rfl | rfl | rfl <;> rfl
    · exfalso
      have hd' := dpt_i0 (l := l) (k := k) (i := (i : Int).toNat) (j := (j : Int).toNat) (a := ((i : Int) - 1).toNat) (by omega) (by omega)
      omega
    · rename Fr _ _ _ _ => Fz
      rename News _ _ _ _ => Nz
      rename (@LT.lt Nat _ _ _) ∧ _ => hcD
      refine Halt.go (jw_push Fz Nz ⟨0, rfl⟩ hcD.1 hne hsub hC OptV.none (OptV.some _ _) (hB.right (b := ((j : Int) - 1).toNat) (by omega) (by rename dpt _ _ _ _ = _ => hd'; simpa using hd')) ⟨_, rfl⟩ ⟨_, rfl⟩ (by omega) (by omega) ?_ (by omega))
      intro p hp
      simp only [List.mem_cons, List.not_mem_nil, or_false] at hp
      rcases hp with rfl | rfl | rfl | rfl <;> rfl
    · exfalso
      have hd' := dpt_0j (l := l) (k := k) (i := (i : Int).toNat) (j := (j : Int).toNat) (b := ((j : Int) - 1).toNat) (by omega) (by omega)
      omega
    · rename Fr _ _ _ _ => Fz
      rename News _ _ _ _ => Nz
      obtain rfl : i = 0 := by omega
      obtain rfl : j = 0 := by omega
      exact hret c cols vs e rest _ _ Fz Nz hsub hne hC hB.fin.1 hB.fin.2
end Mine
end
noncomputable section
open PySem PySem.W PySem.Calls PyProof.Rows
set_option maxRecDepth 100000
set_option maxHeartbeats 2000000
namespace Mine
theorem entry_eaw : entryFor table "unicodedata.east_asian_width" = some Builtin.«unicodedata.east_asian_width» := entryFor_of_tree (by kernel_rfl)
theorem kind_eaw : builtinKind "unicodedata.east_asian_width" = none := by kernel_rfl
theorem plain_eaw : plainId "unicodedata.east_asian_width" = true := by decide +kernel
theorem args_eaw (a : Value) : argsOk "unicodedata.east_asian_width" ⟨[a], []⟩ := by unfold argsOk; kernel_rfl
theorem meets_eaw (c : Nat) (t : Tok) (hw : (Str.ofString (Builtin.Unicodedata.widthOf c)).length ≤ sizeLine) : Meets (Builtin.«unicodedata.east_asian_width» ⟨[.str (one c) t], []⟩) (fun _ R s => R (.ok (.ret (.str (Str.ofString (Builtin.Unicodedata.widthOf c)) s.toks))) { s with toks := s.toks + 1 }) := by
  intro prog w A R s h
  obtain ⟨hp, g, d, tk, os⟩ := s
  wp_walk
  change wpAny _ _ (if (Str.ofString (Builtin.Unicodedata.widthOf c)).length > sizeLine then _ else _) _ _ _
  rw [if_neg (Nat.not_lt.mpr hw)]
  wp_walk
  exact h
def codesB : List Nat := 32 :: codes
def cw (c : Nat) : Int := if c = 65346 then 2 else if c = 65314 then 2 else if c = 28450 then 2 else 1
def wsum (l : List Nat) : Int := (l.map cw).sum
theorem w32 : Builtin.Unicodedata.widthOf 32 = "Na" := by decide +kernel
theorem w97 : Builtin.Unicodedata.widthOf 97 = "Na" := by decide +kernel
theorem w65 : Builtin.Unicodedata.widthOf 65 = "Na" := by decide +kernel
theorem w98 : Builtin.Unicodedata.widthOf 98 = "Na" := by decide +kernel
theorem w65346 : Builtin.Unicodedata.widthOf 65346 = "F" := by decide +kernel
theorem w65314 : Builtin.Unicodedata.widthOf 65314 = "F" := by decide +kernel
theorem w233 : Builtin.Unicodedata.widthOf 233 = "A" := by decide +kernel
theorem w28450 : Builtin.Unicodedata.widthOf 28450 = "W" := by decide +kernel
theorem codesB_cases {P : Nat → Prop} (h0 : P 32) (h1 : P 97) (h2 : P 65) (h3 : P 98) (h4 : P 65346) (h5 : P 65314) (h6 : P 233) (h7 : P 28450) : ∀ c ∈ codesB, P c := by
  intro c hc
  simp only [codesB, codes, List.mem_cons, List.not_mem_nil, or_false] at hc
  rcases hc with rfl | rfl | rfl | rfl | rfl | rfl | rfl | rfl <;> assumption
theorem eaw_short : ∀ c ∈ codesB, (Str.ofString (Builtin.Unicodedata.widthOf c)).length ≤ sizeLine := by
  refine codesB_cases ?_ ?_ ?_ ?_ ?_ ?_ ?_ ?_ <;> rw [sizeLine_eq]
  · rw [w32]; decide
  · rw [w97]; decide
  · rw [w65]; decide
  · rw [w98]; decide
  · rw [w65346]; decide
  · rw [w65314]; decide
  · rw [w233]; decide
  · rw [w28450]; decide
theorem eaw_in : ∀ c ∈ codesB, (if Txt.contains (Str.ofString "WF") (Str.ofString (Builtin.Unicodedata.widthOf c)) then (2 : Int) else 1) = cw c := by
  refine codesB_cases ?_ ?_ ?_ ?_ ?_ ?_ ?_ ?_
  · rw [w32]; decide +kernel
  · rw [w97]; decide +kernel
  · rw [w65]; decide +kernel
  · rw [w98]; decide +kernel
  · rw [w65346]; decide +kernel
  · rw [w65314]; decide +kernel
  · rw [w233]; decide +kernel
  · rw [w28450]; decide +kernel
theorem call_eaw {prog : Program} {w : World} {A : Around} {E : Value → Shared → Prop} {s : Shared} {c : Nat} {t : Tok} {Q : Value → Shared → Prop} (hc : c ∈ codesB)
    (h : Q (.str (Str.ofString (Builtin.Unicodedata.widthOf c)) s.toks) { s with toks := s.toks + 1 }) : wpAny (model prog w) A (call (.builtin "unicodedata.east_asian_width") [.str (one c) t]) Q E s :=
  call_function_meets kind_eaw plain_eaw entry_eaw (args_eaw _) (meets_eaw c t (eaw_short c hc)) h
end Mine
end
noncomputable section
open PySem PySem.W PySem.Calls PyProof.Rows
set_option maxRecDepth 100000
set_option maxHeartbeats 1000000
namespace Mine
theorem codeStep {M : Model} {A : Around} {E : Value → Shared → Prop} {s : Shared} {env : Env} {c P : Addr} {ps : Array Value} {pos : Pos} {q : Str} {scope : Scope} {Q : Value → Shared → Prop} (hc : env.code = .ref c) (hok : s.heap.IsCode c P ps) (htab : s.heap.TableAt c P ps)
    (hQ : ∀ code h' tk ps', Heap.ExtBut P s.heap h' → s.heap.objs.size ≤ h'.objs.size → h'.IsCode c P ps' → h'.TableAt c P ps' → Q code { s with heap := h', toks := tk }) : wpAny M A (genexprCode env pos q scope) Q E s := by
  cases hnf : codeAmong pos ps.toList with
  | none => exact wpAny_genexprCodeX hc hok htab hnf fun c' h' tk hx hge hlt h1 _ h2 _ => hQ _ h' tk _ hx (Nat.le_trans hge (Nat.le_of_lt hlt)) h1 h2
  | some cv =>
    obtain ⟨o, vs, file, tf, flags, tg, inF, text, tt, op, ho, hd, h11, h2, h7, h9, h10, hop, hpd, htr, hne⟩ := id hok
    unfold genexprCode codeAt
    rw [hc, if_neg (show ¬ ((Value.ref c == Value.none) = true) from Bool.false_ne_true)]
    refine wpAny_bind (wpAny_fieldsOf ho hd ?_)
    rw [h11]
    refine wpAny_bind (wpAny_fieldsOf hop hpd ?_)
    rw [hnf]
    exact wpAny_pure (hQ cv s.heap s.toks ps (Heap.ExtBut.refl _ _) (Nat.le_refl _) hok htab)
theorem sum_pre (val : Nat → Int) : ∀ n, preSum val n = ((List.range n).map val).sum := by
  intro n
  induction n with
  | zero => rfl
  | succ n ih => rw [List.range_succ, List.map_append, List.sum_append, ← ih]; simp [preSum]
theorem gen_any {prog : Program} {w : World} {A : Around} {E : Value → Shared → Prop} {s : Shared} {env : Env} {elt iter : PySem.Expr} {x : Str} {px : Pos} {scope : Scope} {cl : List (Str × Addr)} {pos : Pos} {c P : Addr} {val : Nat → Int} {Q : Value → Shared → Prop}
    (hh : A.handled = none) (hco : scope.isCoroutine = false) (hclos : closureFor scope env = pure cl) (hcell : ∀ y ∈ scope.names, y.2 ≠ .cell) (h0 : scope.names.lookup (".0" : Str) = some NameKind.local)
    (hx : scope.names.lookup x = some .local) (hkind : scope.kind = .function) (hroom : A.depth < recursionLimit) (hcode : env.code = .ref c)
    (h : wpAny (model prog w) A (eval iter env) (fun xv s₁ => Halt (∃ y t ps mg bm ob, xv = .str y t ∧ AllBare s₁.gens ∧ s₁.heap.NoLimit ∧ s₁.heap.IsCode c P ps ∧ s₁.heap.TableAt c P ps ∧ BMod s₁.heap env.globals mg bm ob ∧ 0 < s₁.heap.objs.size ∧
      (∀ (code : Value) (C : Addr) (A' : Around) E' (i a : Nat) (v : Value) (tv : Tok) (u : Shared) m₂, A'.handled = none → A'.depth ≤ A.depth + 1 → A'.units ≤ A.units + 8 → y.cps[i]? = some a → v = .str ⟨#[a]⟩ tv → u.heap.Ns C m₂ → m₂ x = some v → s₁.heap.objs.size ≤ C → (∀ b o, b ≠ P → s₁.heap.get? b = some o → u.heap.get? b = some o) →
        wpAny (model prog w) A' (eval elt (genEnv scope cl C code builtinsNs env)) (fun r s₃ => (∃ t, r = .int (val a) t) ∧ Keeps u s₃) E' u) ∧
      (∀ (a : Addr) (s₅ : Shared), s₅.os = s₁.os → AllBare s₅.gens → (∀ b o, b ≠ P → s₁.heap.get? b = some o → s₅.heap.get? b = some o) → (∃ ps', s₅.heap.IsCode c P ps' ∧ s₅.heap.TableAt c P ps') →
        Gen prog w A (s₁.heap.objs.size - 1) a y.cps.size (fun j r => ∃ i, (List.range y.cps.size)[j]? = some i ∧ ∃ t, r = .int (val (y.cps.getD i 0)) t) s₅ → Q (.ref a) s₅))) E s)
    (hs : ∀ x, genFold iter env x = pure x) :
    wpAny (model prog w) A (eval (.GeneratorExp elt [⟨.Name x px, iter, [], 0⟩] scope pos) env) Q E s := by
  refine wpAny_GeneratorExp_walksQD hh hco hclos hcell h0 hx hkind hroom (wpAny_mono h (fun xv s₁ h₁' => ?_) fun _ _ e => e) hs
  obtain ⟨y, t, ps, mg, bm, ob, rfl, G₁, hlim, hC, hT, hM, hpos, helt, hQ⟩ := h₁'
  refine wpAny_pyIter_str fun o St W hst => ?_
  have up : ∀ b o', s₁.heap.get? b = some o' → (s₁.heap.push o).get? b = some o' := fun b o' e => Heap.get?_push_of_some _ e
  refine ⟨hlim.push _, codeStep (P := P) (ps := ps) hcode (hC.keeps up) (hT.keeps up) fun code h₃ tk₃ ps' hx₃ hge hc3 ht3 => ?_⟩
  have hge' : s₁.heap.objs.size + 1 ≤ h₃.objs.size := by
    have := hge
    simp only [Heap.size_push] at this
    exact this
  have hPlt : P < s₁.heap.objs.size := Heap.lt_size hT.2
  have M₃ : BMod h₃ env.globals mg bm ob := (hM.keeps up).extBut (hT.keeps up) hx₃
  have hcP : cStatics ≠ P := fun e => by
    obtain ⟨_, hns, _⟩ := hlim
    obtain ⟨o, es, ep, ho, hd, _⟩ := hns
    rw [e, hT.2] at ho; cases ho; cases hd
  have hcl : cStatics < s₁.heap.objs.size := let ⟨_, hn, _⟩ := hlim; hn.lt
  have hl₃ : h₃.NoLimit := (hlim.push o).extBut hx₃ hcP
  have hIP : P ≠ s₁.heap.objs.size := Nat.ne_of_lt hPlt
  refine wpAny_builtinsFor M₃.ns M₃.name M₃.ne M₃.obj M₃.cls M₃.dict M₃.data ?_
  refine ⟨s₁.heap.objs.size, [s₁.heap.objs.size], [s₁.heap.objs.size], y.cps.size, SignAt y, St, (fun _ => true), (fun i r => ∃ t, r = .int (val (y.cps.getD i 0)) t), rfl, W, ?_, ?_, hl₃, ?_, ?_, ?_⟩
  · exact (W A hh).frame _ _ _ hst fun b hb o' e => hx₃ b o' (fun e' => hIP (by rw [← e', List.mem_singleton.mp hb])) e
  · intro b hb
    rw [List.mem_singleton.mp hb]
    exact hge'
  · intro hm
    exact absurd (List.mem_singleton.mp hm ▸ hcl) (Nat.lt_irrefl _)
  · intro href hhref
    have old : ∀ (u : Shared), (∀ b ∈ List.range h₃.objs.size, b ∉ [s₁.heap.objs.size] → ∀ o, href.get? b = some o → u.heap.get? b = some o) → ∀ b o, b ≠ P → s₁.heap.get? b = some o → u.heap.get? b = some o := fun u hkp b o' hb e => by
      have hlt := Heap.lt_size e
      refine hkp b (List.mem_range.mpr (Nat.lt_of_lt_of_le hlt (Nat.le_of_succ_le hge'))) (fun hm => ?_) o' (hhref b o' (hx₃ b o' hb (up b o' e)))
      exact absurd (List.mem_singleton.mp hm ▸ hlt) (Nat.lt_irrefl _)
    refine ⟨fun A' E' i v u m₂ hA hD hU hP hn hm hkp => ?_, fun A' E' i v u m₂ hA hD hU hP _ hn hm hkp => ?_⟩
    · rw [List.forIn_nil]
      exact wpAny_pure ⟨rfl, ⟨u.heap, u.toks, rfl, fun _ _ e => e⟩⟩
    · obtain ⟨a, tv, ha, rfl⟩ := hP
      have e : y.cps.getD i 0 = a := by
        rw [Array.getD_eq_getD_getElem?, ha]; rfl
      have := helt code h₃.objs.size A' E' i a _ tv u m₂ hA hD hU ha rfl hn hm (Nat.le_of_succ_le hge') (old u hkp)
      exact wpAny_mono this (fun r s₃ q => ⟨by rw [e]; exact q.1, q.2⟩) fun _ _ x => x
  · intro a h₅ tk gs hgb hag hsz₅ hk₅ W' hat
    have ep : passing (fun _ => true) y.cps.size 0 = List.range y.cps.size := by simp [passing]
    have X : Gen prog w A (s₁.heap.objs.size - 1) a (passing (fun _ => true) y.cps.size 0).length (fun j r => ∃ i, (passing (fun _ => true) y.cps.size 0)[j]? = some i ∧ ∃ t, r = .int (val (y.cps.getD i 0)) t)
        { s₁ with gens := s₁.gens.push gs, toks := tk, heap := h₅ } := by
      refine ⟨_, _, _, _, W', hat, (fun i s' st => st.1.typeIs), List.mem_cons_self, ?_, ?_⟩
      · intro b hb
        show b < h₅.objs.size
        rw [hsz₅]
        rcases List.mem_cons.mp hb with rfl | hb
        · exact Nat.lt_succ_self _
        · rcases List.mem_cons.mp hb with rfl | hb
          · exact Nat.lt_succ_of_lt hag
          · exact Nat.lt_succ_of_lt (Nat.lt_trans (List.mem_range.mp hb) hag)
      · intro b hb
        rcases List.mem_cons.mp hb with rfl | hb
        · exact Nat.lt_of_lt_of_le (Nat.sub_lt hpos Nat.one_pos) (Nat.le_of_succ_le hge')
        · have hlt' : s₁.heap.objs.size - 1 < s₁.heap.objs.size := Nat.sub_lt hpos Nat.one_pos
          have e9 : b = s₁.heap.objs.size := List.mem_singleton.mp hb
          rw [e9]
          exact hlt'
    refine hQ a _ rfl (G₁.push hgb) (fun b o' hb e => hk₅ b o' (hx₃ b o' hb (up b o' e))) ⟨ps', hc3.keeps hk₅, ht3.keeps hk₅⟩ ?_
    rw [ep] at X
    simp only [List.length_range] at X
    exact X
end Mine
end
noncomputable section
open PySem PySem.W PySem.Calls PyProof.Rows
set_option maxRecDepth 100000
set_option maxHeartbeats 8000000
set_option Elab.async false
set_option pp.maxSteps 600
namespace Mine
theorem enter_real {prog : Program} {w : World} {A : Around} {s : Shared} {K : Frag} {R : Result → Shared → Prop} {name qual : Str} {params : Arguments} {body : List Stmt} {scope : Scope} {dV kV doc pm cdv ct oc : Value} {an od : Option Addr} {osl : Array (Option Value)} {f : Addr} {args : Args} {binds : List (Str × Value)}
    (X : K.In s.heap) (hlim : s.heap.NoLimit) (ho : K.lookup f = some ⟨oc, od, .func (fnOf name qual params body scope dV kV doc pm an cdv ct), osl⟩) (hcd : codeIn K cdv qual = true) (hroom : A.depth < recursionLimit)
    (hbind : BindsTo s (fnOf name qual params body scope dV kV doc pm an cdv ct) args binds) (hloc : ∀ y ∈ binds, scope.names.lookup y.1 = some .local)
    (h : ∀ h₁, Fr s.heap s.heap.objs.size h₁ (fun y => binds.reverse.lookup y) → News s.heap s.heap.objs.size h₁ [] →
      wpAny (model prog w) (A.deeper (envOf qual scope s.heap.objs.size f cdv)) (execs body (envOf qual scope s.heap.objs.size f cdv))
        (fun fl s' => R (.ok (.ret (match fl with | .ret v => v | _ => .none))) s') (fun _ _ => False)
        { s with heap := h₁, toks := s.toks + binds.length })
    (hcell : ∀ x ∈ scope.names, x.2 ≠ .cell) (hco : scope.isCoroutine = false) (hgen : scope.isGenerator = false) (hk : scope.kind = .function) : codeAny (model prog w) A (.call (.ref f) args) R s := by
  refine codeAny_call_def (fd := fnOf name qual params body scope dV kV doc pm an cdv ct) (body := body) (binds := binds) hroom (X _ _ ho) rfl hlim (codeRec_of X hcd) rfl hbind hcell hloc (fun h₁ hns hk₁ => ?_) hco hgen hk
  exact wpAny_mono (h h₁ ⟨hns, hk₁, Nat.le_refl _⟩ fun _ hp => nomatch hp) (fun _ _ q => q) fun _ _ q => q.elim
theorem sub_upto {prog : Program} {w : World} {A : Around} {E : Value → Shared → Prop} {s : Shared} {value slice : PySem.Expr} {l : List Nat} {j : Nat} {t : Tok} {h₀ : Heap} {L : Addr} {m : Str → Option Value} {news : Led} {Q : Value → Shared → Prop} {ui : Tok} (hF : Fr h₀ L s.heap m) (hN : News h₀ L s.heap news) (hl : l.length ≤ 1000) (hj : j ≤ l.length) (h : ∀ h' t' k, Fr h₀ L h' m → News h₀ L h' news → Q (.str (S (l.take j)) t') { s with heap := h', toks := k })
    (hs : subscripted slice false (.str (S l) t) (.ref s.heap.objs.size) = operate [.ref s.heap.objs.size, .str (S l) t] (getItem (.str (S l) t) (.ref s.heap.objs.size)))
    (ht : ∀ r, letTemporaryGo value (.str (S l) t) r = pure ()) :
    wpAny (model prog w) A (subscriptTail value slice (.str (S l) t) (.ref s.heap.objs.size)) Q E { s with heap := s.heap.push { cls := .type "slice", data := .fields #[.none, .int (j : Int) ui, .none] } } :=
  slice_strN_ns hF hN (by rw [slice_upto l j hj]; exact h) hs ht (by rw [S_len, sizeLine_eq]; omega)
theorem ascii_small {l : List Nat} (h : Txt.isascii (S l) = true) : ∀ c ∈ l, c < 128 := by
  intro c hc
  unfold Txt.isascii at h
  simp at h
  exact h c hc
theorem wsum_ascii {l : List Nat} (hx : ∀ c ∈ l, c ∈ codesB) (h : ∀ c ∈ l, c < 128) : wsum l = l.length := by
  unfold wsum
  induction l with
  | nil => rfl
  | cons c l ih =>
    have h1 : cw c = 1 := by
      have := h c (.head _)
      unfold cw
      rw [if_neg (by omega), if_neg (by omega), if_neg (by omega)]
    simp only [List.map_cons, List.sum_cons, List.length_cons]
    rw [ih (fun d hd => hx d (.tail _ hd)) fun d hd => h d (.tail _ hd), h1]
    omega
local macro_rules | `(tactic| walk_at "subscriptTail Name Slice str ref") => `(tactic| (k_here; (with_reducible show wpAny _ _ (subscriptTail _ (PySem.Expr.Slice none (some _) none _) (Value.str (S _) _) (Value.ref _)) _ _ _); (with_reducible rename Fr _ _ _ _ => F'); (with_reducible rename News _ _ _ _ => N'); (refine' sub_upto (s := ⟨_, _, _, _, _⟩) F' N' ?h ?hj ?_ ?s ?t); (case s => with_unfolding_all rfl); (case t => (intro _; with_unfolding_all rfl)); (case h => first | with_reducible assumption | exact Word.le (by with_reducible assumption)); (case hj => with_reducible assumption); intro h9 t9 k9 F9 N9))
theorem code_at {h h' : Heap} {c P : Addr} {ps : Array Value} (x : h.IsCode c P ps) (y : h.TableAt c P ps) (hc : ∀ o, h.get? c = some o → h'.get? c = some o) (hP : ∀ o, h.get? P = some o → h'.get? P = some o) : h'.IsCode c P ps ∧ h'.TableAt c P ps := by
  obtain ⟨o, vs, file, tf, flags, tg, inF, text, tt, op, ho, hd, h11, h2, h7, h9, h10, hop, hpd, htr, hne⟩ := x
  obtain ⟨⟨o', vs', a, r⟩, t⟩ := y
  exact ⟨⟨o, vs, file, tf, flags, tg, inF, text, tt, op, hc _ ho, hd, h11, h2, h7, h9, h10, hP _ hop, hpd, htr, hne⟩, ⟨⟨o', vs', hc _ a, r⟩, hP _ t⟩⟩
theorem cw_bounds (c : Nat) : 1 ≤ cw c ∧ cw c ≤ 2 := by
  unfold cw
  split
  · omega
  · split
    · omega
    · split <;> omega
theorem pre_bounds {val : Nat → Int} (h : ∀ i, 1 ≤ val i ∧ val i ≤ 2) : ∀ n : Nat, 0 ≤ preSum val n ∧ preSum val n ≤ 2 * n := by
  intro n
  induction n with
  | zero => simp [preSum]
  | succ n ih =>
    have := h n
    simp only [preSum]
    omega
theorem pre_wsum (l : List Nat) : preSum (fun i => cw (l.toArray.getD i 0)) l.length = wsum l := by
  rw [sum_pre]
  unfold wsum
  congr 1
  apply List.ext_getElem
  · simp
  · intro i h1 h2
    have hi : i < l.length := by simpa using h1
    simp [hi]
/-- the heap without the table of codes of _display_width -/
def hide46 (h : Heap) : Heap := h.update 46 fun o => { o with data := .freed }
theorem hide_size (h : Heap) : (hide46 h).objs.size = h.objs.size := Heap.size_after_update ..
theorem hide_other {h : Heap} {b : Addr} (hb : b ≠ 46) : (hide46 h).get? b = h.get? b := Heap.get?_update_other _ _ (Ne.symm hb)
theorem hide_none (h : Heap) : (hide46 h).get? 46 = none := by
  cases e : (hide46 h).get? 46 with
  | none => rfl
  | some o =>
    obtain ⟨e1, e2⟩ := Heap.get?_some_iff.mp e
    unfold hide46 at e1
    cases h with
    | mk objs life =>
      simp only [Heap.update, Array.getElem?_modify, if_true] at e1
      cases hx : objs[46]? with
      | none => rw [hx] at e1; cases e1
      | some o' => rw [hx] at e1; cases e1; cases e2
theorem hide_some {h : Heap} {b : Addr} {o : Obj} (e : (hide46 h).get? b = some o) : b ≠ 46 ∧ h.get? b = some o := by
  have hb : b ≠ 46 := fun hb => by rw [hb, hide_none] at e; cases e
  exact ⟨hb, by rw [← hide_other hb]; exact e⟩
theorem fr_hide {h₀ h h' : Heap} {L : Addr} {m : Str → Option Value} (F : Fr h₀ L h m) (hk : ∀ b o, b ≠ 46 → h.get? b = some o → h'.get? b = some o) (hL : L ≠ 46) : Fr (hide46 h₀) L h' m :=
  ⟨F.ns.at' fun o e => hk _ o hL e, fun b o e => hk b o (hide_some e).1 (F.keep b o (hide_some e).2), Nat.le_trans (Nat.le_of_eq (hide_size _)) F.above⟩
theorem hide_ns {h : Heap} {a : Addr} {m : Str → Option Value} (ha : a ≠ 46) (n : h.Ns a m) : (hide46 h).Ns a m := by
  obtain ⟨o, es, ep, ho, r⟩ := n
  exact ⟨o, es, ep, (hide_other ha).trans ho, r⟩
theorem hide_top {p : Program} {loose : List Str} {mg mb : Str → Option Value} {h : Heap} (T : TopRead p loose mg mb h) : TopRead p loose mg mb (hide46 h) := by
  refine ⟨hide_ns (by decide) T.g, hide_ns (by decide) T.b, ?_, T.builtins, T.free⟩
  obtain ⟨mc, h1, h2⟩ := T.nolimit
  exact ⟨mc, hide_ns (by decide) h1, h2⟩
theorem hide_in {K : Frag} {h : Heap} (hK : K.lookup 46 = none) (X : K.In h) : K.In (hide46 h) := by
  intro a o e
  have ha : a ≠ 46 := fun ha => by rw [ha, hK] at e; cases e
  exact (hide_other ha).trans (X a o e)
local macro_rules | `(tactic| walk_at "eval Name") => `(tactic| (k_here; (with_reducible show wpAny _ _ (eval (PySem.Expr.Name _ _) (genEnv _ _ _ _ _ _)) _ _ _); k_dflt (first
  | (refine' nameG_K ?F ?X ?T ?e ?_ ?g ?k ?x ?d; (case F => k_asm); (case X => k_asm); (case T => k_asm); (case e => k_is); (case g => exact rfl); (case k => exact rfl); (case x => exact rfl); (case d => decide))
  | (refine' ldVarG ?F ?v ?_; (case F => k_asm); (case v => assumption)))))
local macro_rules | `(tactic| walk_at "call builtin:sum") => `(tactic| refine halt ?_)
local macro_rules | `(tactic| walk_at "call builtin:unicodedata.east_asian_width") => `(tactic| (k_here; (refine' call_eaw ?c ?_; (case c => assumption))))
theorem con51a {w : World} {A : Around} {E : Value → Shared → Prop} {s : Shared} {mg mb : Str → Option Value} {bm : Addr} {ob : Obj} {ps : Array Value} {Q : Value → Shared → Prop} (x : List Nat) (j : Nat) (t u : Tok) (hx : ∀ c ∈ x, c ∈ codesB) (hlen : x.length ≤ 1000) (hj : j ≤ x.length)
    (hh : A.handled = none) (hdp : A.depth + 3 < recursionLimit) (hun : A.units + 100 < cLine)
    (X : (hd.heap_39 w.params).In s.heap) (T : TopRead hd.view_39 (looseW hd.view_39 [Str.ofString "_display_width"]) mg mb s.heap) (M : BMod s.heap mainGlobals mg bm ob) (G : AllBare s.gens) (C : s.heap.IsCode 50 46 ps) (TA : s.heap.TableAt 50 46 ps)
    (hQ : ∀ s' t', s'.os = s.os → AllBare s'.gens → (∀ b o, b ≠ 46 → s.heap.get? b = some o → s'.heap.get? b = some o) → (∃ ps', s'.heap.IsCode 50 46 ps' ∧ s'.heap.TableAt 50 46 ps') → Q (.int (wsum (x.take j)) t') s') :
    wpAny (model PySem.Challenge.rw_gq5015_01.row.prog w) A (call (.ref 51) [.str (S x) t, .int j u]) Q E s := by
  have hK9 : (hd.heap_39 w.params).In s.heap → True := fun _ => trivial
  revert X
  w_top off
  k_fill
  intro X
  refine wpAny_call ?_
  k_dflt (refine' enter_real ?k3 ?k5 ?k6 ?k7 ?k8 ?k9 ?kB ?_ ?c5 ?c2 ?c3 ?c4; (case k3 => exact X); (case k5 => exact T.nolimit); (case k6 => k_is); (case k7 => k_is); (case k8 => omega); (case k9 => exact binds_K (by k_in) rfl (by k_is) rfl rfl rfl); (case c5 => decide); (case kB => exact locs rfl); (case c2 => exact rfl); (case c3 => exact rfl); (case c4 => exact rfl); k_whole; intro h₁ F' N'; (try dsimp only); (try k_fold))
  k_steps
  · have hlen' : wsum (x.take j) = j := by
      have h0 := ascii_small (by assumption)
      have := wsum_ascii (l := x.take j) (fun c hc => hx c (List.mem_of_mem_take hc)) fun c hc => h0 c (List.mem_of_mem_take hc)
      rw [this, List.length_take]
      omega
    rename Fr _ _ _ _ => Fa
    have hq := fun (h9 : Heap) (tk9 : Nat) (u9 : Tok) (k9 : ∀ b o, s.heap.get? b = some o → h9.get? b = some o) => hQ { s with heap := h9, toks := tk9 } u9 rfl G (fun b o _ e => k9 b o e) ⟨ps, C.keeps k9, TA.keeps k9⟩
    rw [hlen'] at hq
    exact hq _ _ _ Fa.keep
  · refine gen_any (val := cw) (P := 46) (c := 50) hh rfl (by rfl) (by decide) (by rfl) (by rfl) (by rfl) ?_ rfl ?_ (by intro _; with_unfolding_all rfl)
    · show A.depth + 1 < _
      omega
    k_steps
    refine Halt.go ⟨_, _, ps, mg, bm, ob, rfl, G, ?_, ?_, ?_, ?_, ?_, ?_, ?_⟩
    all_goals rename Fr _ _ _ _ => Fz
    · exact T.nolimit.keeps Fz.keep
    · exact C.keeps Fz.keep
    · exact TA.keeps Fz.keep
    · exact M.keeps Fz.keep
    · exact Nat.lt_of_le_of_lt (Nat.zero_le _) Fz.ns.lt
    · intro code C' A' E' i a v tv u' m₂ hA hD hU ha hv hn hm hC hkp
      subst hv
      have hc : a ∈ codesB := by
        have h1 : (x.take j)[i]? = some a := by simpa using ha
        exact hx a (List.mem_of_mem_take (List.mem_of_getElem? h1))
      have Fg : Fr (hide46 s.heap) C' u'.heap m₂ := ⟨hn, fun b o e => hkp b o (hide_some e).1 (Fz.keep b o (hide_some e).2), by
        rw [hide_size]; exact Nat.le_trans (Nat.le_of_lt Fz.ns.lt) hC⟩
      have Ng : News (hide46 s.heap) C' u'.heap [] := fun _ hp => nomatch hp
      have Xg := hide_in (K := hd.heap_39 w.params) (by rfl) X
      have Tg := hide_top T
      refine wpAny_mono (Q := fun (r : Value) (s₃ : Shared) => Halt ((∃ t : Tok, r = Value.int (cw a) t) ∧ PySem.Keeps u' s₃)) (E := fun _ _ => False) ?_ (fun r s₃ (h : Halt ((∃ t : Tok, r = Value.int (cw a) t) ∧ PySem.Keeps u' s₃)) => h) (fun _ _ h => h.elim)
      clear hkp hQ
      k_steps
      all_goals
        have hw := eaw_in a hc
        unfold Txt.contains at hw
        rename List.isEmpty _ = _ => he
        rw [he] at hw
        simp at hw
        refine Halt.go ⟨?_, _, _, rfl, fun _ _ e => e⟩
        rw [← hw]
        exact ⟨_, rfl⟩
    · intro a s₅ hos hG5 hk5 hps5 X5
      obtain ⟨ps', hc5, ht5⟩ := hps5
      have hLne : s.heap.objs.size ≠ 46 := Nat.ne_of_gt (Heap.lt_size TA.2)
      have F5 := fr_hide Fz hk5 hLne
      k_steps
      have hlt9 := Fz.ns.lt
      refine Halt.go (sum_rowsK F5 hG5 X5 (Nat.le_sub_one_of_lt hlt9) (fun i => cw ((x.take j).toArray.getD i 0)) ?_ ?_ ?_)
      · intro i v hv
        obtain ⟨i', hi', t', rfl⟩ := hv
        have e : i' = i := by
          have hlt : i < (S (x.take j)).cps.size := by
            rcases Nat.lt_or_ge i (S (x.take j)).cps.size with h | h
            · exact h
            · rw [List.getElem?_eq_none (by simpa using h)] at hi'; cases hi'
          rw [List.getElem?_range hlt] at hi'
          exact (Option.some.inj hi').symm
        subst e
        exact ⟨t', rfl⟩
      · intro i hi
        have h1 := cw_bounds ((x.take j).toArray.getD i 0)
        have h2 := pre_bounds (val := fun i => cw ((x.take j).toArray.getD i 0)) (fun i => cw_bounds _) (i + 1)
        have h3 : i < (x.take j).length := by simpa using hi
        rw [List.length_take] at h3
        unfold InLong
        omega
      · intro s' t' F6 G6 hos6 hk6
        have e : preSum (fun i => cw ((x.take j).toArray.getD i 0)) (S (x.take j)).cps.size = wsum (x.take j) := by
          have := pre_wsum (x.take j)
          simpa using this
        rw [e]
        have hle : ∀ {b : Addr}, b < s.heap.objs.size → b ≤ _ := fun hb => Nat.le_sub_one_of_lt (Nat.lt_trans hb hlt9)
        refine hQ s' t' (hos6.trans hos) G6 (fun b o hb e => hk6 b o (hle (Heap.lt_size e)) (hk5 b o hb (Fz.keep b o e))) ⟨ps', code_at hc5 ht5 (fun o e => hk6 50 o (hle ?_) e) fun o e => hk6 46 o (hle (Heap.lt_size TA.2)) e⟩
        obtain ⟨⟨o9, vs9, a9, _⟩, _⟩ := TA
        exact Heap.lt_size a9
theorem con51b {w : World} {A : Around} {E : Value → Shared → Prop} {s : Shared} {mg mb : Str → Option Value} {bm : Addr} {ob : Obj} {ps : Array Value} {Q : Value → Shared → Prop} (x : List Nat) (t : Tok) (hx : ∀ c ∈ x, c ∈ codesB) (hlen : x.length ≤ 1000)
    (hh : A.handled = none) (hdp : A.depth + 3 < recursionLimit) (hun : A.units + 100 < cLine)
    (X : (hd.heap_39 w.params).In s.heap) (T : TopRead hd.view_39 (looseW hd.view_39 [Str.ofString "_display_width"]) mg mb s.heap) (M : BMod s.heap mainGlobals mg bm ob) (G : AllBare s.gens) (C : s.heap.IsCode 50 46 ps) (TA : s.heap.TableAt 50 46 ps)
    (hQ : ∀ s' t', s'.os = s.os → AllBare s'.gens → (∀ b o, b ≠ 46 → s.heap.get? b = some o → s'.heap.get? b = some o) → (∃ ps', s'.heap.IsCode 50 46 ps' ∧ s'.heap.TableAt 50 46 ps') → Q (.int (wsum x) t') s') :
    wpAny (model PySem.Challenge.rw_gq5015_01.row.prog w) A (call (.ref 51) [.str (S x) t]) Q E s := by
  have hj : x.length ≤ x.length := Nat.le_refl _
  rw [show wsum x = wsum (x.take x.length) by rw [List.take_length]] at hQ
  have hK9 : (hd.heap_39 w.params).In s.heap → True := fun _ => trivial
  revert X
  w_top off
  k_fill
  intro X
  refine wpAny_call ?_
  k_dflt (refine' enter_real ?k3 ?k5 ?k6 ?k7 ?k8 ?k9 ?kB ?_ ?c5 ?c2 ?c3 ?c4; (case k3 => exact X); (case k5 => exact T.nolimit); (case k6 => k_is); (case k7 => k_is); (case k8 => omega); (case k9 => exact binds_K (by k_in) rfl (by k_is) rfl rfl rfl); (case c5 => decide); (case kB => exact locs rfl); (case c2 => exact rfl); (case c3 => exact rfl); (case c4 => exact rfl); k_whole; intro h₁ F' N'; (try dsimp only); (try k_fold))
  k_steps
  · have hlen' : wsum (x.take x.length) = x.length := by
      have h0 := ascii_small (by assumption)
      have := wsum_ascii (l := x.take x.length) (fun c hc => hx c (List.mem_of_mem_take hc)) fun c hc => h0 c (List.mem_of_mem_take hc)
      rw [this, List.length_take]
      omega
    rename Fr _ _ _ _ => Fa
    have hq := fun (h9 : Heap) (tk9 : Nat) (u9 : Tok) (k9 : ∀ b o, s.heap.get? b = some o → h9.get? b = some o) => hQ { s with heap := h9, toks := tk9 } u9 rfl G (fun b o _ e => k9 b o e) ⟨ps, C.keeps k9, TA.keeps k9⟩
    rw [hlen'] at hq
    exact hq _ _ _ Fa.keep
  · refine gen_any (val := cw) (P := 46) (c := 50) hh rfl (by rfl) (by decide) (by rfl) (by rfl) (by rfl) ?_ rfl ?_ (by intro _; with_unfolding_all rfl)
    · show A.depth + 1 < _
      omega
    k_steps
    refine Halt.go ⟨_, _, ps, mg, bm, ob, rfl, G, ?_, ?_, ?_, ?_, ?_, ?_, ?_⟩
    all_goals rename Fr _ _ _ _ => Fz
    · exact T.nolimit.keeps Fz.keep
    · exact C.keeps Fz.keep
    · exact TA.keeps Fz.keep
    · exact M.keeps Fz.keep
    · exact Nat.lt_of_le_of_lt (Nat.zero_le _) Fz.ns.lt
    · intro code C' A' E' i a v tv u' m₂ hA hD hU ha hv hn hm hC hkp
      subst hv
      have hc : a ∈ codesB := by
        have h1 : (x.take x.length)[i]? = some a := by simpa using ha
        exact hx a (List.mem_of_mem_take (List.mem_of_getElem? h1))
      have Fg : Fr (hide46 s.heap) C' u'.heap m₂ := ⟨hn, fun b o e => hkp b o (hide_some e).1 (Fz.keep b o (hide_some e).2), by
        rw [hide_size]; exact Nat.le_trans (Nat.le_of_lt Fz.ns.lt) hC⟩
      have Ng : News (hide46 s.heap) C' u'.heap [] := fun _ hp => nomatch hp
      have Xg := hide_in (K := hd.heap_39 w.params) (by rfl) X
      have Tg := hide_top T
      refine wpAny_mono (Q := fun (r : Value) (s₃ : Shared) => Halt ((∃ t : Tok, r = Value.int (cw a) t) ∧ PySem.Keeps u' s₃)) (E := fun _ _ => False) ?_ (fun r s₃ (h : Halt ((∃ t : Tok, r = Value.int (cw a) t) ∧ PySem.Keeps u' s₃)) => h) (fun _ _ h => h.elim)
      clear hkp hQ
      k_steps
      all_goals
        have hw := eaw_in a hc
        unfold Txt.contains at hw
        rename List.isEmpty _ = _ => he
        rw [he] at hw
        simp at hw
        refine Halt.go ⟨?_, _, _, rfl, fun _ _ e => e⟩
        rw [← hw]
        exact ⟨_, rfl⟩
    · intro a s₅ hos hG5 hk5 hps5 X5
      obtain ⟨ps', hc5, ht5⟩ := hps5
      have hLne : s.heap.objs.size ≠ 46 := Nat.ne_of_gt (Heap.lt_size TA.2)
      have F5 := fr_hide Fz hk5 hLne
      k_steps
      have hlt9 := Fz.ns.lt
      refine Halt.go (sum_rowsK F5 hG5 X5 (Nat.le_sub_one_of_lt hlt9) (fun i => cw ((x.take x.length).toArray.getD i 0)) ?_ ?_ ?_)
      · intro i v hv
        obtain ⟨i', hi', t', rfl⟩ := hv
        have e : i' = i := by
          have hlt : i < (S (x.take x.length)).cps.size := by
            rcases Nat.lt_or_ge i (S (x.take x.length)).cps.size with h | h
            · exact h
            · rw [List.getElem?_eq_none (by simpa using h)] at hi'; cases hi'
          rw [List.getElem?_range hlt] at hi'
          exact (Option.some.inj hi').symm
        subst e
        exact ⟨t', rfl⟩
      · intro i hi
        have h1 := cw_bounds ((x.take x.length).toArray.getD i 0)
        have h2 := pre_bounds (val := fun i => cw ((x.take x.length).toArray.getD i 0)) (fun i => cw_bounds _) (i + 1)
        have h3 : i < (x.take x.length).length := by simpa using hi
        rw [List.length_take] at h3
        unfold InLong
        omega
      · intro s' t' F6 G6 hos6 hk6
        have e : preSum (fun i => cw ((x.take x.length).toArray.getD i 0)) (S (x.take x.length)).cps.size = wsum (x.take x.length) := by
          have := pre_wsum (x.take x.length)
          simpa using this
        rw [e]
        have hle : ∀ {b : Addr}, b < s.heap.objs.size → b ≤ _ := fun hb => Nat.le_sub_one_of_lt (Nat.lt_trans hb hlt9)
        refine hQ s' t' (hos6.trans hos) G6 (fun b o hb e => hk6 b o (hle (Heap.lt_size e)) (hk5 b o hb (Fz.keep b o e))) ⟨ps', code_at hc5 ht5 (fun o e => hk6 50 o (hle ?_) e) fun o e => hk6 46 o (hle (Heap.lt_size TA.2)) e⟩
        obtain ⟨⟨o9, vs9, a9, _⟩, _⟩ := TA
        exact Heap.lt_size a9
end Mine
end
noncomputable section
open PySem PySem.W PySem.Calls PyProof.Rows
set_option maxRecDepth 100000
namespace Mine
theorem ints_mem {vs : List Value} {ns : List Int} (h : IntsAre vs ns) : ∀ v ∈ vs, ∃ n t, v = .int n t := by
  induction h with
  | nil => intro v hv; cases hv
  | cons n t _ ih =>
    intro v hv
    rcases List.mem_cons.mp hv with rfl | hv
    · exact ⟨n, t, rfl⟩
    · exact ih v hv
theorem pick_ints {vs : List Value} {ns : List Int} (h : IntsAre vs ns) (lo hi st : Option Int) : ∀ v ∈ (slicePick vs.toArray lo hi st).toList, ∃ n t, v = .int n t := by
  intro v hv
  unfold slicePick at hv
  simp only [List.mem_filterMap] at hv
  obtain ⟨i, _, hi⟩ := hv
  simp at hi
  exact ints_mem h v (List.mem_of_getElem? hi)
theorem pick_size (its : Array Value) (a : Int) (ha : 0 ≤ a) : (slicePick its (some a) (some 8) (some 2)).size ≤ 4 := by
  unfold slicePick
  simp only [List.size_toArray]
  refine Nat.le_trans (List.length_filterMap_le ..) ?_
  unfold sliceRange sliceBounds
  simp
  omega
theorem news_none {h₀ h : Heap} {L : Addr} {news : List (Addr × Obj)} (_N : News h₀ L h news) : News h₀ L h [] := fun _ hp => nomatch hp
end Mine
namespace Mine
section
variable {prog : Program} {w : World} {A : Around} {E : Value → Shared → Prop} {s : Shared} {h₀ : Heap} {L l : Addr} {m : Str → Option Value} {news : List (Addr × Obj)} {value slice : PySem.Expr} {vs : List Value} {ns : List Int} {Q : Value → Shared → Prop}
theorem slice3_ints {a : Int} {ta tb tc : Tok} {ops : List Value} (F : Fr h₀ L s.heap m) (N : News h₀ L s.heap news) (hl : s.heap.IsList l vs.toArray) (hi : IntsAre vs ns) (hn : ns.length ≤ 1000) (ha : 0 ≤ a)
    (h : ∀ D zs h', Fr h₀ L h' m → News h₀ L h' ((D, listOf (List.toArray zs) 0) :: news) → (∀ p ∈ news, p.1 < D) → (∀ v ∈ zs, ∃ n t, v = Value.int n t) → zs.length ≤ 4 → Q (.ref D) { s with heap := h' })
    (hs : subscripted slice false (.ref l) (.ref s.heap.objs.size) = operate ops (getItem (.ref l) (.ref s.heap.objs.size))) (ht : ∀ r, letTemporaryGo value (.ref l) r = pure ()) :
    wpAny (model prog w) A (subscriptTail value slice (.ref l) (.ref s.heap.objs.size)) Q E { s with heap := s.heap.push { cls := .type "slice", data := .fields #[.int a ta, .int 8 tb, .int 2 tc] } } := by
  refine kmk_slice3_lit F N hl (.int a ta) (.int 8 tb) (.int 2 tc) (by decide) rfl (fun D h' F' N' hlt => h D _ h' F' N' hlt (pick_ints hi _ _ _) ?_) hs ht ?_
  · have := pick_size vs.toArray a ha
    simpa using this
  · have := hi.length
    rw [sizeLine_eq]
    simp only [List.size_toArray]
    omega
end
theorem strs_snoc {vs : List Value} {cs : List Nat} (h : StrsAre vs (cs.map one)) (c : Nat) (t : Tok) : StrsAre (vs ++ [.str (one c) t]) ((cs ++ [c]).map one) := by
  induction cs generalizing vs with
  | nil => cases h; exact .cons _ _ .nil
  | cons d cs ih =>
    cases h with
    | cons _ _ h => exact .cons _ _ (ih h)
theorem join_ones (cs : List Nat) : Txt.join (Str.ofString "") (cs.map one) = S cs := by
  have e : cs.map one = signs (S cs) := by simp [signs]
  rw [e]
  exact (StrLaws.glued_eq_join _ _).trans (join_nil_signs (S cs))
end Mine
end
noncomputable section
open PySem PySem.W PySem.Calls PyProof.Rows
set_option maxRecDepth 100000
namespace Mine
section
variable {w : World} {mean : ExcName → Option Value} {mg mb : Str → Option Value} {news : List (Addr × Obj)}
    {dp un : Nat} {gd : Option (List Code)} {cn : Str} {cs : Scope} {a : Addr} {ccd : Value} {cl : List (Str × Addr)} {outer : List Env} {A₀ : Around} {base h₀ : Heap} {L : Addr} {m : Str → Option Value} {s : Shared} {Q E : Value → Shared → Prop}
theorem use86 {l k : List Nat} {t u : Tok} (hl : Word l) (hk' : Word k)
    (B : Below A₀ base outer h₀) (F : Fr h₀ L s.heap m) (X : (hd.heap_39 w.params).In h₀) (N : News h₀ L s.heap news) (T : Top hd.view_39 (looseW hd.view_39 [Str.ofString "_display_width"]) mean mg mb h₀) (hk : cs.kind = .function)
    (hd' : dp + 3 < recursionLimit) (hu : un + 100 < cLine) (h : ∀ tb ra led h' tk', Fr h₀ L h' m → News h₀ L h' led → TInv news led tb ra (l.length + 1) (k.length + 1) (dpt l k) → Q (.ref tb) { s with heap := h', toks := tk' }) :
    wpAny (model PySem.Challenge.rw_gq5015_01.row.prog w) (ktrTop dp un gd cn cs L a ccd cl outer) (call (.ref 86) [.str (S l) t, .str (S k) u]) Q E s := con86 l k hl hk' t u w mean mg mb news dp un gd cn cs a ccd cl outer A₀ base h₀ L m s Q E B F X N T hk hd' hu h
theorem use93 {l k : List Nat} {t u : Tok} {tbase : List (Addr × Obj)} {tb : Addr} {ra : Nat → Addr} (hl : Word l) (hk' : Word k)
    (B : Below A₀ base outer h₀) (F : Fr h₀ L s.heap m) (X : (hd.heap_39 w.params).In h₀) (N : News h₀ L s.heap news) (T : Top hd.view_39 (looseW hd.view_39 [Str.ofString "_display_width"]) mean mg mb h₀) (hk : cs.kind = .function)
    (hd' : dp + 3 < recursionLimit) (hu : un + 100 < cLine) (I : TInv tbase news tb ra (l.length + 1) (k.length + 1) (dpt l k))
    (h : ∀ c col vs e led h' tk', Fr h₀ L h' m → News h₀ L h' ((c, listOf vs.toArray e) :: led) → (∀ p ∈ news, p ∈ led) → (∀ p ∈ led, p.1 ≠ c) → ColsIn led vs col → Ali l k col → csum col = dpt l k l.length k.length → Q (.ref c) { s with heap := h', toks := tk' }) :
    wpAny (model PySem.Challenge.rw_gq5015_01.row.prog w) (ktrTop dp un gd cn cs L a ccd cl outer) (call (.ref 93) [.str (S l) t, .str (S k) u, .ref tb]) Q E s := con93 l k hl hk' t u tbase tb ra w mean mg mb news dp un gd cn cs a ccd cl outer A₀ base h₀ L m s Q E B F X N T hk hd' hu I h
end
theorem join_word {prog : Program} {w : World} {A : Around} {E : Value → Shared → Prop} {s : Shared} {Q : Value → Shared → Prop} {D : Addr} {vs : List Value} {cs : List Nat} {t : Tok} {x : Str} (hl : s.heap.IsList D vs.toArray) (hs : StrsAre vs (cs.map one)) (hn : cs.length ≤ 1000)
    (h : ∀ t' k, Q (.str (S cs) t') { s with toks := k }) (hx : x = Str.ofString "") : wpAny (model prog w) A (call (.builtin "str.join") [.str x t, .ref D]) Q E s := by
  subst hx
  refine join_listW hl (by simpa using hs) (by decide) ?_ fun t' k => ?_
  · have : ((cs.map one).map (·.length)).sum = cs.length := by
      clear hs hn h
      induction cs with
      | nil => rfl
      | cons c cs ih =>
        simp only [List.map_cons, List.sum_cons, List.length_cons, ih]
        have : (one c).length = 1 := rfl
        omega
    rw [this, List.length_map]
    omega
  · rw [join_ones]
    exact h t' k
end Mine
end
noncomputable section
open PySem PySem.W PyProof.Rows
set_option maxRecDepth 100000
namespace Mine
theorem price_subc : ∀ a ∈ codes, ∀ b ∈ codes, price a b = subc (one a) (one b) := by decide +kernel
theorem lall_cons (x y : Nat) (l k : List Nat) : lall (x :: l) (y :: k) = min (min (2 + lall l (y :: k)) (2 + lall (x :: l) k)) (price x y + lall l k) := by rw [lall]
theorem lall_left (x : Nat) (l k : List Nat) : lall (x :: l) k ≤ 2 + lall l k := by
  cases k with
  | nil => rw [lall_nil2, lall_nil2]; simp only [List.length_cons]; omega
  | cons y k => rw [lall_cons]; omega
theorem lall_right (y : Nat) (l k : List Nat) : lall l (y :: k) ≤ 2 + lall l k := by
  cases l with
  | nil => rw [lall_nil, lall_nil]; simp only [List.length_cons]; omega
  | cons x l => rw [lall_cons]; omega
theorem lall_le : ∀ (cs : List Col) (l k : List Nat), Word l → Word k → Ali l k cs → lall l k ≤ csum cs := by
  intro cs
  induction cs with
  | nil =>
    intro l k hl hk h
    obtain ⟨h1, h2, _⟩ := h
    simp at h1 h2
    subst h1 h2
    rw [lall_nil]
    simp [csum]
  | cons c cs ih =>
    intro l k hl hk h
    obtain ⟨h1, h2, h3⟩ := h
    have h3' : ∀ c ∈ cs, c ≠ (none, none) := fun c hc => h3 c (.tail _ hc)
    rw [csum_cons]
    obtain ⟨a, b⟩ := c
    cases a with
    | none =>
      cases b with
      | none => exact absurd rfl (h3 _ (.head _))
      | some b =>
        simp only [List.filterMap_cons] at h1 h2
        subst h1 h2
        have := ih _ _ hl hk.tail ⟨rfl, rfl, h3'⟩
        have := lall_right b (List.filterMap (·.1) cs) (List.filterMap (·.2) cs)
        show _ ≤ (2 : Int) + _
        omega
    | some a =>
      cases b with
      | none =>
        simp only [List.filterMap_cons] at h1 h2
        subst h1 h2
        have := ih _ _ hl.tail hk ⟨rfl, rfl, h3'⟩
        have := lall_left a (List.filterMap (·.1) cs) (List.filterMap (·.2) cs)
        show _ ≤ (2 : Int) + _
        omega
      | some b =>
        simp only [List.filterMap_cons] at h1 h2
        subst h1 h2
        have := ih _ _ hl.tail hk.tail ⟨rfl, rfl, h3'⟩
        have hp := price_subc a hl.head b hk.head
        rw [lall_cons]
        show _ ≤ subc _ _ + _
        omega
theorem ali_left {l k : List Nat} {cs : List Col} (x : Nat) (h : Ali l k cs) : Ali (x :: l) k ((some x, none) :: cs) := by
  refine ⟨by rw [← h.lefts]; rfl, by rw [← h.rights]; rfl, ?_⟩
  intro c hc
  rcases List.mem_cons.mp hc with rfl | hc
  · simp
  · exact h.nn c hc
theorem ali_right {l k : List Nat} {cs : List Col} (y : Nat) (h : Ali l k cs) : Ali l (y :: k) ((none, some y) :: cs) := by
  refine ⟨by rw [← h.lefts]; rfl, by rw [← h.rights]; rfl, ?_⟩
  intro c hc
  rcases List.mem_cons.mp hc with rfl | hc
  · simp
  · exact h.nn c hc
theorem ali_both {l k : List Nat} {cs : List Col} (x y : Nat) (h : Ali l k cs) : Ali (x :: l) (y :: k) ((some x, some y) :: cs) := by
  refine ⟨by rw [← h.lefts]; rfl, by rw [← h.rights]; rfl, ?_⟩
  intro c hc
  rcases List.mem_cons.mp hc with rfl | hc
  · simp
  · exact h.nn c hc
theorem lall_ex : ∀ (n : Nat) (l k : List Nat), l.length + k.length ≤ n → Word l → Word k → ∃ cs, Ali l k cs ∧ csum cs = lall l k := by
  intro n
  induction n with
  | zero =>
    intro l k hn hl hk
    have h1 : l = [] := List.length_eq_zero_iff.mp (by omega)
    have h2 : k = [] := List.length_eq_zero_iff.mp (by omega)
    subst h1 h2
    exact ⟨[], ⟨rfl, rfl, fun _ h => nomatch h⟩, by rw [lall_nil]; rfl⟩
  | succ n ih =>
    intro l k hn hl hk
    cases l with
    | nil =>
      cases k with
      | nil => exact ⟨[], ⟨rfl, rfl, fun _ h => nomatch h⟩, by rw [lall_nil]; rfl⟩
      | cons y k =>
        obtain ⟨cs, h1, h2⟩ := ih [] k (by simp at hn ⊢; omega) hl hk.tail
        refine ⟨_, ali_right y h1, ?_⟩
        rw [csum_cons, h2, lall_nil, lall_nil]
        show (2 : Int) + _ = _
        simp only [List.length_cons]; omega
    | cons x l =>
      cases k with
      | nil =>
        obtain ⟨cs, h1, h2⟩ := ih l [] (by simp at hn ⊢; omega) hl.tail hk
        refine ⟨_, ali_left x h1, ?_⟩
        rw [csum_cons, h2, lall_nil2, lall_nil2]
        show (2 : Int) + _ = _
        simp only [List.length_cons]; omega
      | cons y k =>
        simp only [List.length_cons] at hn
        obtain ⟨c1, a1, e1⟩ := ih l (y :: k) (by simp; omega) hl.tail hk
        obtain ⟨c2, a2, e2⟩ := ih (x :: l) k (by simp; omega) hl hk.tail
        obtain ⟨c3, a3, e3⟩ := ih l k (by omega) hl.tail hk.tail
        have hp := price_subc x hl.head y hk.head
        have h1 := csum_cons (some x, none) c1
        have h2 := csum_cons (none, some y) c2
        have h3 := csum_cons (some x, some y) c3
        have s1 : sc (some x, none) = 2 := rfl
        have s2 : sc (none, some y) = 2 := rfl
        have s3 : sc (some x, some y) = subc (one x) (one y) := rfl
        rw [lall_cons]
        by_cases g1 : 2 + lall l (y :: k) ≤ 2 + lall (x :: l) k ∧ 2 + lall l (y :: k) ≤ price x y + lall l k
        · exact ⟨_, ali_left x a1, by omega⟩
        · by_cases g2 : 2 + lall (x :: l) k ≤ price x y + lall l k
          · exact ⟨_, ali_right y a2, by omega⟩
          · exact ⟨_, ali_both x y a3, by omega⟩
theorem csum_snoc' (cs : List Col) (c : Col) : csum (cs ++ [c]) = csum cs + sc c := by simp [csum]
theorem take_snoc {l : List Nat} {i : Nat} {r : List Nat} {x : Nat} (hi : i ≤ l.length) (h : r ++ [x] = l.take i) : ∃ a, a + 1 = i ∧ r = l.take a ∧ x = l.getD a 0 := by
  cases i with
  | zero => simp at h
  | succ a =>
    have ha : a < l.length := by omega
    rw [List.take_succ_eq_append_getElem ha] at h
    have h' := List.append_inj' h rfl
    refine ⟨a, rfl, h'.1, ?_⟩
    have := List.singleton_inj.mp h'.2
    rw [this]
    simp [ha]
theorem dpt_left {l k : List Nat} (i j : Nat) : dpt l k (i + 1) j ≤ dpt l k i j + 2 := by
  cases j with
  | zero => rw [dpt]; omega
  | succ j => conv => lhs; rw [dpt]
              omega
theorem dpt_right {l k : List Nat} (i j : Nat) : dpt l k i (j + 1) ≤ dpt l k i j + 2 := by
  cases i with
  | zero => rw [dpt]; omega
  | succ i => conv => lhs; rw [dpt]
              omega
theorem dpt_both {l k : List Nat} (i j : Nat) : dpt l k (i + 1) (j + 1) ≤ dpt l k i j + subc (one (l.getD i 0)) (one (k.getD j 0)) := by
  conv => lhs; rw [dpt]
  omega
theorem dpt_le (l k : List Nat) : ∀ (n : Nat) (cs : List Col) (i j : Nat), cs.length = n → i ≤ l.length → j ≤ k.length → Ali (l.take i) (k.take j) cs → dpt l k i j ≤ csum cs := by
  intro n
  induction n with
  | zero =>
    intro cs i j hn hi hj h
    obtain rfl : cs = [] := List.length_eq_zero_iff.mp hn
    obtain ⟨h1, h2, _⟩ := h
    have e1 := congrArg List.length h1
    have e2 := congrArg List.length h2
    simp at e1 e2
    have : i = 0 := by omega
    have : j = 0 := by omega
    subst i j
    rw [dpt]
    simp [csum]
  | succ n ih =>
    intro cs i j hn hi hj h
    have hne : cs ≠ [] := fun e => by rw [e] at hn; cases hn
    obtain ⟨cs', c, rfl⟩ : ∃ cs' c, cs = cs' ++ [c] := ⟨cs.dropLast, cs.getLast hne, (List.dropLast_concat_getLast hne).symm⟩
    simp only [List.length_append, List.length_cons, List.length_nil] at hn
    obtain ⟨h1, h2, h3⟩ := h
    have h3' : ∀ c ∈ cs', c ≠ (none, none) := fun c hc => h3 c (List.mem_append.mpr (.inl hc))
    have h3c : c ≠ (none, none) := h3 c (List.mem_append.mpr (.inr (.head _)))
    rw [csum_snoc']
    rw [List.filterMap_append] at h1 h2
    obtain ⟨a, b⟩ := c
    cases a with
    | none =>
      cases b with
      | none => exact absurd rfl h3c
      | some b =>
        simp only [List.filterMap_cons, List.filterMap_nil, List.append_nil] at h1 h2
        obtain ⟨b', rfl, e1, e2⟩ := take_snoc hj h2
        have := ih cs' i b' (by omega) hi (by omega) ⟨h1, e1, h3'⟩
        have := dpt_right (l := l) (k := k) i b'
        show _ ≤ _ + (2 : Int)
        omega
    | some a =>
      cases b with
      | none =>
        simp only [List.filterMap_cons, List.filterMap_nil, List.append_nil] at h1 h2
        obtain ⟨a', rfl, e1, e2⟩ := take_snoc hi h1
        have := ih cs' a' j (by omega) (by omega) hj ⟨e1, h2, h3'⟩
        have := dpt_left (l := l) (k := k) a' j
        show _ ≤ _ + (2 : Int)
        omega
      | some b =>
        simp only [List.filterMap_cons, List.filterMap_nil, List.append_nil] at h1 h2
        obtain ⟨a', rfl, e1, e2⟩ := take_snoc hi h1
        obtain ⟨b', rfl, e3, e4⟩ := take_snoc hj h2
        have := ih cs' a' b' (by omega) (by omega) (by omega) ⟨e1, e3, h3'⟩
        have := dpt_both (l := l) (k := k) a' b'
        show _ ≤ _ + subc (one a) (one b)
        rw [e2, e4]
        omega
theorem lall_dpt_of {l k : List Nat} (hl : Word l) (hk : Word k) {col : List Col} (hA : Ali l k col) (hc : csum col = dpt l k l.length k.length) : lall l k = dpt l k l.length k.length := by
  have h1 := lall_le col l k hl hk hA
  obtain ⟨cs, h2, h3⟩ := lall_ex _ l k (Nat.le_refl _) hl hk
  have h4 := dpt_le l k _ cs l.length k.length rfl (Nat.le_refl _) (Nat.le_refl _) (by rw [List.take_length, List.take_length]; exact h2)
  omega
end Mine
end
noncomputable section
open PySem PySem.W PySem.Calls PyProof.Rows PyProof.V PySem.Spec
set_option maxRecDepth 100000
namespace Mine
section
variable {prog : Program} {w : World} {A : Around} {E : Value → Shared → Prop} {s : Shared} {env : Env} {h₀ : Heap} {target : PySem.Expr} {body : List Stmt} {Q : Flow → Shared → Prop}
/-- a loop over a list of the ledger by an invariant, for any target -/
theorem turns_ind {ax : Addr} {lo : Obj} {vs : List Value} {n : Nat} {m₀ : Str → Option Value} {news : Led} (J : Nat → (Str → Option Value) → Led → Prop)
    (hh : A.handled = none) (F : Fr h₀ env.locals s.heap m₀) (N : News h₀ env.locals s.heap news) (hm : (ax, lo) ∈ news) (hc : lo.cls = .type "list") (hd : lo.data = .seq vs.toArray n)
    (h0 : J 0 m₀ news)
    (turn : ∀ i v m nw h tk I o, vs[i]? = some v → (∀ p ∈ news, p.1 < I) → o.cls = .type "list_iterator" → J i m nw → Fr h₀ env.locals h m → News h₀ env.locals h ((I, o) :: nw) →
      wpAny (model prog w) A (assign target env v) (fun _ s₂ => wpAny (model prog w) A (execs body env) (UnrPostW h₀ env.locals { s with heap := h, toks := tk } [(I, o)] (fun m' n' => SubL [(ax, lo)] n' ∧ J (i + 1) m' n') Q) E s₂) E { s with heap := h, toks := tk })
    (fin : ∀ m nw h tk, J vs.length m nw → Fr h₀ env.locals h m → News h₀ env.locals h nw → Q .next { s with heap := h, toks := tk }) :
    wpAny (model prog w) A (pyIter (.ref ax)) (fun it s₂ => TurnsAt prog w A h₀ env target body Q E it s₂) E s := by
  refine iter_listTurns hh F N hm hc hd fun I hI => ?_
  have all : ∀ (r : List Value) (i : Nat) (m : Str → Option Value) (nw : Led), i + r.length = vs.length → vs.drop i = r → J i m nw → ItemsRest prog w A E h₀ env target body Q s [(I, "list_iterator")] [(ax, lo)] (r.map .val) m nw := by
    intro r
    induction r with
    | nil =>
      intro i m nw hl e hJ h tk F₁ N₁
      simp only [List.length_nil, Nat.add_zero] at hl
      subst hl
      exact fin m nw h tk hJ F₁ N₁
    | cons v r ih =>
      intro i m nw hl e hJ v' h tk hv F₁ o ho N₁
      obtain rfl : v' = v := hv
      simp only [List.length_cons] at hl
      have hget : vs[i]? = some v' := by
        have h1 : (vs.drop i)[0]? = some v' := by rw [e]; rfl
        simpa using h1
      refine wpAny_mono (turn i v' m nw h tk I o hget hI ho hJ F₁ N₁) (fun _ s₂ h₂ => wpAny_mono h₂ (fun f s₃ h₃ => ?_) fun _ _ e => e) fun _ _ e => e
      have key : UnrEndW h₀ env.locals { s with heap := h, toks := tk } [(I, o)] (fun m' n' => SubL [(ax, lo)] n' ∧ J (i + 1) m' n') s₃ → UnrEndW h₀ env.locals { s with heap := h, toks := tk } ([(I, o)] ++ []) (fun m' n' => SubL [(ax, lo)] n' ∧ ItemsRest prog w A E h₀ env target body Q s [(I, "list_iterator")] [(ax, lo)] (r.map .val) m' n') s₃ := by
        rintro ⟨h', tk', m', n', e', F', N', off, hs, hJ'⟩
        refine ⟨h', tk', m', n', e', F', N', off, hs, ih (i + 1) m' n' (by omega) ?_ hJ'⟩
        rw [← List.drop_drop, e]
        rfl
      cases f with
      | ret v => exact h₃
      | brk => exact h₃
      | next => exact key h₃
      | cont => exact key h₃
  exact all vs 0 m₀ news (by simp) rfl h0
end
end Mine
end
noncomputable section
open PySem PySem.W PySem.Calls PyProof.Rows PyProof.V PySem.Spec
set_option maxRecDepth 100000
namespace Mine
def wI (a : Nat) : Int := cells (one a)
/-- the width of a column -/
def wd : Col → Int
  | (some a, some b) => max (wI a) (wI b)
  | (some a, none) => wI a
  | (none, some b) => wI b
  | (none, none) => 0
def pad (a : Option Nat) (n : Int) : List Nat := match a with
  | some a => a :: List.replicate (n - wI a).toNat 32
  | none => List.replicate n.toNat 32
def topOf (cs : List Col) : List Nat := cs.flatMap fun c => pad c.1 (wd c)
def lowOf (cs : List Col) : List Nat := cs.flatMap fun c => pad c.2 (wd c)
def wsz (cs : List Col) : Int := (cs.map wd).sum
/-- a starts entry -/
structure St3 where
  i : Int
  j : Int
  w : Int
inductive StsIn (led : Led) : List Value → List St3 → Prop
  | nil : StsIn led [] []
  | cons {a : Addr} {o : Obj} {x : St3} {t u v : Tok} {vs : List Value} {cs : List St3} : (a, o) ∈ led → TupO o [.int x.i t, .int x.j u, .int x.w v] → StsIn led vs cs → StsIn led (.ref a :: vs) (x :: cs)
theorem StsIn.mono {led led' : Led} {vs : List Value} {cs : List St3} (h : StsIn led vs cs) (sub : ∀ p ∈ led, p ∈ led') : StsIn led' vs cs := by
  induction h with
  | nil => exact .nil
  | cons h1 h2 _ ih => exact .cons (sub _ h1) h2 ih
theorem StsIn.snoc {led : Led} {vs : List Value} {cs : List St3} (h : StsIn led vs cs) {a : Addr} {o : Obj} {x : St3} {t u v : Tok} (h1 : (a, o) ∈ led) (h2 : TupO o [.int x.i t, .int x.j u, .int x.w v]) : StsIn led (vs ++ [.ref a]) (cs ++ [x]) := by
  induction h with
  | nil => exact .cons h1 h2 .nil
  | cons h3 h4 _ ih => exact .cons h3 h4 ih
theorem StsIn.length {led : Led} {vs : List Value} {cs : List St3} (h : StsIn led vs cs) : vs.length = cs.length := by
  induction h with
  | nil => rfl
  | cons _ _ _ ih => simp [ih]
def stOf (cs : List Col) : St3 := ⟨(topOf cs).length, (lowOf cs).length, wsz cs⟩
def stsOf (cs : List Col) (n : Nat) : List St3 := (List.range n).map fun i => stOf (cs.take i)
theorem stsOf_succ (cs : List Col) (n : Nat) : stsOf cs (n + 1) = stsOf cs n ++ [stOf (cs.take n)] := by
  unfold stsOf
  rw [List.range_succ, List.map_append]
  rfl
theorem take_succ {cs : List Col} {i : Nat} {c : Col} (h : cs[i]? = some c) : cs.take (i + 1) = cs.take i ++ [c] := by
  rw [List.take_add_one, h]
  rfl
theorem topOf_snoc (cs : List Col) (c : Col) : topOf (cs ++ [c]) = topOf cs ++ pad c.1 (wd c) := by simp [topOf]
theorem lowOf_snoc (cs : List Col) (c : Col) : lowOf (cs ++ [c]) = lowOf cs ++ pad c.2 (wd c) := by simp [lowOf]
theorem wsz_snoc (cs : List Col) (c : Col) : wsz (cs ++ [c]) = wsz cs + wd c := by simp [wsz]
theorem csum_snoc (cs : List Col) (c : Col) : csum (cs ++ [c]) = csum cs + sc c := by simp [csum]
theorem wI_is (a : Nat) : wI a = 1 ∨ wI a = 2 := by
  unfold wI cells
  split
  · exact .inr rfl
  · exact .inl rfl
theorem wd_le (c : Col) : 0 ≤ wd c ∧ wd c ≤ 2 := by
  obtain ⟨a, b⟩ := c
  cases a <;> cases b <;> simp only [wd]
  · omega
  · rename_i b; have := wI_is b; omega
  · rename_i a; have := wI_is a; omega
  · rename_i a b; have := wI_is a; have := wI_is b; omega
theorem pad_len (a : Option Nat) (c : Col) : (pad a (wd c)).length ≤ 3 := by
  have h := wd_le c
  cases a with
  | none => simp only [pad, List.length_replicate]; omega
  | some a => have := wI_is a; simp only [pad, List.length_cons, List.length_replicate]; omega
theorem topOf_len (cs : List Col) : (topOf cs).length ≤ 3 * cs.length := by
  induction cs with
  | nil => simp [topOf]
  | cons c cs ih =>
    have := pad_len c.1 c
    simp only [topOf, List.flatMap_cons, List.length_append, List.length_cons] at ih ⊢
    omega
theorem lowOf_len (cs : List Col) : (lowOf cs).length ≤ 3 * cs.length := by
  induction cs with
  | nil => simp [lowOf]
  | cons c cs ih =>
    have := pad_len c.2 c
    simp only [lowOf, List.flatMap_cons, List.length_append, List.length_cons] at ih ⊢
    omega
theorem wsz_len (cs : List Col) : 0 ≤ wsz cs ∧ wsz cs ≤ 2 * cs.length := by
  induction cs with
  | nil => simp [wsz]
  | cons c cs ih =>
    have := wd_le c
    simp only [wsz, List.map_cons, List.sum_cons, List.length_cons] at ih ⊢
    omega
theorem ColsIn.get {led : Led} {vs : List Value} {cs : List Col} (h : ColsIn led vs cs) : ∀ {i : Nat} {v : Value}, vs[i]? = some v → ∃ T o x y p q, v = .ref T ∧ (T, o) ∈ led ∧ TupO o [x, y] ∧ OptV x p ∧ OptV y q ∧ cs[i]? = some (p, q) := by
  induction h with
  | nil => intro i v hv; simp at hv
  | cons h1 h2 h3 h4 _ ih =>
    intro i v hv
    cases i with
    | zero => simp at hv; exact ⟨_, _, _, _, _, _, hv.symm, h1, h2, h3, h4, rfl⟩
    | succ i => exact ih (by simpa using hv)
end Mine
namespace Mine
/-- what holds after i columns -/
def JL (base : Led) (st : Addr) (l k : List Nat) (D : Int) (col : List Col) (i : Nat) (m : Str → Option Value) (nw : Led) : Prop :=
  ∃ sts e t1 t2 t3 t4 t5 t6 t7 rest, nw = (st, listOf (List.toArray sts) e) :: rest ∧ (∀ p ∈ base, p ∈ rest) ∧ (∀ p ∈ rest, p.1 ≠ st) ∧ (∀ p ∈ rest, p ∈ base ∨ p.2.cls = .type "tuple") ∧ StsIn rest sts (stsOf col i) ∧
    ∀ p ∈ [(Str.ofString "top", Value.str (S (topOf (col.take i))) t1), (Str.ofString "low", .str (S (lowOf (col.take i))) t2), (Str.ofString "cost", .int (csum (col.take i)) t3), (Str.ofString "cells", .int (wsz (col.take i)) t4), (Str.ofString "starts", .ref st),
      (Str.ofString "first", .str (S l) t5), (Str.ofString "second", .str (S k) t6), (Str.ofString "due", .int D t7)], m p.1 = some p.2
abbrev JLof {l k : List Nat} {col : List Col} (_ : Ali l k col) {D D2 : Int} (_ : D = D2) {h₀ h : Heap} {L st : Addr} {o : Obj} {base : Led} (_ : News h₀ L h ((st, o) :: base)) := JL base st l k D col
theorem mem2 {h₀ h : Heap} {L : Addr} {a b z : Addr × Obj} {rest : Led} (_ : News h₀ L h (a :: b :: rest)) (hz : z ∈ rest) : z ∈ a :: b :: rest := .tail _ (.tail _ hz)
theorem top_small {l k : List Nat} {col : List Col} (h : Ali l k col) {i : Nat} (hl : l.length ≤ 4) (hk : k.length ≤ 4) : (topOf (col.take i)).length ≤ 1000 := by
  have h1 := h.len
  have h2 := topOf_len (col.take i)
  rw [List.length_take] at h2
  omega
theorem low_small {l k : List Nat} {col : List Col} (h : Ali l k col) {i : Nat} (hl : l.length ≤ 4) (hk : k.length ≤ 4) : (lowOf (col.take i)).length ≤ 1000 := by
  have h1 := h.len
  have h2 := lowOf_len (col.take i)
  rw [List.length_take] at h2
  omega
end Mine
namespace Mine
theorem sts_append {prog : Program} {w : World} {A : Around} {E : Value → Shared → Prop} {s : Shared} {h₀ : Heap} {L st t I : Addr} {m : Str → Option Value} {ot oI : Obj} {vs : List Value} {e : Nat} {rest : Led} {y : Value} {Q : Value → Shared → Prop}
    (F : Fr h₀ L s.heap m) (N : News h₀ L s.heap ((t, ot) :: (I, oI) :: (st, listOf vs.toArray e) :: rest)) (h1 : t ≠ st) (h2 : I ≠ st) (hne : ∀ p ∈ rest, p.1 ≠ st) (hn : vs.length ≤ 5000)
    (h : ∀ h', Fr h₀ L h' m → News h₀ L h' ((t, ot) :: (I, oI) :: (st, listOf (vs ++ [y]).toArray (e + 1)) :: rest) → Q .none { s with heap := h' }) :
    wpAny (model prog w) A (call (.builtin "list.append") [.ref st, y]) Q E s :=
  append_K F N (Upd.tail h1 (Upd.tail h2 (Upd.head hne))) (fun h' F' N' => h h' F' (by simpa using N')) (by rw [sizeLine_eq]; simp; omega)
end Mine
namespace Mine
theorem jl_end {h₀ h' : Heap} {L st I T0 : Addr} {s₁ : Shared} {tk : Nat} {o oT : Obj} {q : Addr × Obj} {base rest LED : Led} {l k : List Nat} {D : Int} {col : List Col} {i e : Nat} {sts : List Value} {m' : Str → Option Value} {c : Col} {i1 i2 i3 x3 x4 : Int} {x1 x2 : List Nat} {u1 u2 u3 t1 t2 t3 t4 t5 t6 t7 : Tok}
    (F : Fr h₀ L h' m') (N : News h₀ L h' LED) (hIm : (I, o) ∈ LED) (hsm : (st, listOf (List.toArray (sts ++ [Value.ref T0])) e) ∈ LED) (hTm : (T0, oT) ∈ LED) (hsub : ∀ p ∈ rest, p ∈ LED)
    (hcI : o.cls = .type "list_iterator") (hIb : ∀ p ∈ (st, listOf #[] 0) :: base, p.1 < I) (hT : TupO oT [.int i1 u1, .int i2 u2, .int i3 u3]) (hT0 : T0 ≠ st)
    (hb : ∀ p ∈ base, p ∈ rest) (hne : ∀ p ∈ rest, p.1 ≠ st) (hcls : ∀ p ∈ rest, p ∈ base ∨ p.2.cls = .type "tuple") (hS : StsIn rest sts (stsOf col i)) (hcol : col[i]? = some c) (hq : q ∈ base)
    (e1 : i1 = (topOf (col.take i)).length) (e2 : i2 = (lowOf (col.take i)).length) (e3 : i3 = wsz (col.take i))
    (f1 : m' (Str.ofString "top") = some (.str (S x1) t1)) (f2 : m' (Str.ofString "low") = some (.str (S x2) t2)) (f3 : m' (Str.ofString "cost") = some (.int x3 t3)) (f4 : m' (Str.ofString "cells") = some (.int x4 t4))
    (f5 : m' (Str.ofString "starts") = some (.ref st)) (f6 : m' (Str.ofString "first") = some (.str (S l) t5)) (f7 : m' (Str.ofString "second") = some (.str (S k) t6)) (f8 : m' (Str.ofString "due") = some (.int D t7))
    (g1 : x1 = topOf (col.take i) ++ pad c.1 (wd c)) (g2 : x2 = lowOf (col.take i) ++ pad c.2 (wd c)) (g3 : x3 = csum (col.take i) + sc c) (g4 : x4 = wsz (col.take i) + wd c) :
    UnrEndW h₀ L s₁ [(I, o)] (fun m' n' => SubL [q] n' ∧ JL base st l k D col (i + 1) m' n') { s₁ with heap := h', toks := tk } := by
  subst e1 e2 e3 g1 g2 g3 g4
  have ht := take_succ hcol
  have hcT : oT.cls = .type "tuple" := by obtain ⟨n, rfl⟩ := hT; rfl
  have notI : ∀ p ∈ LED, p.2.cls = .type "tuple" → p.1 ≠ I := by
    intro p hp hc hpI
    have h1 := (N p hp).1
    have h2 := (N _ hIm).1
    simp only at h2
    rw [hpI, h2] at h1
    have h3 := Option.some.inj h1
    rw [← h3, hcI] at hc
    exact absurd hc (by decide)
  refine ⟨h', tk, m', (st, listOf (List.toArray (sts ++ [Value.ref T0])) e) :: (T0, oT) :: rest, rfl, F, ?_, ?_, ⟨.tail _ (.tail _ (hb _ hq)), trivial⟩, ?_⟩
  · intro p hp
    simp only [List.cons_append, List.nil_append, List.mem_cons] at hp
    rcases hp with rfl | rfl | rfl | hp
    · exact N _ hIm
    · exact N _ hsm
    · exact N _ hTm
    · exact N _ (hsub p hp)
  · intro p hp z hz
    obtain rfl := List.mem_singleton.mp hz
    simp only [List.mem_cons] at hp
    rcases hp with rfl | rfl | hp
    · exact Nat.ne_of_lt (hIb (st, listOf #[] 0) (.head _))
    · exact notI _ hTm hcT
    · rcases hcls p hp with h | h
      · exact Nat.ne_of_lt (hIb _ (.tail _ h))
      · exact notI _ (hsub p hp) h
  · refine ⟨_, e, t1, t2, t3, t4, t5, t6, t7, (T0, oT) :: rest, rfl, fun p hp => .tail _ (hb p hp), ?_, ?_, ?_, ?_⟩
    · intro p hp
      rcases List.mem_cons.mp hp with rfl | hp
      · exact hT0
      · exact hne p hp
    · intro p hp
      rcases List.mem_cons.mp hp with rfl | hp
      · exact .inr hcT
      · exact hcls p hp
    · rw [stsOf_succ]
      exact (hS.mono fun _ h => .tail _ h).snoc (x := stOf (col.take i)) (.head _) hT
    · intro p hp
      rw [ht, topOf_snoc, lowOf_snoc, csum_snoc, wsz_snoc] at hp
      simp only [List.mem_cons, List.not_mem_nil, or_false] at hp
      rcases hp with rfl | rfl | rfl | rfl | rfl | rfl | rfl | rfl <;> assumption
end Mine
namespace Mine
section
variable {prog : Program} {w : World} {A : Around} {E : Value → Shared → Prop} {s : Shared} {h₀ : Heap} {L a : Addr} {m : Str → Option Value} {LED : Led}
theorem wide_max1 {x : Int} {t : Tok} {Q : Value → Shared → Prop} (hh : A.handled = none) (F : Fr h₀ L s.heap m) (N : News h₀ L s.heap LED) (ha : (a, LCg.lst [.int x t]) ∈ LED)
    (h : ∀ h' t tk, Fr h₀ L h' m → News h₀ L h' LED → Q (.int x t) { s with heap := h', toks := tk }) : wpAny (model prog w) A (call (.builtin "max") [.ref a]) Q E s := by
  refine max_list_N hh F N (N.isList ha) (.cons x t .nil) (by simp) fun h' M t' tk F' N' hM _ => ?_
  have : M = x := by simpa using hM
  subst this
  exact h h' t' tk F' N'
theorem wide_max2 {x y : Int} {t u : Tok} {Q : Value → Shared → Prop} (hh : A.handled = none) (F : Fr h₀ L s.heap m) (N : News h₀ L s.heap LED) (ha : (a, LCg.lst [.int x t, .int y u]) ∈ LED)
    (h : ∀ h' t tk, Fr h₀ L h' m → News h₀ L h' LED → Q (.int (max x y) t) { s with heap := h', toks := tk }) : wpAny (model prog w) A (call (.builtin "max") [.ref a]) Q E s := by
  refine max_list_N hh F N (N.isList ha) (.cons x t (.cons y u .nil)) (by simp) fun h' M t' tk F' N' hM hle => ?_
  have h1 := hle x (by simp)
  have h2 := hle y (by simp)
  simp only [List.mem_cons, List.not_mem_nil, or_false] at hM
  have : M = max x y := by omega
  subst this
  exact h h' t' tk F' N'
theorem blanks {n : Int} {t u : Tok} {x : Str} {Q : Value → Shared → Prop} (h0 : 0 ≤ n) (h1 : n ≤ 2) (hx : x = Str.ofString " ") (h : ∀ t' k, Q (.str (S (List.replicate n.toNat 32)) t') { s with toks := k }) :
    wpAny (model prog w) A (binaryOp .Mult (.str x t) (.int n u)) Q E s := by
  subst hx
  refine SB.mul (mulOk_of 16 16 (by decide) (by omega) (by omega) (by decide) (by decide)) fun t' k => ?_
  have e : Txt.mul (Str.ofString " ") n = S (List.replicate n.toNat 32) := by
    have : n = 0 ∨ n = 1 ∨ n = 2 := by omega
    rcases this with rfl | rfl | rfl <;> decide
  rw [e]
  exact h t' k
theorem S_app (l k : List Nat) : S l ++ S k = S (l ++ k) := by
  apply congrArg Str.mk
  simp
theorem add_S {l k : List Nat} {t u : Tok} {Q : Value → Shared → Prop} (hl : l.length ≤ 1000) (hk : k.length ≤ 1000) (h : ∀ t' k', Q (.str (S (l ++ k)) t') { s with toks := k' }) :
    wpAny (model prog w) A (binaryOp .Add (.str (S l) t) (.str (S k) u)) Q E s :=
  SB.add (fun t' k' => by rw [S_app]; exact h t' k') (by rw [S_len, S_len, sizeLine_eq]; omega)
theorem add_E {k : List Nat} {t u : Tok} {x : Str} {Q : Value → Shared → Prop} (hx : x = Str.ofString "") (hk : k.length ≤ 1000) (h : ∀ t' k', Q (.str (S k) t') { s with toks := k' }) :
    wpAny (model prog w) A (binaryOp .Add (.str x t) (.str (S k) u)) Q E s := by
  subst hx
  have e : Str.ofString "" = S [] := by decide
  rw [e]
  exact add_S (by simp) hk h
theorem iadd_S {l k : List Nat} {t u : Tok} {Q : Value → Shared → Prop} (hl : l.length ≤ 1000) (hk : k.length ≤ 1000) (h : ∀ t' k', Q (.str (S (l ++ k)) t') { s with toks := k' }) :
    wpAny (model prog w) A (inplaceOp .Add (.str (S l) t) (.str (S k) u)) Q E s :=
  SB.iadd (fun t' k' => by rw [S_app]; exact h t' k') (by rw [S_len, S_len, sizeLine_eq]; omega)
end
theorem cells_is (a : Nat) : 1 ≤ cells (one a) ∧ cells (one a) ≤ 2 := by
  have := wI_is a
  unfold wI at this
  omega
theorem rep_small {n : Int} (h : n ≤ 2) : (List.replicate n.toNat 32).length ≤ 1000 := by
  rw [List.length_replicate]
  omega
end Mine
end
noncomputable section
open PySem PySem.W PySem.Calls PyProof.Rows PyProof.V PySem.Spec
set_option maxRecDepth 100000
namespace Mine
section
variable {prog : Program} {w : World} {A : Around} {E : Value → Shared → Prop} {s : Shared} {h₀ : Heap} {L : Addr} {m : Str → Option Value} {env : Env}
/-- a tuple of the ledger, as the source of a comprehension -/
def TupAt (ax : Addr) (its : Array Value) (news : Led) : Prop := ∃ k, (ax, ({ cls := .type "tuple", data := .seq its k } : Obj)) ∈ news
theorem TupAt.tup {h : Heap} {ax : Addr} {its : Array Value} {news : Led} (x : TupAt ax its news) (N : News h₀ L h news) : h.IsTuple ax its := by
  obtain ⟨k, hm⟩ := x
  exact ⟨_, (N _ hm).1, rfl, k, rfl⟩
/-- a comprehension with one test over a tuple of the ledger -/
theorem ListComp_tup {ct elt iter : PySem.Expr} {x : Str} {px : Pos} {scope : Scope} {cl : List (Str × Addr)} {pos : Pos} {Q : Value → Shared → Prop} (_F₀ : Fr h₀ L s.heap m)
    (hclos : closureFor scope env = pure cl) (hcell : ∀ y ∈ scope.names, y.2 ≠ .cell) (hkind : scope.kind = .function)
    (hnames : ∀ y ∈ scope.names, y.2 = .local → scope.names.lookup y.1 = some .local) (hx : scope.names.lookup x = some .local)
    (h : wpAny (model prog w) A (eval iter env) (fun xv s₁ => Halt (∃ ax its news, xv = .ref ax ∧ A.handled = none ∧ Fr h₀ L s₁.heap m ∧ News h₀ L s₁.heap news ∧ TupAt ax its news ∧ its.size ≤ 1000 ∧
      ∀ g, LCt.CompRestT prog w A h₀ L m env ct elt x scope cl { s₁ with heap := g } (TupAt ax its) (fun i v => its[i]? = some v) (LCg.FinE h₀ L m { s₁ with heap := g } Q) its.size 0 [] news)) E s)
    (hs : ∀ x, foldedSetIterable iter env x = pure x := by intro _; rfl) :
    wpAny (model prog w) A (eval (.ListComp elt [⟨.Name x px, iter, [ct], 0⟩] scope pos) env) Q E s := by
  rw [eval_ListComp]
  refine wpAny_comprehension_free (use := none) rfl hs hclos hkind hnames (wpAny_mono h (fun xv s₁ h₁ => ?_) fun _ _ e => e)
  obtain ⟨ax, its, news, rfl, hh, F, N, S, hsz, R⟩ := h₁
  have hl := S.tup N
  have hlt : ax < s₁.heap.objs.size := by obtain ⟨_, e, _⟩ := hl; exact Heap.lt_size e
  refine wpAny_pyIter_tuple hl ?_
  refine LCt.block_T (S := TupAt ax its) (Walks.tuple hh s₁.heap.objs.size ax (Nat.ne_of_lt hlt) its) (by rw [sizeLine_eq]; omega) ?_ ?_ hcell hkind hx ?_ ?_ (F.push _) (N.grown fun _ _ e => Heap.get?_push_of_some _ e) (Nat.ne_of_lt F.ns.lt) (next_is_new F) (fun p hp => Nat.ne_of_lt (Heap.lt_size (N p hp).1)) S (R _) ?_
  · rintro i h ⟨⟨o, e, _⟩, _⟩
    exact ⟨o, e⟩
  · rintro i h h' o nw ⟨⟨o', q, r⟩, _⟩ e e' _ N' S'
    rw [e] at q
    cases q
    exact ⟨⟨_, e', r⟩, S'.tup N'⟩
  · exact ⟨⟨_, Heap.get?_push_size _ rfl, rfl, rfl⟩, S.tup (N.grown fun _ _ e => Heap.get?_push_of_some _ e)⟩
  · intro b hb
    show b < (s₁.heap.push _).objs.size
    rw [Heap.size_push]
    simp only [List.mem_cons, List.not_mem_nil, or_false] at hb
    rcases hb with rfl | rfl
    · exact Nat.lt_succ_self _
    · exact Nat.lt_succ_of_lt hlt
  · intro D C h tk m' ys news' F' N' o1 hn hC₀ hD₀ hCL hDL hCD offC fin
    refine ⟨m', hn, fun h'' hs'' => fin D h'' tk (F'.change hs'' hCL hC₀) (fun p hp => ?_) o1⟩
    have hpC : p.1 ≠ C := by
      rcases List.mem_cons.mp hp with rfl | hp
      · exact Ne.symm hCD
      · exact offC p hp
    exact ⟨hs''.extBut _ _ hpC (N' p hp).1, (N' p hp).2⟩
end
end Mine
end
noncomputable section
open PySem PySem.W PySem.Calls PyProof.Rows PyProof.V PySem.Spec
set_option maxRecDepth 100000
namespace Mine
theorem runs_toks {M : Model} {Γ : PySem.Ctx} {p : Pos} {t : Sem Fin} {fs : List Frame} {s s' : Shared} {e : End} (h : Runs M Γ p t fs s e s') : s.toks ≤ s'.toks := by
  induction h with
  | call _ _ ih1 ih2 => exact Nat.le_trans ih1 ih2
  | resumeFresh _ _ _ _ ih1 ih2 => exact Nat.le_trans ih1 ih2
  | resumeSuspended _ _ _ _ ih1 ih2 => exact Nat.le_trans ih1 ih2
  | segRet _ _ ih1 ih2 => exact Nat.le_trans ih1 ih2
  | segGen _ _ ih1 ih2 => exact Nat.le_trans ih1 ih2
  | segSuspGen _ _ _ _ ih1 ih2 => exact Nat.le_trans ih1 ih2
  | fresh _ ih => exact Nat.le_trans (Nat.le_succ _) ih
  | done => exact Nat.le_refl _
  | raise => exact Nat.le_refl _
  | yield => exact Nat.le_refl _
  | _ => assumption
theorem wakes_toks {M : Model} {Γ : PySem.Ctx} {p : Pos} {g : Nat} {r : Resume} {s s' : Shared} {res : GenResult} (h : Wakes M Γ p g r s res s') : s.toks ≤ s'.toks := by
  unfold Wakes at h
  split at h
  · exact h.elim
  · split at h
    · obtain ⟨e₁, s₁, h1, _, _, rfl⟩ := h
      have h2 := runs_toks h1
      exact h2
    · obtain ⟨_, rfl⟩ := h
      exact Nat.le_refl _
    · obtain ⟨_, rfl⟩ := h
      exact Nat.le_refl _
  · obtain ⟨e₁, s₁, h1, _, _, rfl⟩ := h
    have h2 := runs_toks h1
    exact h2
  · obtain ⟨_, rfl⟩ := h
    exact Nat.le_refl _
  · obtain ⟨_, rfl⟩ := h
    exact Nat.le_refl _
theorem wp_toks {α : Type} {M : Model} {Γ : PySem.Ctx} (t : Sem α) : ∀ {Q : α → Pos → Shared → Prop} {E : Value → Pos → Shared → Prop} {p : Pos} {s : Shared} {n : Nat}, n ≤ s.toks → Sem.wp M Γ t (fun a p' s' => n ≤ s'.toks → Q a p' s') E p s → Sem.wp M Γ t Q E p s := by
  induction t with
  | pure a => intro Q E p s n hn h; rw [Sem.wp] at h ⊢; exact h hn
  | raise e => intro Q E p s n hn h; rw [Sem.wp] at h ⊢; exact h
  | unsupported w => intro Q E p s n hn h; rw [Sem.wp] at h ⊢; exact h
  | finish e => intro Q E p s n hn h; rw [Sem.wp] at h ⊢; exact h
  | rule t k ih => intro Q E p s n hn h; rw [Sem.wp] at h ⊢; exact ih _ hn h
  | «at» q k ih => intro Q E p s n hn h; rw [Sem.wp] at h ⊢; exact ih _ hn h
  | load a q k ih => intro Q E p s n hn h; rw [Sem.wp] at h ⊢; obtain ⟨o, h1, h2⟩ := h; exact ⟨o, h1, ih _ hn h2⟩
  | update a q f k ih => intro Q E p s n hn h; rw [Sem.wp] at h ⊢; exact ⟨h.1, ih _ hn h.2⟩
  | alloc o k ih => intro Q E p s n hn h; rw [Sem.wp] at h ⊢; exact ih _ hn h
  | loadIfAlive a k ih => intro Q E p s n hn h; rw [Sem.wp] at h ⊢; exact ih _ hn h
  | point l k ih => intro Q E p s n hn h; rw [Sem.wp] at h ⊢; exact ih _ hn h
  | register a k ih => intro Q E p s n hn h; rw [Sem.wp] at h ⊢; exact h
  | fresh k ih => intro Q E p s n hn h; rw [Sem.wp] at h ⊢; exact ih _ (Nat.le_succ_of_le hn) h
  | ask k ih => intro Q E p s n hn h; rw [Sem.wp] at h ⊢; exact ih _ hn h
  | choose src m k ih => intro Q E p s n hn h; rw [Sem.wp] at h ⊢; exact ⟨h.1, ih _ hn h.2⟩
  | os q l k ih => intro Q E p s n hn h; rw [Sem.wp] at h ⊢; exact ih _ hn h
  | call c hd g l k ih =>
    intro Q E p s n hn h
    rw [Sem.wp] at h ⊢
    obtain ⟨r, s', h1, h2⟩ := h
    exact ⟨r, s', h1, ih _ (Nat.le_trans hn (runs_toks h1)) h2⟩
  | handled own k ih => intro Q E p s n hn h; rw [Sem.wp] at h ⊢; exact ih _ hn h
  | newGen c k ih => intro Q E p s n hn h; rw [Sem.wp] at h ⊢; exact ih _ hn h
  | genState g k ih => intro Q E p s n hn h; rw [Sem.wp] at h ⊢; obtain ⟨o, h1, h2⟩ := h; exact ⟨o, h1, ih _ hn h2⟩
  | resume g r l k ih =>
    intro Q E p s n hn h
    rw [Sem.wp] at h ⊢
    obtain ⟨res, s', h1, h2⟩ := h
    exact ⟨res, s', h1, ih _ (Nat.le_trans hn (wakes_toks h1)) h2⟩
  | yield v g l k ih => intro Q E p s n hn h; rw [Sem.wp] at h ⊢; exact h
  | stack k ih => intro Q E p s n hn h; rw [Sem.wp] at h ⊢; exact ih _ hn h
  | fork c k ih => intro Q E p s n hn h; rw [Sem.wp] at h ⊢; exact h
  | thread k ih => intro Q E p s n hn h; rw [Sem.wp] at h ⊢; exact ih _ hn h
  | await a t d l k ih => intro Q E p s n hn h; rw [Sem.wp] at h ⊢; exact h
/-- the tokens never grow less: a walk may lean on it -/
theorem wpAny_toks {α : Type} {M : Model} {A : Around} {t : Sem α} {Q : α → Shared → Prop} {E : Value → Shared → Prop} {s : Shared} (h : wpAny M A t (fun a s' => s.toks ≤ s'.toks → Q a s') E s) : wpAny M A t Q E s :=
  fun Γ p hΓ => wp_toks t (Nat.le_refl _) (h Γ p hΓ)
end Mine
end
noncomputable section
open PySem PySem.W PyProof.Rows
set_option maxRecDepth 100000
namespace Mine
theorem wI_cw : ∀ a ∈ codes, wI a = cw a := by decide +kernel
theorem not32 : ∀ a ∈ codes, (a != 32) = true := by decide
def GoodC (c : Col) : Prop := (∀ a, c.1 = some a → a ∈ codes) ∧ (∀ b, c.2 = some b → b ∈ codes)
theorem Ali.good {l k : List Nat} {cs : List Col} (h : Ali l k cs) (hl : Word l) (hk : Word k) : ∀ c ∈ cs, GoodC c := by
  intro c hc
  refine ⟨fun a ha => hl.1 a ?_, fun b hb => hk.1 b ?_⟩
  · rw [← h.lefts]; exact List.mem_filterMap.mpr ⟨c, hc, ha⟩
  · rw [← h.rights]; exact List.mem_filterMap.mpr ⟨c, hc, hb⟩
theorem wsum_app (l k : List Nat) : wsum (l ++ k) = wsum l + wsum k := by simp [wsum]
theorem wsum_blank (n : Nat) : wsum (List.replicate n 32) = n := by
  induction n with
  | zero => rfl
  | succ n ih =>
    rw [List.replicate_succ, show (32 :: List.replicate n 32 : List Nat) = [32] ++ List.replicate n 32 from rfl, wsum_app, ih]
    have : wsum [32] = 1 := by decide
    omega
theorem wsum_pad (a : Option Nat) (n : Int) (hn : 0 ≤ n) (ha : ∀ x, a = some x → x ∈ codes ∧ wI x ≤ n) : wsum (pad a n) = n := by
  cases a with
  | none => rw [pad, wsum_blank]; omega
  | some x =>
    obtain ⟨h1, h2⟩ := ha x rfl
    rw [pad, show (x :: List.replicate (n - wI x).toNat 32 : List Nat) = [x] ++ List.replicate (n - wI x).toNat 32 from rfl, wsum_app, wsum_blank]
    have h3 := wI_cw x h1
    have : wsum [x] = cw x := by simp [wsum]
    omega
theorem wd_fst {c : Col} {a : Nat} (h : c.1 = some a) : wI a ≤ wd c := by
  obtain ⟨p, q⟩ := c
  cases h
  cases q <;> simp only [wd] <;> omega
theorem wd_snd {c : Col} {a : Nat} (h : c.2 = some a) : wI a ≤ wd c := by
  obtain ⟨p, q⟩ := c
  cases h
  cases p <;> simp only [wd] <;> omega
theorem wsum_top {cs : List Col} (h : ∀ c ∈ cs, GoodC c) : wsum (topOf cs) = wsz cs := by
  induction cs with
  | nil => rfl
  | cons c cs ih =>
    have h1 := ih fun c hc => h c (.tail _ hc)
    have h2 := wsum_pad c.1 (wd c) (wd_le c).1 fun x hx => ⟨(h c (.head _)).1 x hx, wd_fst hx⟩
    show wsum (pad c.1 (wd c) ++ topOf cs) = _
    rw [wsum_app, h1, h2]
    simp [wsz]
theorem wsum_low {cs : List Col} (h : ∀ c ∈ cs, GoodC c) : wsum (lowOf cs) = wsz cs := by
  induction cs with
  | nil => rfl
  | cons c cs ih =>
    have h1 := ih fun c hc => h c (.tail _ hc)
    have h2 := wsum_pad c.2 (wd c) (wd_le c).1 fun x hx => ⟨(h c (.head _)).2 x hx, wd_snd hx⟩
    show wsum (pad c.2 (wd c) ++ lowOf cs) = _
    rw [wsum_app, h1, h2]
    simp [wsz]
theorem pad_codes {a : Option Nat} {n : Int} (ha : ∀ x, a = some x → x ∈ codes) : ∀ c ∈ pad a n, c ∈ codesB := by
  intro c hc
  cases a with
  | none => rw [pad] at hc; rw [List.eq_of_mem_replicate hc]; exact .head _
  | some x =>
    rw [pad] at hc
    rcases List.mem_cons.mp hc with rfl | hc
    · exact .tail _ (ha _ rfl)
    · rw [List.eq_of_mem_replicate hc]; exact .head _
theorem top_codes {cs : List Col} (h : ∀ c ∈ cs, GoodC c) : ∀ x ∈ topOf cs, x ∈ codesB := by
  intro x hx
  obtain ⟨c, hc, hx⟩ := List.mem_flatMap.mp hx
  exact pad_codes (h c hc).1 x hx
theorem low_codes {cs : List Col} (h : ∀ c ∈ cs, GoodC c) : ∀ x ∈ lowOf cs, x ∈ codesB := by
  intro x hx
  obtain ⟨c, hc, hx⟩ := List.mem_flatMap.mp hx
  exact pad_codes (h c hc).2 x hx
theorem top_take (cs : List Col) (i : Nat) : (topOf cs).take (topOf (cs.take i)).length = topOf (cs.take i) := by
  conv => lhs; arg 2; rw [← List.take_append_drop i cs, topOf, List.flatMap_append]
  exact List.take_left
theorem low_take (cs : List Col) (i : Nat) : (lowOf cs).take (lowOf (cs.take i)).length = lowOf (cs.take i) := by
  conv => lhs; arg 2; rw [← List.take_append_drop i cs, lowOf, List.flatMap_append]
  exact List.take_left
theorem top_take_le (cs : List Col) (i : Nat) : (topOf (cs.take i)).length ≤ (topOf cs).length := by
  have := congrArg List.length (top_take cs i)
  rw [List.length_take] at this
  omega
theorem low_take_le (cs : List Col) (i : Nat) : (lowOf (cs.take i)).length ≤ (lowOf cs).length := by
  have := congrArg List.length (low_take cs i)
  rw [List.length_take] at this
  omega
theorem pad_filter {a : Option Nat} {n : Int} (ha : ∀ x, a = some x → x ∈ codes) : (pad a n).filter (· != 32) = a.toList := by
  have h : ∀ n : Nat, (List.replicate n 32).filter (· != 32) = ([] : List Nat) := by
    intro n
    induction n with
    | zero => rfl
    | succ n ih => rw [List.replicate_succ, List.filter_cons_of_neg (p := fun y => y != 32) (by decide), ih]
  cases a with
  | none => rw [pad, h]; rfl
  | some x => rw [pad, List.filter_cons_of_pos (p := fun y => y != 32) (not32 x (ha x rfl)), h]; rfl
theorem top_filter {cs : List Col} (h : ∀ c ∈ cs, GoodC c) : (topOf cs).filter (· != 32) = cs.filterMap (·.1) := by
  induction cs with
  | nil => rfl
  | cons c cs ih =>
    have h1 := ih fun c hc => h c (.tail _ hc)
    show List.filter _ (pad c.1 (wd c) ++ topOf cs) = _
    rw [List.filter_append, h1, pad_filter (h c (.head _)).1, List.filterMap_cons]
    cases c.1 <;> rfl
theorem low_filter {cs : List Col} (h : ∀ c ∈ cs, GoodC c) : (lowOf cs).filter (· != 32) = cs.filterMap (·.2) := by
  induction cs with
  | nil => rfl
  | cons c cs ih =>
    have h1 := ih fun c hc => h c (.tail _ hc)
    show List.filter _ (pad c.2 (wd c) ++ lowOf cs) = _
    rw [List.filter_append, h1, pad_filter (h c (.head _)).2, List.filterMap_cons]
    cases c.2 <;> rfl
theorem strike_S (l : List Nat) : Txt.replace (S l) (Str.ofString " ") (Str.ofString "") = S (l.filter (· != 32)) := by
  have e1 : Str.ofString " " = (⟨#[32]⟩ : Str) := by decide
  have e2 : Str.ofString "" = (⟨#[]⟩ : Str) := by decide
  rw [e1, e2]
  have h := replace_strikes (S l) 32
  have h2 : ∀ (x : Str) (r : List Nat), x.cps.toList = r → x = S r := by
    rintro ⟨x⟩ r rfl
    simp
  exact h2 _ _ h
theorem strike_top {l k : List Nat} {cs : List Col} (h : Ali l k cs) (hl : Word l) (hk : Word k) : Txt.replace (S (topOf cs)) (Str.ofString " ") (Str.ofString "") = S l := by
  rw [strike_S, top_filter (h.good hl hk), h.lefts]
theorem strike_low {l k : List Nat} {cs : List Col} (h : Ali l k cs) (hl : Word l) (hk : Word k) : Txt.replace (S (lowOf cs)) (Str.ofString " ") (Str.ofString "") = S k := by
  rw [strike_S, low_filter (h.good hl hk), h.rights]
end Mine
end
noncomputable section
open PySem PySem.W PySem.Calls PyProof.Rows PyProof.V PySem.Spec
set_option maxRecDepth 100000
namespace Mine
abbrev tabO (ps : Array Value) : Obj := { cls := .none, data := .fields ps }
section
variable {prog : Program} {w : World} {A : Around} {E : Value → Shared → Prop} {s : Shared} {env : Env} {hb : Heap} {target : PySem.Expr} {body : List Stmt} {Q : Flow → Shared → Prop}
/-- a loop over a list of the ledger whose turns may run generators: the table P of codes grows, gens change -/
theorem for_bare {ax P : Addr} {lo : Obj} {vs : List Value} {n : Nat} {m : Str → Option Value} {news : Led} {iter : PySem.Expr} {pos : Pos} {s₀ : Shared} {ps₀ : Array Value} (nm : List (Str × Value)) (hh : A.handled = none)
    (F : Fr hb env.locals s.heap m) (N : News hb env.locals s.heap ((P, tabO ps₀) :: news)) (g₀ : AllBare s.gens) (o₀ : s.os = s₀.os) (p₀ : TriplesOk ps₀.toList)
    (hit : wpAny (model prog w) A (eval iter env) (fun xv s₁ => Halt (xv = .ref ax ∧ s₁ = s)) E s)
    (hm : (ax, lo) ∈ news) (hcl : lo.cls = .type "list") (hd : lo.data = .seq vs.toArray n) (hnm : ∀ p ∈ nm, m p.1 = some p.2)
    (turn : ∀ (i : Nat) (v : Value) (I : Addr) (o : Obj) (m₁ : Str → Option Value) (s₁ : Shared) (ps : Array Value), vs[i]? = some v → (∀ p ∈ nm, m₁ p.1 = some p.2) → P < I → Fr hb env.locals s₁.heap m₁ → News hb env.locals s₁.heap ((P, tabO ps) :: (I, o) :: news) →
      AllBare s₁.gens → s₁.os = s₀.os → TriplesOk ps.toList →
      wpAny (model prog w) A (assign target env v) (fun _ s₂ => wpAny (model prog w) A (execs body env) (fun f s₃ => Halt (f = .next ∧ ∃ m₂ ps₂, (∀ p ∈ nm, m₂ p.1 = some p.2) ∧ Fr hb env.locals s₃.heap m₂ ∧ News hb env.locals s₃.heap ((P, tabO ps₂) :: (I, o) :: news) ∧
        AllBare s₃.gens ∧ s₃.os = s₀.os ∧ TriplesOk ps₂.toList)) E s₂) E s₁)
    (fin : ∀ (m₁ : Str → Option Value) (s₁ : Shared) (ps : Array Value), (∀ p ∈ nm, m₁ p.1 = some p.2) → Fr hb env.locals s₁.heap m₁ → News hb env.locals s₁.heap ((P, tabO ps) :: news) → AllBare s₁.gens → s₁.os = s₀.os → TriplesOk ps.toList → Q .next s₁)
    (hs : ∀ x, foldedSetIterable iter env x = pure x := by intro _; rfl)
    (hE : PassesOwn (model prog w) A env E := by passes_own) :
    wpAny (model prog w) A (exec (.For target iter body [] pos) env) Q E s := by
  refine wpAny_For (wpAny_mono hit (fun xv s₁ h₁ => ?_) fun _ _ e => e) hs
  obtain ⟨rfl, rfl⟩ := h₁
  have hl : s₁.heap.IsList ax vs.toArray := ⟨lo, (N _ (.tail _ hm)).1, hcl, n, hd⟩
  have hlt : ∀ p ∈ news, p.1 < s₁.heap.objs.size := fun p hp => Heap.lt_size (N p (.tail _ hp)).1
  have hPl : P < s₁.heap.objs.size := Heap.lt_size (N _ (.head _)).1
  refine wpAny_pyIter_list hl ?_
  generalize hI : s₁.heap.objs.size = I at *
  have hIL : env.locals ≠ I := hI ▸ Nat.ne_of_lt F.ns.lt
  have hI0 : hb.get? I = none := hI ▸ next_is_new F
  have old : ∀ b o, hb.get? b = some o → b ≠ I := fun b o e q => by rw [q, hI0] at e; cases e
  refine codeAny_forLoop_any (fun k s' => ∃ i m' ps, k = vs.length + 1 - i ∧ i ≤ vs.length ∧ (∀ p ∈ nm, m' p.1 = some p.2) ∧ Fr hb env.locals s'.heap m' ∧ News hb env.locals s'.heap ((P, tabO ps) :: news) ∧ s'.heap.IsListIter I ax i ∧ AllBare s'.gens ∧ s'.os = s₀.os ∧ TriplesOk ps.toList) ?_ (vs.length + 1) ?_
  · rintro k s' ⟨i, m', ps, rfl, hi, hn', F', N', it', g', o', p'⟩
    have hl' : s'.heap.IsList ax vs.toArray := ⟨lo, (N' _ (.tail _ hm)).1, hcl, n, hd⟩
    have hne : ∀ p ∈ (P, tabO ps) :: news, p.1 ≠ I := by
      intro p hp
      rcases List.mem_cons.mp hp with rfl | hp
      · exact Nat.ne_of_lt hPl
      · exact Nat.ne_of_lt (hlt p hp)
    by_cases hil : i < vs.length
    · refine wpAny_pyNext_list_item it' hl' (x := vs[i]) (by simp [hil]) fun h' it2 hsb => ?_
      obtain ⟨oI, hoI, hcI, hdI⟩ := id it2
      have F2 : Fr hb env.locals h' m' := F'.change hsb (Ne.symm hIL) hI0
      have N2 : News hb env.locals h' ((P, tabO ps) :: (I, oI) :: news) := by
        intro p hp
        simp only [List.mem_cons] at hp
        rcases hp with rfl | rfl | hp
        · exact ⟨(hsb.2 _ (hne _ (.head _))).trans (N' _ (.head _)).1, (N' _ (.head _)).2⟩
        · exact ⟨hoI, Ne.symm hIL, hI0⟩
        · exact ⟨(hsb.2 _ (hne _ (.tail _ hp))).trans (N' _ (.tail _ hp)).1, (N' _ (.tail _ hp)).2⟩
      refine letGo_listiter (s' := { s' with heap := h' }) it2 ?_
      refine wpAny_mono (turn i vs[i] I oI m' { s' with heap := h' } ps (by simp [hil]) hn' hPl F2 N2 g' o' p') (fun _ s₂ h₂ => wpAny_mono h₂ (fun f s₃ h₃ => ?_) hE) hE
      obtain ⟨rfl, m₂, ps₂, hn₂, F₃, N₃, g₃, o₃, p₃⟩ := h₃
      refine ⟨vs.length + 1 - (i + 1), by omega, i + 1, m₂, ps₂, rfl, by omega, hn₂, F₃, fun p hp => ?_, ⟨oI, (N₃ _ (.tail _ (.head _))).1, hcI, hdI⟩, g₃, o₃, p₃⟩
      rcases List.mem_cons.mp hp with rfl | hp
      · exact N₃ _ (.head _)
      · exact N₃ p (.tail _ (.tail _ hp))
    · have hin : i = vs.length := by omega
      subst hin
      refine wpAny_pyNext_list_end hh it' hl' (by simp) fun h' hx => wpAny_execs_nil ?_
      have F2 : Fr hb env.locals h' m' := ⟨F'.ns.at' fun o e => hx _ o hIL e, fun b o e => hx b o (old b o e) (F'.keep b o e), F'.above⟩
      have N2 : News hb env.locals h' ((P, tabO ps) :: news) := fun p hp => ⟨hx _ _ (hne p hp) (N' p hp).1, (N' p hp).2⟩
      exact fin m' { s' with heap := h' } ps hn' F2 N2 g' o' p'
  · refine ⟨0, m, ps₀, rfl, Nat.zero_le _, hnm, F.keeps fun _ _ e => Heap.get?_push_of_some _ e, N.grown fun _ _ e => Heap.get?_push_of_some _ e, ?_, g₀, o₀, p₀⟩
    rw [← hI]
    exact ⟨_, Heap.get?_push_size _ rfl, rfl, rfl⟩
end
end Mine
end
noncomputable section
open PySem PySem.W PySem.Calls PyProof.Rows PyProof.V PySem.Spec
set_option maxRecDepth 100000
namespace Mine
theorem hide_but (h : Heap) : Heap.ExtBut 46 h (hide46 h) := fun _ _ hb e => (hide_other hb).trans e
theorem hide_bmod {h : Heap} {mg : Str → Option Value} {bm : Addr} {ob : Obj} {ps : Array Value} (M : BMod h mainGlobals mg bm ob) (ht : h.TableAt 50 46 ps) : BMod (hide46 h) mainGlobals mg bm ob := M.extBut ht (hide_but h)
theorem hide_news {h₀ h : Heap} {L : Addr} {news : Led} (N : News h₀ L h news) : News (hide46 h₀) L h news := by
  intro p hp
  obtain ⟨a, b, c⟩ := N p hp
  refine ⟨a, b, ?_⟩
  cases e : (hide46 h₀).get? p.1 with
  | none => rfl
  | some o => rw [(hide_some e).2] at c; cases c
theorem news_tab {h₀ h : Heap} {L : Addr} {m : Str → Option Value} {news : Led} (F : Fr h₀ L h m) (N : News h₀ L h news) (h46 : h₀.get? 46 = some (tabO #[])) (hL : L ≠ 46) : News (hide46 h₀) L h ((46, tabO #[]) :: news) := by
  intro p hp
  rcases List.mem_cons.mp hp with rfl | hp
  · exact ⟨F.keep _ _ h46, Ne.symm hL, hide_none _⟩
  · exact hide_news N p hp
theorem news_not46 {h₀ h : Heap} {L : Addr} {news : Led} {o : Obj} (N : News h₀ L h news) (e : h₀.get? 46 = some o) : ∀ p ∈ news, p.1 ≠ 46 := by
  intro p hp hp46
  have := (N p hp).2.2
  rw [hp46, e] at this
  cases this
theorem code_tab {P : Params} {h : Heap} {ps : Array Value} (X : (hd.heap_39 P).In h) (h46 : h.get? 46 = some (tabO ps)) (hp : TriplesOk ps.toList) : h.IsCode 50 46 ps ∧ h.TableAt 50 46 ps := by
  have h50 := X 50 _ rfl
  exact ⟨⟨_, _, _, _, _, _, _, _, _, _, h50, rfl, rfl, rfl, rfl, rfl, rfl, h46, rfl, hp, by decide⟩, ⟨⟨_, _, h50, rfl, rfl, rfl⟩, h46⟩⟩
theorem tri_of {h : Heap} {ps : Array Value} (hC : h.IsCode 50 46 ps) : TriplesOk ps.toList := by
  obtain ⟨o, vs, file, tf, flags, tg, inF, text, tt, op, ho, hd, h11, h2, h7, h9, h10, hop, hpd, htr, hne⟩ := hC
  exact htr
section
variable {w : World} {A : Around} {E : Value → Shared → Prop} {s : Shared} {os₀ : OsState} {mg mb : Str → Option Value} {bm : Addr} {ob : Obj} {Q : Value → Shared → Prop} {h₀ : Heap} {L : Addr} {m : Str → Option Value} {news : Led} {ps : Array Value}
theorem use51a {x r : List Nat} {j : Nat} {t u : Tok} {v : Int} (hx : ∀ c ∈ x, c ∈ codesB) (hlen : x.length ≤ 1000) (hj : j ≤ x.length) (hr : x.take j = r) (hv : wsum r = v) (hh : A.handled = none) (hdp : A.depth + 3 < recursionLimit) (hun : A.units + 100 < cLine)
    (F : Fr (hide46 h₀) L s.heap m) (N : News (hide46 h₀) L s.heap ((46, tabO ps) :: news)) (n46 : ∀ p ∈ news, p.1 ≠ 46)
    (X : (hd.heap_39 w.params).In (hide46 h₀)) (T : TopRead hd.view_39 (looseW hd.view_39 [Str.ofString "_display_width"]) mg mb (hide46 h₀)) (M : BMod (hide46 h₀) mainGlobals mg bm ob) (g : AllBare s.gens) (o : s.os = os₀) (hp : TriplesOk ps.toList)
    (h : ∀ s' t' ps', Fr (hide46 h₀) L s'.heap m → News (hide46 h₀) L s'.heap ((46, tabO ps') :: news) → AllBare s'.gens → s'.os = os₀ → TriplesOk ps'.toList → Q (.int v t') s') :
    wpAny (model PySem.Challenge.rw_gq5015_01.row.prog w) A (call (.ref 51) [.str (S x) t, .int j u]) Q E s := by
  subst hv
  subst hr
  have hL : L ≠ 46 := fun e => (N _ (.head _)).2.1 e.symm
  have XS : (hd.heap_39 w.params).In s.heap := fun a o e => F.keep a o (X a o e)
  have hct := code_tab XS (N _ (.head _)).1 hp
  refine con51a x j t u hx hlen hj hh hdp hun XS (T.keeps F.keep) (M.keeps F.keep) g hct.1 hct.2 fun s' t' ho hg hk hp => ?_
  obtain ⟨ps', hC, hT⟩ := hp
  have F' : Fr (hide46 h₀) L s'.heap m := ⟨F.ns.at' fun o e => hk L o hL e, fun b o e => hk b o (hide_some e).1 (F.keep b o e), F.above⟩
  refine h s' t' ps' F' (fun p hp => ?_) hg (ho.trans o) (tri_of hC)
  rcases List.mem_cons.mp hp with rfl | hp
  · exact ⟨hT.2, (N _ (.head _)).2⟩
  · exact ⟨hk _ _ (n46 p hp) (N p (.tail _ hp)).1, (N p (.tail _ hp)).2⟩
theorem use51b {x : List Nat} {t : Tok} {v : Int} (hx : ∀ c ∈ x, c ∈ codesB) (hlen : x.length ≤ 1000) (hv : wsum x = v) (hh : A.handled = none) (hdp : A.depth + 3 < recursionLimit) (hun : A.units + 100 < cLine)
    (F : Fr (hide46 h₀) L s.heap m) (N : News (hide46 h₀) L s.heap ((46, tabO ps) :: news)) (n46 : ∀ p ∈ news, p.1 ≠ 46)
    (X : (hd.heap_39 w.params).In (hide46 h₀)) (T : TopRead hd.view_39 (looseW hd.view_39 [Str.ofString "_display_width"]) mg mb (hide46 h₀)) (M : BMod (hide46 h₀) mainGlobals mg bm ob) (g : AllBare s.gens) (o : s.os = os₀) (hp : TriplesOk ps.toList)
    (h : ∀ s' t' ps', Fr (hide46 h₀) L s'.heap m → News (hide46 h₀) L s'.heap ((46, tabO ps') :: news) → AllBare s'.gens → s'.os = os₀ → TriplesOk ps'.toList → Q (.int v t') s') :
    wpAny (model PySem.Challenge.rw_gq5015_01.row.prog w) A (call (.ref 51) [.str (S x) t]) Q E s := by
  subst hv
  have hL : L ≠ 46 := fun e => (N _ (.head _)).2.1 e.symm
  have XS : (hd.heap_39 w.params).In s.heap := fun a o e => F.keep a o (X a o e)
  have hct := code_tab XS (N _ (.head _)).1 hp
  refine con51b x t hx hlen hh hdp hun XS (T.keeps F.keep) (M.keeps F.keep) g hct.1 hct.2 fun s' t' ho hg hk hp => ?_
  obtain ⟨ps', hC, hT⟩ := hp
  have F' : Fr (hide46 h₀) L s'.heap m := ⟨F.ns.at' fun o e => hk L o hL e, fun b o e => hk b o (hide_some e).1 (F.keep b o e), F.above⟩
  refine h s' t' ps' F' (fun p hp => ?_) hg (ho.trans o) (tri_of hC)
  rcases List.mem_cons.mp hp with rfl | hp
  · exact ⟨hT.2, (N _ (.head _)).2⟩
  · exact ⟨hk _ _ (n46 p hp) (N p (.tail _ hp)).1, (N p (.tail _ hp)).2⟩
theorem strike {prog : Program} {l r : List Nat} {x y : Str} {t : Tok} {u v : Nat} (hl : l.length ≤ 1000) (hr : l.filter (· != 32) = r) (hx : x = Str.ofString " ") (hy : y = Str.ofString "") (hu : 1 ≤ u) (hv : v = u + 1)
    (h : ∀ t' k, s.toks ≤ k → Q (.str (S r) t') { s with toks := k }) : wpAny (model prog w) A (call (.builtin "str.replace") [.str (S l) t, .str x u, .str y v]) Q E s := by
  subst hx hy hv hr
  refine wpAny_toks ?_
  refine SC.replaceW (Nat.ne_of_gt hu) (Nat.succ_ne_zero u) (Nat.ne_of_lt (Nat.lt_succ_self u)) (by decide) (by rw [S_len]; omega) (by decide) fun t' k => ?_
  rw [strike_S]
  exact h t' k
theorem ne_same {prog : Program} {x : Str} {t u : Tok} (h : Q (.bool false) s) : wpAny (model prog w) A (compareOp .NotEq (.str x t) (.str x u)) Q E s := by
  refine PyProof.Rows.ne_str ?_
  simpa using h
end
end Mine
namespace Mine
theorem top_fits {l k : List Nat} {col : List Col} (h : Ali l k col) (hl : l.length ≤ 4) (hk : k.length ≤ 4) : (topOf col).length ≤ 1000 := by
  have h1 := h.len
  have h2 := topOf_len col
  omega
theorem low_fits {l k : List Nat} {col : List Col} (h : Ali l k col) (hl : l.length ≤ 4) (hk : k.length ≤ 4) : (lowOf col).length ≤ 1000 := by
  have h1 := h.len
  have h2 := lowOf_len col
  omega
end Mine
end
noncomputable section
open PySem PySem.W PySem.Calls PyProof.Rows PyProof.V PySem.Spec
set_option maxRecDepth 100000
namespace Mine
theorem good_end {s₁ s' : Shared} {L : Addr} {m : Str → Option Value} {cl : Str → Option Addr} {mean : ExcName → Option Value} {ns : List Int} {ps : Array Value} {news : Led} (F : Fr (hide46 s₁.heap) L s'.heap m) (N : News (hide46 s₁.heap) L s'.heap ((46, tabO ps) :: news)) (g : AllBare s'.gens) (o : s'.os = s₁.os) (hT : s₁.heap.TableAt 50 46 #[]) :
    GoodWG PySem.Challenge.rw_gq5015_01.row.claim cl mean [ofPy (PyData.list (List.map PyData.int ns))] s₁ (.ok (.ret (.bool true))) s' := by
  have ht := (N _ (.head _)).1
  have e46 : ∀ o, s₁.heap.get? 46 = some o → o = { cls := .none, data := .fields #[] } := fun o e => Option.some.inj (e.symm.trans hT.2)
  refine ⟨.inl ⟨_, .bool true, [], rfl, fun _ => rfl, .bool _, ?_, fun _ => ⟨List.nodup_nil, fun _ h => nomatch h⟩⟩, ⟨fun b o e => ?_, fun b o e => ?_⟩, o, g⟩
  · first | rfl | wrow_post
  · by_cases hb : b = 46
    · subst hb
      obtain rfl := e46 o e
      exact .inr (.inl ⟨hT.isCodeTable, rfl, #[], ps, rfl, by rw [ht]; simp⟩)
    · exact .inl (F.keep b o ((hide_other hb).trans e))
  · by_cases hb : b = 46
    · subst hb
      exact ⟨_, ht⟩
    · exact ⟨o, F.keep b o ((hide_other hb).trans e)⟩
end Mine
namespace Mine
theorem StsIn.at {led : Led} {vs : List Value} {cs : List St3} (h : StsIn led vs cs) : ∀ {i : Nat} {v : Value}, vs[i]? = some v → ∃ T o x t u w, v = .ref T ∧ (T, o) ∈ led ∧ TupO o [.int (St3.i x) t, .int x.j u, .int x.w w] ∧ cs[i]? = some x := by
  induction h with
  | nil => intro i v hv; simp at hv
  | cons h1 h2 _ ih =>
    intro i v hv
    cases i with
    | zero => simp at hv; exact ⟨_, _, _, _, _, _, hv.symm, h1, h2, rfl⟩
    | succ i => exact ih (by simpa using hv)
theorem StsIn.get {led : Led} {vs : List Value} {col : List Col} {n i : Nat} {v : Value} (h : StsIn led vs (stsOf col n)) (hv : vs[i]? = some v) :
    ∃ T k t u w, v = .ref T ∧ (T, ({ cls := .type "tuple", data := .seq #[.int ((topOf (col.take i)).length : Nat) t, .int ((lowOf (col.take i)).length : Nat) u, .int (wsz (col.take i)) w] k } : Obj)) ∈ led := by
  obtain ⟨T, o, x, t, u, w, rfl, hm, ⟨k, rfl⟩, hx⟩ := h.at hv
  have : x = stOf (col.take i) := by
    unfold stsOf at hx
    rw [List.getElem?_map] at hx
    obtain ⟨j, hj, hx⟩ := Option.map_eq_some_iff.mp hx
    have : j = i := by
      obtain ⟨hlt, e⟩ := List.getElem?_eq_some_iff.mp hj
      simpa using e.symm
    rw [← hx, this]
  subst this
  exact ⟨T, k, t, u, w, rfl, hm⟩
end Mine
namespace Mine
end Mine
namespace Mine
theorem mem3 {h₀ h : Heap} {L : Addr} {a b c z : Addr × Obj} {rest : Led} (_ : News h₀ L h (a :: b :: c :: rest)) (hz : z ∈ rest) : z ∈ a :: b :: c :: rest := .tail _ (.tail _ (.tail _ hz))
theorem n46_cons {I : Addr} {o : Obj} {news : Led} (h : ∀ p ∈ news, p.1 ≠ 46) (hI : 46 < I) : ∀ p ∈ (I, o) :: news, p.1 ≠ 46 := by
  intro p hp
  rcases List.mem_cons.mp hp with rfl | hp
  · exact Nat.ne_of_gt hI
  · exact h p hp
theorem good_take {cs : List Col} (h : ∀ c ∈ cs, GoodC c) (i : Nat) : ∀ c ∈ cs.take i, GoodC c := fun c hc => h c (List.mem_of_mem_take hc)
end Mine
namespace Mine
theorem ne_self_i {prog : Program} {w : World} {A : Around} {E : Value → Shared → Prop} {s : Shared} {x : Int} {t u : Tok} {Q : Value → Shared → Prop} (h : Q (.bool false) s) : wpAny (model prog w) A (compareOp .NotEq (.int x t) (.int x u)) Q E s := by
  refine PyProof.Rows.ne_int ?_
  simpa using h
theorem eq_self_i {prog : Program} {w : World} {A : Around} {E : Value → Shared → Prop} {s : Shared} {x : Int} {t u : Tok} {Q : Value → Shared → Prop} (h : Q (.bool true) s) : wpAny (model prog w) A (compareOp .Eq (.int x t) (.int x u)) Q E s := by
  refine PyProof.Rows.eq_int ?_
  simpa using h
end Mine
end
noncomputable section
open PySem PySem.W PySem.Calls PyProof.Rows
namespace Mine
noncomputable def heapX (P : Params) : Frag := (46, { cls := .none, data := .fields #[] }) :: hd.heap_39 P
theorem heapX_in {P : Params} {h : Heap} (X : (heapX P).In h) : (hd.heap_39 P).In h ∧ h.get? 46 = some { cls := .none, data := .fields #[] } := by
  have h46 : (hd.heap_39 P).lookup 46 = none := by rfl
  refine ⟨fun a o e => X a o ?_, X 46 _ rfl⟩
  have ha : a ≠ 46 := fun ha => by rw [ha, h46] at e; cases e
  unfold heapX
  show List.lookup a (_ :: _) = _
  rw [List.lookup_cons]
  have : (a == 46) = false := by simpa using ha
  rw [this]
  exact e
end Mine
end
noncomputable section
namespace Mine
def IsInt (v : Value) : Prop := ∃ n t, v = Value.int n t
def JC (base : Led) (i : Nat) (ys : List Value) (nw : Led) : Prop := ∃ cs : List Nat, StrsAre ys (cs.map one) ∧ cs.length = i ∧ (∀ c ∈ cs, c ∈ codes) ∧ nw = base
theorem jc_step {base nw : Led} {i : Nat} {ys : List Value} {cs : List Nat} (h1 : StrsAre ys (cs.map one)) (h2 : cs.length = i) (h3 : ∀ c ∈ cs, c ∈ codes) {x : Str} {t : Tok} (c : Nat) (hx : x = one c) (hc : c ∈ codes) (e : nw = base) : JC base (i + 1) (ys ++ [.str x t]) nw := by
  subst hx
  refine ⟨cs ++ [c], strs_snoc h1 c t, by simp [h2], ?_, e⟩
  intro d hd
  rcases List.mem_append.mp hd with h | h
  · exact h3 d h
  · rcases List.mem_singleton.mp h with rfl
    exact hc
end Mine
end
namespace Mine
local macro_rules | `(tactic| walk_at "subscriptTail Name Slice ref ref") => `(tactic| (k_here; (with_reducible show wpAny _ _ (subscriptTail _ (PySem.Expr.Slice _ _ (some _) _) (Value.ref _) (Value.ref _)) _ _ _); k_dflt (refine' slice3_ints ?F ?N ?l ?i ?n ?a ?_ ?s ?t; (case F => k_asm); (case N => k_asm); (case l => kmk_list); (case i => assumption); (case n => (simp only [List.length_append, List.length_cons, List.length_nil]; omega)); (case a => decide); (case s => with_unfolding_all rfl); (case t => kmk_pure)); intro D' zs' h' F' N' l1 hZ' hL'; (try k_lt l1); (try k_sweep)))
local macro_rules | `(tactic| walk_at "CompSrc") => `(tactic| refine halt ?_)
local macro_rules | `(tactic| walk_at "CompEnd") => `(tactic| refine halt ?_)
local macro_rules | `(tactic| walk_at "call builtin:str.join") => `(tactic| (k_here; (with_reducible show wpAny _ _ (call (Value.builtin "str.join") [Value.str _ _, Value.ref _]) _ _ _); k_dflt (refine' join_word ?l ?h ?n ?_ ?x; (case l => kmk_list); (case h => assumption); (case n => omega); (case x => rfl)); intro t9 k9))
local macro_rules | `(tactic| walk_at "call ref") => `(tactic| (k_here; (with_reducible show wpAny _ _ (call (Value.ref 81) [Value.str _ _, Value.str _ _]) _ _ _); k_dflt (refine' pur_use (con81 8 _ _ _ _ ?hx ?hy ?hn) ?k1 ?k2 ?k3 ?k4 ?k5 ?kK ?kd ?ku ?_; (case hx => assumption); (case hy => assumption); (case hn => omega); (case k1 => k_asm); (case k2 => k_asm); (case k3 => k_asm); (case k4 => k_asm); (case k5 => k_asm); (case kK => first | exact rfl | assumption); (case kd => ktr_room); (case ku => ktr_units)); intro t9 h9 tk9 F9 N9))
local macro_rules | `(tactic| walk_at "call ref") => `(tactic| (k_here; (with_reducible show wpAny _ _ (call (Value.ref 86) [Value.str _ _, Value.str _ _]) _ _ _); k_dflt (refine' use86 ?hx ?hy ?k1 ?k2 ?k3 ?k4 ?k5 ?kK ?kd ?ku ?_; (case hx => assumption); (case hy => assumption); (case k1 => k_asm); (case k2 => k_asm); (case k3 => k_asm); (case k4 => k_asm); (case k5 => k_asm); (case kK => first | exact rfl | assumption); (case kd => ktr_room); (case ku => ktr_units)); intro tb9 ra9 led9 h9 tk9 F9 N9 I9))
local macro_rules | `(tactic| walk_at "call ref") => `(tactic| (k_here; (with_reducible show wpAny _ _ (call (Value.ref 93) [Value.str _ _, Value.str _ _, Value.ref _]) _ _ _); k_dflt (refine' use93 ?hx ?hy ?k1 ?k2 ?k3 ?k4 ?k5 ?kK ?kd ?ku ?I ?_; (case hx => assumption); (case hy => assumption); (case k1 => k_asm); (case k2 => k_asm); (case k3 => k_asm); (case k4 => k_asm); (case k5 => k_asm); (case kK => first | exact rfl | assumption); (case kd => ktr_room); (case ku => ktr_units); (case I => assumption)); intro c9 col9 vs9 e9 led9 h9 tk9 F9 N9 sub9 ne9 hC9 hA9 hcs9))
local macro_rules | `(tactic| walk_at "subscriptTail Name Call ref int") => `(tactic| first | (k_here; k_dflt (refine' tab_row ?N ?I ?sub ?h0 ?h1 ?hm ?_ ?hs; (case hs => with_unfolding_all rfl); (case N => k_asm); (case I => assumption); (case sub => (intro p9 hp9; simp only [List.mem_cons, List.mem_append, hp9, true_or, or_true])); (case h0 => omega); (case h1 => omega); (case hm => omega))) | (k_here; k_dflt (refine' tab_item ?N ?I ?sub ?hi ?h0 ?h1 ?hm ?_ ?hs; (case hs => with_unfolding_all rfl); (case N => k_asm); (case I => assumption); (case sub => (intro p9 hp9; simp only [List.mem_cons, List.mem_append, hp9, true_or, or_true])); (case hi => omega); (case h0 => omega); (case h1 => omega); (case hm => omega)); intro t9))
local macro_rules | `(tactic| walk_at "subscriptTail Subscript Name") => `(tactic| (k_here; k_dflt (refine kba_turn (value' := PySem.Expr.Name (PySem.Str.ofString "_") ⟨0, 0, 0, 0⟩) (fun _ => rfl) ?_)))
local macro_rules | `(tactic| walk_at "exec For") => `(tactic| refine halt ?_)
local macro_rules | `(tactic| walk_at "execs cons") => `(tactic| (k_here; (with_reducible show wpAny _ _ (execs (PySem.Stmt.For _ _ _ _ _ :: _) _) _ _ _); (with_reducible refine wpAny_execs_cons ?_); (try dsimp only)))
local macro_rules | `(tactic| walk_at "pyIter ref") => `(tactic| refine halt ?_)
local macro_rules | `(tactic| walk_at "call builtin:list.append") => `(tactic| (k_here; k_dflt (refine' sts_append ?F ?N ?h1 ?h2 ?hne ?hn ?_; (case F => k_asm); (case N => k_asm); (case h1 => ((show @Ne Nat _ _); omega)); (case h2 => assumption); (case hne => assumption); (case hn => assumption)); intro h9 F9 N9))
local macro_rules | `(tactic| walk_at "eval ListComp") => `(tactic| (k_here; (with_reducible show wpAny _ _ (eval (PySem.Expr.ListComp _ [⟨PySem.Expr.Name _ _, _, [_], 0⟩] _ _) _) _ _ _); k_dflt (refine' ListComp_tup ?c0 ?c1 ?c2 ?c3 ?c4 ?c5 ?_ ?c6; (case c0 => k_asm); (case c1 => with_unfolding_all rfl); (case c2 => decide); (case c3 => rfl); (case c4 => decide); (case c5 => rfl); (case c6 => (intro _; rfl)))))
local macro_rules | `(tactic| walk_at "call ref") => `(tactic| (k_here; (with_reducible show wpAny _ _ (call (Value.ref 67) [Value.str _ _]) _ _ _); k_dflt (refine' pur_use (con67 _ _) ?k1 ?k2 ?k3 ?k4 ?k5 ?kK ?kd ?ku ?_; (case k1 => k_asm); (case k2 => k_asm); (case k3 => k_asm); (case k4 => k_asm); (case k5 => k_asm); (case kK => first | exact rfl | assumption); (case kd => ktr_room); (case ku => ktr_units)); intro t9 h9 tk9 F9 N9))
local macro_rules | `(tactic| walk_at "eval Call") => `(tactic| (k_here; (with_reducible show wpAny _ _ (eval (PySem.Expr.Call (PySem.Expr.Name _ _) _ [] _) _) _ _ _); k_dflt (refine Call_ ?_)))
local macro_rules | `(tactic| walk_at "call builtin:max") => `(tactic| (k_here; k_dflt (first
  | (refine' wide_max1 ?hh ?F ?N ?ha ?_; (case hh => rfl); (case F => k_asm); (case N => k_asm); (case ha => exact List.Mem.head _))
  | (refine' wide_max2 ?hh ?F ?N ?ha ?_; (case hh => rfl); (case F => k_asm); (case N => k_asm); (case ha => exact List.Mem.head _))); intro h9 t9 tk9 F9 N9))
local macro_rules | `(tactic| walk_at "binaryOp Mult str int") => `(tactic| (k_here; k_dflt (refine' blanks ?h0 ?h1 ?hx ?_; (case h0 => omega); (case h1 => omega); (case hx => rfl)); intro t9 k9))
local macro_rules | `(tactic| walk_at "binaryOp Add str str") => `(tactic| (k_here; k_dflt (first
  | ((with_reducible show wpAny _ _ (binaryOp Operator.Add (Value.str (S _) _) (Value.str (S _) _)) _ _ _); refine' add_S ?h0 ?h1 ?_; (case h0 => simp; done); (case h1 => exact rep_small (by omega)))
  | ((with_reducible show wpAny _ _ (binaryOp Operator.Add (Value.str (one _) _) (Value.str (S _) _)) _ _ _); refine' add_S (l := [_]) ?h0 ?h1 ?_; (case h0 => simp; done); (case h1 => exact rep_small (by omega)))
  | (refine' add_E ?h0 ?h1 ?_; (case h0 => rfl); (case h1 => exact rep_small (by omega)))); intro t9 k9))
local macro_rules | `(tactic| walk_at "inplaceOp Add str str") => `(tactic| (k_here; k_dflt (refine' iadd_S ?h0 ?h1 ?_; (case h0 => assumption); (case h1 => (simp only [List.length_append, List.length_cons, List.length_nil, List.length_replicate]; omega))); intro t9 k9))
local macro_rules | `(tactic| walk_at "UnrEndW") => `(tactic| refine halt ?_)
local macro_rules | `(tactic| walk_at "call ref") => `(tactic| (k_here; (with_reducible show wpAny _ _ (call (Value.ref 74) [Value.str _ _, Value.str _ _]) _ _ _); k_dflt (refine' pur_use (con74 _ _ _ _ ?hx ?hy) ?k1 ?k2 ?k3 ?k4 ?k5 ?kK ?kd ?ku ?_; (case hx => assumption); (case hy => assumption); (case k1 => k_asm); (case k2 => k_asm); (case k3 => k_asm); (case k4 => k_asm); (case k5 => k_asm); (case kK => first | exact rfl | assumption); (case kd => ktr_room); (case ku => ktr_units)); intro t9 h9 tk9 F9 N9))
local macro_rules | `(tactic| walk_at "compareOp NotEq str str") => `(tactic| (k_here; (with_reducible show wpAny _ _ (compareOp CmpOp.NotEq (Value.str (S _) _) (Value.str (S _) _)) _ _ _); k_dflt (refine ne_same ?_)))
local macro_rules | `(tactic| walk_at "call builtin:str.replace") => `(tactic| (k_here; k_dflt (refine' strike ?hl ?hr ?hx ?hy ?hu ?hv ?_; (case hl => assumption); (case hr => assumption); (case hx => rfl); (case hy => rfl); (case hu => omega); (case hv => rfl)); intro t9 k9 hk9; dsimp only at hk9))
local macro_rules | `(tactic| walk_at "call ref") => `(tactic| (k_here; (with_reducible show wpAny _ _ (call (Value.ref 51) [Value.str _ _, Value.int _ _]) _ _ _); k_dflt (refine' use51a ?hx ?hl ?hj ?hr ?hv ?hh ?hd ?hu ?k1 ?k2 ?k3 ?k4 ?k5 ?k6 ?k7 ?k8 ?k9 ?_; (case hx => assumption); (case hl => assumption); (case hj => assumption); (case hr => assumption); (case hv => assumption); (case hh => rfl); (case hd => ktr_room); (case hu => ktr_units); (case k1 => k_asm); (case k2 => k_asm); (case k3 => assumption); (case k4 => k_asm); (case k5 => assumption); (case k6 => assumption); (case k7 => assumption); (case k8 => assumption); (case k9 => assumption)); intro s9 t9 ps9 F9 N9 g9 o9 p9))
local macro_rules | `(tactic| walk_at "call ref") => `(tactic| (k_here; (with_reducible show wpAny _ _ (call (Value.ref 51) [Value.str _ _]) _ _ _); k_dflt (refine' use51b ?hx ?hl ?hv ?hh ?hd ?hu ?k1 ?k2 ?k3 ?k4 ?k5 ?k6 ?k7 ?k8 ?k9 ?_; (case hx => assumption); (case hl => assumption); (case hv => assumption); (case hh => rfl); (case hd => ktr_room); (case hu => ktr_units); (case k1 => k_asm); (case k2 => k_asm); (case k3 => assumption); (case k4 => k_asm); (case k5 => assumption); (case k6 => assumption); (case k7 => assumption); (case k8 => assumption); (case k9 => assumption)); intro s9 t9 ps9 F9 N9 g9 o9 p9))
local macro_rules | `(tactic| walk_at "compareOp NotEq int int") => `(tactic| (k_here; with_reducible refine ne_self_i ?_))
local macro_rules | `(tactic| walk_at "compareOp Eq int int") => `(tactic| (k_here; with_reducible refine eq_self_i ?_))
local macro_rules | `(tactic| walk_at "GoodWG") => `(tactic| refine halt ?_)
set_option maxRecDepth 100000 in
set_option maxHeartbeats 0 in
theorem law_holds : PySem.Challenge.rw_gq5015_01.Holds := by
  w_on
  o_law
  o_head (kHook heapX [46, 2, 3, 6, 44, 45, 47, 48, 50, 51, 52, 54, 55, 57, 58, 59, 60, 61, 63, 64, 66, 67, 68, 70, 71, 73, 74, 75, 77, 78, 80, 81, 82, 85, 86, 87, 89, 90, 92, 93, 94, 97, 98] (fun _ => by kernel_rfl))
  (case hw => w_witness2)
  w_top off
  lge_go0
  rename PySem.W.Frag.In (heapX _) _ => KX
  obtain ⟨XX, h46⟩ := heapX_in KX
  clear KX
  rename W.Hook.says _ _ _ => Y9
  clear Y9
  revert XX
  k_fill
  intro XX
  rename Top _ _ _ _ _ _ => T0
  have T9 : Top hd.view_39 (looseW hd.view_39 [Str.ofString "_display_width"]) _ _ _ _ := T0
  rename Below _ _ _ _ => K0
  rename Fr _ _ _ _ => F0
  have K9 := LGeL.below_at F0
  clear K0
  clear T0
  all_goals try k_fold
  k_steps
  refine Halt.go (LCg.CompSrc.ledger (by rfl) (by k_asm) (by k_asm) (by k_mem) (by rw [sizeLine_eq]; simp; omega) ?_)
  intro g
  refine rest_ind (JC _) ?_ ?_ ⟨[], .nil, rfl, (fun _ h => nomatch h), rfl⟩
  · rintro i ys nw v I oI C oC D m₂ h tk E' hi ⟨cs, hcs, hcl, hcc, rfl⟩ hv hoC hx F9 N9 off ne
    have hvi : IsInt v := by
      rename ∀ v ∈ _, ∃ n t, v = Value.int n t => hz
      exact hz v (List.mem_of_getElem? (by simpa using hv))
    obtain ⟨n, tn, rfl⟩ := hvi
    k_steps
    all_goals
      rename Fr _ _ _ _ => Fz
      rename News _ _ _ _ => Nz
      refine Halt.go (LCg.CompEnd.intro Fz Nz _ (fun p hp => hp) off (.inr ⟨_, .head _, rfl, _, rfl⟩) ?_)
      first
        | exact jc_step hcs hcl hcc 97 rfl (by decide) rfl
        | exact jc_step hcs hcl hcc 65 rfl (by decide) rfl
        | exact jc_step hcs hcl hcc 98 rfl (by decide) rfl
        | exact jc_step hcs hcl hcc 65346 rfl (by decide) rfl
        | exact jc_step hcs hcl hcc 65314 rfl (by decide) rfl
        | exact jc_step hcs hcl hcc 233 rfl (by decide) rfl
        | exact jc_step hcs hcl hcc 28450 rfl (by decide) rfl
  rintro ys nw ⟨l1', hls, hll, hlc, rfl⟩
  intro D h tk F9 N9 o1
  have hw1 : Word l1' := ⟨hlc, by simp at hll; omega⟩
  have hl4 : l1'.length ≤ 4 := by simp at hll; omega
  clear hlc hll
  k_steps
  refine Halt.go (LCg.CompSrc.ledger (by rfl) (by k_asm) (by k_asm) (by k_mem) (by rw [sizeLine_eq]; simp; omega) ?_)
  intro g2
  refine rest_ind (JC _) ?_ ?_ ⟨[], .nil, rfl, (fun _ h => nomatch h), rfl⟩
  · rintro i ys nw v I oI C oC D m₂ h tk E' hi ⟨cs, hcs, hcl, hcc, rfl⟩ hv hoC hx F9 N9 off ne
    have hvi : IsInt v := by
      rename ∀ v ∈ _, ∃ n t, v = Value.int n t => hz
      exact hz v (List.mem_of_getElem? (by simpa using hv))
    obtain ⟨n, tn, rfl⟩ := hvi
    k_steps
    all_goals
      rename Fr _ _ _ _ => Fz
      rename News _ _ _ _ => Nz
      refine Halt.go (LCg.CompEnd.intro Fz Nz _ (fun p hp => hp) off (.inr ⟨_, .head _, rfl, _, rfl⟩) ?_)
      first
        | exact jc_step hcs hcl hcc 97 rfl (by decide) rfl
        | exact jc_step hcs hcl hcc 65 rfl (by decide) rfl
        | exact jc_step hcs hcl hcc 98 rfl (by decide) rfl
        | exact jc_step hcs hcl hcc 65346 rfl (by decide) rfl
        | exact jc_step hcs hcl hcc 65314 rfl (by decide) rfl
        | exact jc_step hcs hcl hcc 233 rfl (by decide) rfl
        | exact jc_step hcs hcl hcc 28450 rfl (by decide) rfl
  rintro ys2 nw ⟨l2', hls2, hll2, hlc2, rfl⟩
  intro D2 h2 tk2 F9 N9 o2
  have hw2 : Word l2' := ⟨hlc2, by simp at hll2; omega⟩
  have hk4 : l2'.length ≤ 4 := by simp at hll2; omega
  clear hlc2 hll2
  iterate 5 (all_goals (try (first | (k_unfold; (try dsimp only)) | (k_end; wrow_close) | walk1 | (dsimp only; walk1) | (leave1; walk_say "STEP leave1"; try dsimp only))))
  rename News _ _ _ _ => Nold
  have Nnew := news_none Nold
  clear Nold o1 o2
  iterate 43 (all_goals (try (first | (k_unfold; (try dsimp only)) | (k_end; wrow_close) | walk1 | (dsimp only; walk1) | (leave1; walk_say "STEP leave1"; try dsimp only))))
  rename TInv _ _ _ _ _ _ _ => I0
  rename ∀ p ∈ _, p ∈ _ => hsub
  have I1 := I0.mono hsub (fun _ h => nomatch h : ∀ p ∈ [], _)
  rename ColsIn _ _ _ => hC
  rename Ali _ _ _ => hA
  rename csum _ = _ => hcs
  have hle := Word.le (by assumption)
  have hdue := (lall_dpt_of (by assumption) (by assumption) hA hcs).trans hcs.symm
  k_steps
  · exfalso
    rename _ ≠ lall _ _ => hne9
    exact hne9 (by rw [Int.toNat_natCast, Int.toNat_natCast]; omega)
  refine Halt.go ?_
  rename Fr _ _ _ _ => lF'
  refine wpAny_toks ?_
  with_unfolding_all refine' For_turns lF' ?_
  k_steps
  rename Fr _ _ _ _ => Fx
  rename News _ _ _ _ => Nx
  rename ColsIn _ _ _ => hC
  rename Ali _ _ _ => hA
  rename lall _ _ = _ => hdue
  rename (@LT.lt Nat _ _ _) ∧ AllLt _ _ => hlt9
  have hlt8 := ktn_ltOf hlt9.2
  refine Halt.go (turns_ind (JLof hA hdue Nx) (by rfl) Fx Nx (.tail _ (.head _)) rfl rfl ?_ ?_ ?_)
  · refine' ⟨[], 0, ?t1, ?t2, ?t3, ?t4, ?t5, ?t6, ?t7, _, rfl, fun p hp => hp, ?_, fun p hp => .inl hp, .nil, ?hf⟩
    case hf =>
      intro p hp
      simp only [List.mem_cons, List.not_mem_nil, or_false] at hp
      rcases hp with rfl | rfl | rfl | rfl | rfl | rfl | rfl | rfl <;> rfl
    intro p hp
    rcases List.mem_cons.mp hp with rfl | hp
    · exact Nat.ne_of_lt hlt9.1
    · exact Nat.ne_of_lt (hlt8 p hp)
  · rintro i v m nw h tk I o hv hI ho ⟨sts, e, t1, t2, t3, t4, t5, t6, t7, rest, rfl, hb, hne, hcls, hS, hf⟩ F1 N1
    rw [← kstB_self hf] at F1
    simp only [kstB] at F1
    obtain ⟨T, oT, x, y, p, q, rfl, hT, ⟨nT, rfl⟩, hx, hy, hcol⟩ := hC.get hv
    have hTm := mem2 N1 (hb _ (.tail _ hT))
    have hst := hI _ (.head _)
    have hst2 := Nat.ne_of_gt hst
    dsimp only at hst hst2
    have hsl : sts.length ≤ 5000 := by
      have h1 := hS.length
      have h2 := hC.length
      have h3 := hA.len
      obtain ⟨h4, _⟩ := List.getElem?_eq_some_iff.mp hv
      simp only [stsOf, List.length_map, List.length_range] at h1
      omega
    unfold JLof
    clear Fx Nx
    have htl := top_small hA (i := i) (by assumption) (by assumption)
    have hll := low_small hA (i := i) (by assumption) (by assumption)
    cases hx with
    | none =>
      cases hy with
      | none => exact absurd rfl (hA.nn _ (List.mem_of_getElem? hcol))
      | some b tb =>
        have hwb := cells_is b
        k_steps
        rename Fr _ _ _ _ => Fa
        rename News _ _ _ _ => Na
        refine Halt.go ?_
        refine ⟨_, _, _, rfl, rfl, Fa, Na, ⟨_, .head _⟩, by exact Nat.le_of_ble_eq_true rfl, ?_⟩
        intro g
        refine LCt.CompRestT.succ (k := 1) ?_
        intro v0 I0 oI0 C0 oC0 D0 m0 h0 tk0 E0 hv0 hC0 hx0 F0 N0 off0 ne0
        obtain rfl : Value.none = v0 := Option.some.inj hv0
        clear hv0
        k_steps
        refine Halt.go ?_
        rename Fr _ _ _ _ => Fb0
        rename News _ _ _ _ => Nb0
        refine LCg.CompEnd.intro Fb0 Nb0 _ (fun p hp => hp) off0 ⟨_, .head _⟩ ?_
        refine LCt.CompRestT.succ (k := 0) ?_
        intro v1 I1 oI1 C1 oC1 D1 m1 h1 tk1 E1 hv1 hC1 hx1 F1 N1 off1 ne1
        obtain rfl : Value.str (one b) tb = v1 := Option.some.inj hv1
        clear hv1
        k_steps
        refine Halt.go ?_
        rename Fr _ _ _ _ => Fb1
        rename News _ _ _ _ => Nb1
        refine LCg.CompEnd.intro Fb1 Nb1 _ (fun p hp => hp) off1 ⟨_, .head _⟩ ?_
        refine LCt.CompRestT.zero ?_
        k_steps
        rename Fr _ _ _ _ => Fz
        rename News _ _ _ _ => Nz
        refine Halt.go ?_
        refine' (jl_end (c := (none, some b)) Fz Nz ?m1 ?m2 ?m3 ?m4 ho hI ⟨_, rfl⟩ ?ne hb hne hcls hS hcol (.head _) rfl rfl rfl ?f1 ?f2 ?f3 ?f4 ?f5 ?f6 ?f7 ?f8 ?g1 ?g2 ?g3 ?g4)
        (case m1 => k_mem)
        (case m2 => k_mem)
        (case m3 => k_mem)
        (case m4 => intro p9 hp9; simp only [List.mem_cons, List.mem_append, hp9, true_or, or_true])
        (case ne => show @Ne Nat _ _; omega)
        (case f1 => rfl)
        (case f2 => rfl)
        (case f3 => rfl)
        (case f4 => rfl)
        (case f5 => rfl)
        (case f6 => rfl)
        (case f7 => rfl)
        (case f8 => rfl)
        (case g1 => simp [pad, wd, wI])
        (case g2 => simp [pad, wd, wI])
        (case g3 => rfl)
        (case g4 => rfl)
    | some a ta =>
      cases hy with
      | none =>
        have hwa := cells_is a
        k_steps
        rename Fr _ _ _ _ => Fa
        rename News _ _ _ _ => Na
        refine Halt.go ?_
        refine ⟨_, _, _, rfl, rfl, Fa, Na, ⟨_, .head _⟩, by exact Nat.le_of_ble_eq_true rfl, ?_⟩
        intro g
        refine LCt.CompRestT.succ (k := 1) ?_
        intro v0 I0 oI0 C0 oC0 D0 m0 h0 tk0 E0 hv0 hC0 hx0 F0 N0 off0 ne0
        obtain rfl : Value.str (one a) ta = v0 := Option.some.inj hv0
        clear hv0
        k_steps
        refine Halt.go ?_
        rename Fr _ _ _ _ => Fb0
        rename News _ _ _ _ => Nb0
        refine LCg.CompEnd.intro Fb0 Nb0 _ (fun p hp => hp) off0 ⟨_, .head _⟩ ?_
        refine LCt.CompRestT.succ (k := 0) ?_
        intro v1 I1 oI1 C1 oC1 D1 m1 h1 tk1 E1 hv1 hC1 hx1 F1 N1 off1 ne1
        obtain rfl : Value.none = v1 := Option.some.inj hv1
        clear hv1
        k_steps
        refine Halt.go ?_
        rename Fr _ _ _ _ => Fb1
        rename News _ _ _ _ => Nb1
        refine LCg.CompEnd.intro Fb1 Nb1 _ (fun p hp => hp) off1 ⟨_, .head _⟩ ?_
        refine LCt.CompRestT.zero ?_
        k_steps
        rename Fr _ _ _ _ => Fz
        rename News _ _ _ _ => Nz
        refine Halt.go ?_
        refine' (jl_end (c := (some a, none)) Fz Nz ?m1 ?m2 ?m3 ?m4 ho hI ⟨_, rfl⟩ ?ne hb hne hcls hS hcol (.head _) rfl rfl rfl ?f1 ?f2 ?f3 ?f4 ?f5 ?f6 ?f7 ?f8 ?g1 ?g2 ?g3 ?g4)
        (case m1 => k_mem)
        (case m2 => k_mem)
        (case m3 => k_mem)
        (case m4 => intro p9 hp9; simp only [List.mem_cons, List.mem_append, hp9, true_or, or_true])
        (case ne => show @Ne Nat _ _; omega)
        (case f1 => rfl)
        (case f2 => rfl)
        (case f3 => rfl)
        (case f4 => rfl)
        (case f5 => rfl)
        (case f6 => rfl)
        (case f7 => rfl)
        (case f8 => rfl)
        (case g1 => simp [pad, wd, wI])
        (case g2 => simp [pad, wd, wI])
        (case g3 => rfl)
        (case g4 => rfl)
      | some b tb =>
        have hwa := cells_is a
        have hwb := cells_is b
        have hcg := hA.good (by assumption) (by assumption) _ (List.mem_of_getElem? hcol)
        have hca := hcg.1 a rfl
        have hcb := hcg.2 b rfl
        k_steps
        rename Fr _ _ _ _ => Fa
        rename News _ _ _ _ => Na
        refine Halt.go ?_
        refine ⟨_, _, _, rfl, rfl, Fa, Na, ⟨_, .head _⟩, by exact Nat.le_of_ble_eq_true rfl, ?_⟩
        intro g
        refine LCt.CompRestT.succ (k := 1) ?_
        intro v0 I0 oI0 C0 oC0 D0 m0 h0 tk0 E0 hv0 hC0 hx0 F0 N0 off0 ne0
        obtain rfl : Value.str (one a) ta = v0 := Option.some.inj hv0
        clear hv0
        k_steps
        refine Halt.go ?_
        rename Fr _ _ _ _ => Fb0
        rename News _ _ _ _ => Nb0
        refine LCg.CompEnd.intro Fb0 Nb0 _ (fun p hp => hp) off0 ⟨_, .head _⟩ ?_
        refine LCt.CompRestT.succ (k := 0) ?_
        intro v1 I1 oI1 C1 oC1 D1 m1 h1 tk1 E1 hv1 hC1 hx1 F1 N1 off1 ne1
        obtain rfl : Value.str (one b) tb = v1 := Option.some.inj hv1
        clear hv1
        k_steps
        refine Halt.go ?_
        rename Fr _ _ _ _ => Fb1
        rename News _ _ _ _ => Nb1
        refine LCg.CompEnd.intro Fb1 Nb1 _ (fun p hp => hp) off1 ⟨_, .head _⟩ ?_
        refine LCt.CompRestT.zero ?_
        k_steps
        rename Fr _ _ _ _ => Fz
        rename News _ _ _ _ => Nz
        refine Halt.go ?_
        refine' (jl_end (c := (some a, some b)) Fz Nz ?m1 ?m2 ?m3 ?m4 ho hI ⟨_, rfl⟩ ?ne hb hne hcls hS hcol (.head _) rfl rfl rfl ?f1 ?f2 ?f3 ?f4 ?f5 ?f6 ?f7 ?f8 ?g1 ?g2 ?g3 ?g4)
        (case m1 => k_mem)
        (case m2 => k_mem)
        (case m3 => k_mem)
        (case m4 => intro p9 hp9; simp only [List.mem_cons, List.mem_append, hp9, true_or, or_true])
        (case ne => show @Ne Nat _ _; omega)
        (case f1 => rfl)
        (case f2 => rfl)
        (case f3 => rfl)
        (case f4 => rfl)
        (case f5 => rfl)
        (case f6 => rfl)
        (case f7 => rfl)
        (case f8 => rfl)
        (case g1 => simp [pad, wd, wI])
        (case g2 => simp [pad, wd, wI])
        (case g3 => rw [price_subc a hca b hcb]; rfl)
        (case g4 => rfl)
  intro m nw h tk hJ F1 N1 htk
  rename JL _ _ _ _ _ _ _ _ _ => hJ
  rename Shared => sA
  rename List Col => col
  rename ColsIn _ _ _ => hC
  rename Ali _ _ _ => hA
  rename Fr _ _ _ _ => F1
  rename News _ _ _ _ => N1
  rw [hC.length] at hJ
  obtain ⟨sts, e, t1, t2, t3, t4, t5, t6, t7, rest, rfl, hb, hne, hcls, hS, hf⟩ := hJ
  rw [List.take_length] at hf
  rw [← kstB_self hf] at F1
  simp only [kstB] at F1
  have hgd := hA.good (by assumption) (by assumption)
  have hrt := (top_filter hgd).trans hA.lefts
  have hrl := (low_filter hgd).trans hA.rights
  have htl := top_fits hA (by assumption) (by assumption)
  have hll := low_fits hA (by assumption) (by assumption)
  rename _ ≤ Shared.toks _ => htk
  dsimp only at htk
  k_steps
  · exfalso
    omega
  refine Halt.go ?_
  rename Fr _ _ _ _ => Fa
  rename News _ _ _ _ => Na
  rename Heap.get? _ 46 = _ => h46
  rename BMod _ _ _ _ _ => Ma
  rename Top _ _ _ _ _ _ => Ta
  rename _ = #[] => hga
  have hct := code_tab XX h46 (by simp [TriplesOk])
  have hL46 := Nat.ne_of_gt (Heap.lt_size h46)
  have n46 := news_not46 Na h46
  have Fh := fr_hide Fa (fun _ _ _ e => e) hL46
  have Nh := news_tab Fa Na h46 hL46
  have Xh := hide_in (K := hd.heap_39 _) (by rfl) XX
  have Th := hide_top (topRead_of Ta)
  have Mh := hide_bmod Ma hct.2
  refine for_bare (s₀ := sA) [(Str.ofString "top", Value.str (S (topOf col)) t1), (Str.ofString "low", .str (S (lowOf col)) t2), (Str.ofString "cells", .int (wsz col) t4)] (by rfl) Fh Nh (.of_eq hga) rfl (by simp [TriplesOk]) ?hit (.head _) rfl rfl ?hnm ?turn ?fin
  (case hit =>
    k_steps
    exact Halt.go ⟨rfl, rfl⟩)
  (case hnm =>
    intro p hp
    simp only [List.mem_cons, List.not_mem_nil, or_false] at hp
    rcases hp with rfl | rfl | rfl <;> rfl)
  (case turn =>
    clear Fa Na Fh Nh
    intro i v I o m₁ s₂ ps hv hn hI F N g9 o9 p9
    obtain ⟨T, k, ta, tb, tc, rfl, hT⟩ := hS.get hv
    have hTm := mem3 N hT
    have nI := n46_cons (o := o) n46 hI
    rw [← kstB_self hn] at F
    simp only [kstB] at F
    have hx1 := top_codes hgd
    have hx2 := low_codes hgd
    have hj1 := top_take_le col i
    have hj2 := low_take_le col i
    have hr1 := top_take col i
    have hr2 := low_take col i
    have hv1 := wsum_top (good_take hgd i)
    have hv2 := wsum_low (good_take hgd i)
    k_steps
    rename Fr _ _ _ _ => Fz
    rename News _ _ _ _ => Nz
    refine Halt.go ⟨rfl, _, _, ?_, Fz, Nz, by assumption, by assumption, by assumption⟩
    intro p hp
    simp only [List.mem_cons, List.not_mem_nil, or_false] at hp
    rcases hp with rfl | rfl | rfl <;> rfl)
  clear Fa Na Fh Nh
  intro m₁ s₂ ps hn F N g9 o9 p9
  rw [← kstB_self hn] at F
  simp only [kstB] at F
  have hx1 := top_codes hgd
  have hx2 := low_codes hgd
  have hv1 := wsum_top hgd
  have hv2 := wsum_low hgd
  k_steps
  rename Fr _ _ _ _ => Fz
  rename News _ _ _ _ => Nz
  exact Halt.go (good_end Fz Nz (by assumption) (by assumption) hct.2)
end Mine
theorem PySem.Challenge.cw_gq5015_01_holds : PySem.Challenge.rw_gq5015_01.Holds :=
  Mine.law_holds
