import PyProof.Rows.All
import Wide.All
import OpenK.AllK
import Wide.FinOn
import PySem.Challenge.RW_mj0105_01
set_option Elab.async false

section MjHead
theorem Mj.freshMjHead : True := by (w_top off; trivial)
open PySem PySem.W PyProof.Rows
namespace Mj
set_option maxRecDepth 100000 in
set_option maxHeartbeats 8000000 in
open_top hd for PySem.Challenge.rw_mj0105_01
end Mj
end MjHead

section MjCon
theorem Mj.freshMjCon : True := by (w_top off; trivial)
open PySem PySem.W PyProof.Rows
namespace Mj

abbrev Led := List (Addr × Obj)

/-- what a call of the def at f does: from a ledger to a ledger -/
def Con (prog : Program) (w : World) (f : Addr) (D U : Nat) (vs : List Value) (news : Led) (R : Value → Led → Prop) : Prop :=
  ∀ (dp un : Nat) (gd : Option (List Code)) (cn : Str) (cs : Scope) (a : Addr) (ccd : Value) (cl : List (Str × Addr)) (outer : List Env) (A₀ : Around) (base h₀ : Heap) (L : Addr) (m : Str → Option Value) (s : Shared)
    (mean : ExcName → Option Value) (mg mb : Str → Option Value) (Q E : Value → Shared → Prop),
    Below A₀ base outer h₀ → Fr h₀ L s.heap m → (Mj.hd.heap_39 w.params).In h₀ → News h₀ L s.heap news → Top Mj.hd.view_39 (looseW Mj.hd.view_39 []) mean mg mb h₀ → cs.kind = .function → dp + D < recursionLimit → un + U < cLine →
    (∀ r news' h' tk', Fr h₀ L h' m → News h₀ L h' news' → R r news' → Q r { s with heap := h', toks := tk' }) →
    wpAny (model prog w) (ktrTop dp un gd cn cs L a ccd cl outer) (call (.ref f) vs) Q E s
end Mj
namespace Mj
open PySem PySem.W PyProof.Rows
theorem Con.use {prog : Program} {w : World} {f : Addr} {D U : Nat} {vs : List Value} {news : Led} {R : Value → Led → Prop} (C : Con prog w f D U vs news R)
    {dp un : Nat} {gd : Option (List Code)} {cn : Str} {cs : Scope} {a : Addr} {ccd : Value} {cl : List (Str × Addr)} {outer : List Env} {A₀ : Around} {base h₀ : Heap} {L : Addr} {m : Str → Option Value} {s : Shared}
    {mean : ExcName → Option Value} {mg mb : Str → Option Value} {Q E : Value → Shared → Prop}
    (B : Below A₀ base outer h₀) (F : Fr h₀ L s.heap m) (X : (Mj.hd.heap_39 w.params).In h₀) (N : News h₀ L s.heap news) (T : Top Mj.hd.view_39 (looseW Mj.hd.view_39 []) mean mg mb h₀) (hk : cs.kind = .function) (hd : dp + D < recursionLimit) (hu : un + U < cLine)
    (ret : ∀ r news' h' tk', Fr h₀ L h' m → News h₀ L h' news' → R r news' → Q r { s with heap := h', toks := tk' }) :
    wpAny (model prog w) (ktrTop dp un gd cn cs L a ccd cl outer) (call (.ref f) vs) Q E s := C dp un gd cn cs a ccd cl outer A₀ base h₀ L m s mean mg mb Q E B F X N T hk hd hu ret
end Mj
end MjCon

section MjLt
theorem Mj.freshMjLt : True := by (w_top off; trivial)
open PySem PySem.W PyProof.Rows
namespace Mj
open PySem.SeqAt PySem.MeetsSeq PySem.MeetsSeq2 PySem.MeetsSeq3
open PySem.AutoSeq1 (wpAny_loadPart')

/-- the order of two lists of ints, item by item -/
def lexLt : List Int → List Int → Bool
  | [], [] => false
  | [], _ :: _ => true
  | _ :: _, [] => false
  | a :: as, b :: bs => if a = b then lexLt as bs else decide (a < b)

theorem ints_at {vs : List Value} {ns : List Int} (h : IntsAre vs ns) {i : Nat} (hi : i < ns.length) : ∃ t, vs[i]? = some (.int ns[i] t) :=
  h.get i ns[i] (by simp [hi])

theorem lt_loop (l b : Addr) (vs us : List Value) (n n2 : Nat) (dd dd2 : Option Addr) (sl sl2 : Array (Option Value)) (ns ms : List Int) (hv : IntsAre vs ns) (hu : IntsAre us ms) (k : Nat) :
    ∀ i : Nat, i ≤ ns.length → i ≤ ms.length → ns.length - i = k → Meets (Builtin.«list.__eq__.loop» ⟨[.ref l, .ref b, rawInt i, rawInt 0], []⟩)
      (fun _ R s => s.heap.get? l = some { cls := .type "list", dict := dd, data := .seq vs.toArray n, slots := sl } ∧ s.heap.get? b = some { cls := .type "list", dict := dd2, data := .seq us.toArray n2, slots := sl2 } ∧
        R (.ok (.ret (.bool (lexLt (ns.drop i) (ms.drop i))))) s) := by
  have lv := hv.length
  have lu := hu.length
  induction k with
  | zero =>
    intro i h1 h2 hk prog w A R s h
    obtain ⟨hp, g, d, tk, os⟩ := s; obtain ⟨hl, hb, h⟩ := h
    wp_walk using wpAny_loadPart' hl, wpAny_loadPart' hb
    have hi1 : vs.toArray[((i : Nat) : Int).toNat]? = none := by simp; omega
    rw [hi1]
    have hd : ns.drop i = [] := by simp; omega
    wp_walk using wpAny_loadPart' hl, wpAny_loadPart' hb
    show R (.ok (.ret (.bool (decide (vs.toArray.size < us.toArray.size))))) _
    rw [hd] at h
    rcases Nat.lt_or_ge i ms.length with h3 | h3
    · rw [List.drop_eq_getElem_cons h3] at h
      simp only [lexLt] at h
      have : decide (vs.toArray.size < us.toArray.size) = true := by simp; omega
      rw [this]; exact h
    · have : ms.drop i = [] := by simp; omega
      rw [this] at h
      simp only [lexLt] at h
      have : decide (vs.toArray.size < us.toArray.size) = false := by simp; omega
      rw [this]; exact h
  | succ k ih =>
    intro i h1 h2 hk prog w A R s h
    obtain ⟨hp, g, d, tk, os⟩ := s; obtain ⟨hl, hb, h⟩ := h
    have hlt : i < ns.length := by omega
    obtain ⟨t, ht⟩ := ints_at hv hlt
    have hi1 : vs.toArray[((i : Nat) : Int).toNat]? = some (.int ns[i] t) := by simpa using ht
    rcases Nat.lt_or_ge i ms.length with h3 | h3
    · obtain ⟨t', ht'⟩ := ints_at hu h3
      have hi2 : us.toArray[((i : Nat) : Int).toNat]? = some (.int ms[i] t') := by simpa using ht'
      have hc : ((i : Int) + 1) = ((i + 1 : Nat) : Int) := by push_cast; rfl
      rw [List.drop_eq_getElem_cons h3, List.drop_eq_getElem_cons hlt] at h
      simp only [lexLt] at h
      wp_walk using wpAny_loadPart' hl, wpAny_loadPart' hb
      rw [hi1, hi2]
      refine wpAny_bind (EqAt.int_int ns[i] t ms[i] t' prog w _ _ ?_)
      by_cases he : ns[i] = ms[i]
      · rw [if_pos he] at h
        have hq : (ns[i] == ms[i]) = true := by simp [he]
        rw [hq]
        wp_walk
        rw [hc]
        exact ⟨plainId_quiet plain_eq_loop _, codeAny_builtin entry_eq_loop (by
          rw [Around.under_plainId plain_eq_loop _]
          exact ih (i + 1) (by omega) (by omega) (by omega) prog w A R _ ⟨hl, hb, h⟩)⟩
      · rw [if_neg he] at h
        have hq : (ns[i] == ms[i]) = false := by simp [he]
        rw [hq]
        wp_walk using wpAny_loadPart' hl, wpAny_loadPart' hb
        rw [hi1, hi2]
        refine wpAny_bind (lt_int ?_)
        wp_walk
        exact h
    · have hi2 : us.toArray[((i : Nat) : Int).toNat]? = none := by simp; omega
      have hd : ms.drop i = [] := by simp; omega
      rw [List.drop_eq_getElem_cons hlt, hd] at h
      simp only [lexLt] at h
      wp_walk using wpAny_loadPart' hl, wpAny_loadPart' hb
      rw [hi1, hi2]
      wp_walk using wpAny_loadPart' hl, wpAny_loadPart' hb
      show R (.ok (.ret (.bool (decide (vs.toArray.size < us.toArray.size))))) _
      have : decide (vs.toArray.size < us.toArray.size) = false := by simp; omega
      rw [this]; exact h

theorem list_lt (l b : Addr) (vs us : List Value) (n n2 : Nat) (dd dd2 : Option Addr) (sl sl2 : Array (Option Value)) (ns ms : List Int) (hv : IntsAre vs ns) (hu : IntsAre us ms) :
    Meets (Builtin.«list.__lt__» ⟨[.ref l, .ref b], []⟩)
      (fun _ R s => s.heap.get? l = some { cls := .type "list", dict := dd, data := .seq vs.toArray n, slots := sl } ∧ s.heap.get? b = some { cls := .type "list", dict := dd2, data := .seq us.toArray n2, slots := sl2 } ∧
        R (.ok (.ret (.bool (lexLt ns ms)))) s) := by
  intro prog w A R s h
  obtain ⟨hp, g, d, tk, os⟩ := s; obtain ⟨hl, hb, h⟩ := h
  have f3 := AutoSeq1.sub_list_list
  wp_walk using wpAny_loadPart' hl, wpAny_loadPart' hb
  exact ⟨plainId_quiet plain_eq_loop _, codeAny_builtin entry_eq_loop (by
    rw [Around.under_plainId plain_eq_loop _]
    exact lt_loop l b vs us n n2 dd dd2 sl sl2 ns ms hv hu _ 0 (Nat.zero_le _) (Nat.zero_le _) rfl prog w A R _ ⟨hl, hb, by simpa using h⟩)⟩

theorem lt_lists {prog : Program} {w : World} {A : Around} {E : Value → Shared → Prop} {s : Shared} {l b : Addr} {vs us : List Value} {n n2 : Nat} {ns ms : List Int} {Q : Value → Shared → Prop} (ho : s.heap.get? l = some (listOf vs.toArray n)) (ho2 : s.heap.get? b = some (listOf us.toArray n2)) (hv : IntsAre vs ns) (hu : IntsAre us ms) (hr : A.units < cLine)
    (h : Q (.bool (lexLt ns ms)) s) : wpAny (model prog w) A (compareOp .Lt (.ref l) (.ref b)) Q E s :=
  richCompare_meets_room (op := .Lt) ⟨_, ho, rfl⟩ ⟨_, ho2, rfl⟩ F.slot_list_lt F.entry_list_lt (F.args_list_lt_2 _ _) (list_lt l b vs us n n2 none none #[] #[] ns ms hv hu)
    ⟨ho, ho2, show Value.bool (lexLt ns ms) ≠ Value.notImplemented ∧ Q (.bool (lexLt ns ms)) s from ⟨(fun x => nomatch x), h⟩⟩ hr
end Mj
end MjLt

section MjRules
theorem Mj.freshMjRules : True := by (w_top off; trivial)
open PySem PySem.W PyProof.Rows PySem.Calls
namespace Mj

/-- the walk stands here -/
def Stop (X : Prop) : Prop := X
theorem Stop.mk {X : Prop} (h : Stop X) : X := h
theorem Stop.out {X : Prop} (h : X) : Stop X := h

/-- a fact that the walk does not touch -/
structure Keep (X : Prop) : Prop where
  out : X

/-- a heap's item: the value, and the ints that it bears -/
abbrev P := Value × List Int
def gp (ps : List P) (i : Nat) : P := ps.getD i (.none, [])
def vals (ps : List P) : List Value := ps.map (·.1)
theorem vals_length (ps : List P) : (vals ps).length = ps.length := by simp [vals]
theorem vals_at {ps : List P} {i : Nat} (h : i < ps.length) : (vals ps)[i]? = some (gp ps i).1 := by simp [vals, gp, h]
theorem vals_set (ps : List P) (i : Nat) (x : P) : (vals ps).set i x.1 = vals (ps.set i x) := by simp [vals, List.map_set]
theorem gp_mem {ps : List P} {i : Nat} (h : i < ps.length) : gp ps i ∈ ps := by simp [gp, h]
theorem vals_append (ps : List P) (x : P) : vals ps ++ [x.1] = vals (ps ++ [x]) := by simp [vals]

/-- v bears the ints d: an int itself (k), a list of ints of the ledger (not k) -/
def Den (k : Bool) (news : Led) (v : Value) (d : List Int) : Prop :=
  if k = true then ∃ i t, v = .int i t ∧ d = [i] else ∃ a vs n, v = .ref a ∧ (a, listOf (List.toArray vs) n) ∈ news ∧ IntsAre vs d

section
variable {prog : Program} {w : World} {A : Around} {E : Value → Shared → Prop} {s : Shared} {h₀ : Heap} {L l : Addr} {m : Str → Option Value} {news rest : Led} {ps : List P} {n : Nat}

theorem den_lt {k : Bool} {x y : P} {Q : Value → Shared → Prop} (N : News h₀ L s.heap news) (hx : Den k news x.1 x.2) (hy : Den k news y.1 y.2) (hr : A.units < cLine) (h : Q (.bool (lexLt x.2 y.2)) s) :
    wpAny (model prog w) A (compareOp .Lt x.1 y.1) Q E s := by
  unfold Den at hx hy
  cases k with
  | true =>
    simp only [if_true] at hx hy
    obtain ⟨i, t, hv, hd⟩ := hx
    obtain ⟨j, u, hv', hd'⟩ := hy
    rw [hv, hv']
    refine lt_int ?_
    have : lexLt x.2 y.2 = decide (i < j) := by
      rw [hd, hd']
      simp only [lexLt]
      by_cases e : i = j
      · simp [e]
      · simp [e]
    rw [← this]; exact h
  | false =>
    simp only [Bool.false_eq_true, if_false] at hx hy
    obtain ⟨a, vs, n, hv, hm, hi⟩ := hx
    obtain ⟨b, us, n2, hv', hm', hi'⟩ := hy
    rw [hv, hv']
    exact lt_lists (N _ hm).1 (N _ hm').1 hi hi' hr h

theorem it_get {value slice : PySem.Expr} {k : Int} {u : Tok} {Q : Value → Shared → Prop} (N : News h₀ L s.heap news) (hm : (l, listOf (vals ps).toArray n) ∈ news) (h0 : 0 ≤ k) (h1 : k < ps.length) (hfit : k < 2 ^ 63) (h : Q (gp ps k.toNat).1 s)
    (hs : subscripted slice false (.ref l) (.int k u) = operate [.ref l, .int k u] (getItem (.ref l) (.int k u)) := by with_unfolding_all rfl) (hg : ∀ r, letTemporaryGo value (.ref l) r = pure () := by intro _; with_unfolding_all rfl) :
    wpAny (model prog w) A (subscriptTail value slice (.ref l) (.int k u)) Q E s :=
  kim_list N hm rfl rfl h0 hfit (vals_at (by omega)) h hs hg

theorem it_set {k : Int} {t : Tok} {x : P} {Q : Unit → Shared → Prop} (F : Fr h₀ L s.heap m) (N : News h₀ L s.heap ((l, listOf (vals ps).toArray n) :: rest)) (hne : ∀ p ∈ rest, p.1 ≠ l) (h0 : 0 ≤ k) (h1 : k < ps.length) (hfit : k < 2 ^ 63)
    (h : ∀ h', Fr h₀ L h' m → News h₀ L h' ((l, listOf (vals (ps.set k.toNat x)).toArray n) :: rest) → Q () { s with heap := h' }) :
    wpAny (model prog w) A (setItem (.ref l) (.int k t) x.1) Q E s := by
  have z := N (l, listOf (vals ps).toArray n) (.head _)
  have hs : (vals ps).toArray.size = ps.length := by rw [List.size_toArray, vals_length]
  refine ki_setAt z.1 h0 hfit (by omega) (h _ (F.change (Heap.SameBut.update ..) z.2.1 z.2.2) (ki_turn (pre := []) _ N (by simp) hne ?_ ?_))
  · show (vals ps).toArray.setIfInBounds k.toNat x.1 = (vals (ps.set k.toNat x)).toArray
    rw [← vals_set]
    apply Array.toList_inj.mp
    simp
  · simp [vals]
theorem led_len {vs : List Value} {Q : Value → Shared → Prop} (N : News h₀ L s.heap news) (hm : (l, listOf vs.toArray n) ∈ news) (hfit : vs.length < 2 ^ 62) (h : ∀ t tk, Q (.int vs.length t) { s with toks := tk }) : wpAny (model prog w) A (call (.builtin "len") [.ref l]) Q E s := by
  have e : vs.toArray.size = vs.length := List.size_toArray ..
  exact call_len_list (PySem.IsL.isList (n := n) (N _ hm).1) (by rw [e]; omega) (by rw [e]; exact h _ _)
theorem it_len {Q : Value → Shared → Prop} (N : News h₀ L s.heap news) (hm : (l, listOf (vals ps).toArray n) ∈ news) (hfit : ps.length < 2 ^ 62) (h : ∀ t tk, Q (.int ps.length t) { s with toks := tk }) : wpAny (model prog w) A (call (.builtin "len") [.ref l]) Q E s :=
  led_len N hm (by rw [vals_length]; exact hfit) (by rw [vals_length]; exact h)
theorem it_app {x : P} {Q : Value → Shared → Prop} (F : Fr h₀ L s.heap m) (N : News h₀ L s.heap ((l, listOf (vals ps).toArray n) :: rest)) (hne : ∀ p ∈ rest, p.1 ≠ l) (hz : ps.length < 2 ^ 20)
    (h : ∀ h', Fr h₀ L h' m → News h₀ L h' ((l, listOf (vals (ps ++ [x])).toArray (n + 1)) :: rest) → Q .none { s with heap := h' }) : wpAny (model prog w) A (call (.builtin "list.append") [.ref l, x.1]) Q E s := by
  have e : (vals ps).toArray.push x.1 = (vals (ps ++ [x])).toArray := by rw [List.push_toArray, vals_append]
  refine append_K F N (Upd.head hne) ?_ (by rw [List.size_toArray, vals_length, sizeLine_eq]; omega)
  rw [e]; exact h
theorem it_pop {Q : Value → Shared → Prop} (F : Fr h₀ L s.heap m) (N : News h₀ L s.heap ((l, listOf (vals ps).toArray n) :: rest)) (hne : ∀ p ∈ rest, p.1 ≠ l) (h0 : 0 < ps.length) (hz : ps.length < 2 ^ 20)
    (h : ∀ h', Fr h₀ L h' m → News h₀ L h' ((l, listOf (vals ps.dropLast).toArray (n + 1)) :: rest) → Q (gp ps (ps.length - 1)).1 { s with heap := h' }) : wpAny (model prog w) A (call (.builtin "list.pop") [.ref l]) Q E s := by
  have e : vals ps = vals ps.dropLast ++ [(gp ps (ps.length - 1)).1] := by
    rw [vals_append]
    congr 1
    have hne : ps ≠ [] := by intro e; rw [e] at h0; cases h0
    have h1 := List.dropLast_concat_getLast hne
    have h2 : gp ps (ps.length - 1) = ps.getLast hne := by
      have h3 : ps.length - 1 < ps.length := by omega
      simp [gp, List.getLast_eq_getElem, h3]
    rw [h2, h1]
  refine kl_pop F N (p := vals ps.dropLast) (y := (gp ps (ps.length - 1)).1) ?_ (Upd.head hne) ?_ h
  · rw [List.toList_toArray, e]; exact kpa_last _ _
  · rw [List.toList_toArray, vals_length, sizeLine_eq]; omega
theorem led_truthy {vs : List Value} {Q : Bool → Shared → Prop} (N : News h₀ L s.heap news) (hm : (l, listOf vs.toArray n) ∈ news) (hfit : vs.length < 2 ^ 62) (h : ∀ tk, Q (decide (0 < vs.length)) { s with toks := tk }) : wpAny (model prog w) A (truthy (.ref l)) Q E s := by
  have e : vs.toArray.size = vs.length := List.size_toArray ..
  refine wpAny_truthy_list (PySem.IsL.isList (n := n) (N _ hm).1) (by rw [e]; omega) ?_
  have e2 : (!vs.toArray.isEmpty) = decide (0 < vs.length) := by cases vs <;> simp
  rw [e2]; exact h _
theorem it_truthy {Q : Bool → Shared → Prop} (N : News h₀ L s.heap news) (hm : (l, listOf (vals ps).toArray n) ∈ news) (hfit : ps.length < 2 ^ 62) (h : ∀ tk, Q (decide (0 < ps.length)) { s with toks := tk }) : wpAny (model prog w) A (truthy (.ref l)) Q E s :=
  led_truthy N hm (by rw [vals_length]; exact hfit) (by rw [vals_length]; exact h)
theorem led_ne_nil {l0 : Addr} {n0 : Nat} {vs : List Value} {Q : Value → Shared → Prop} (N : News h₀ L s.heap news) (hm : (l, listOf vs.toArray n) ∈ news) (hm0 : (l0, listOf (List.toArray []) n0) ∈ news) (hr : A.units < cLine) (h : Q (.bool (decide (0 < vs.length))) s) :
    wpAny (model prog w) A (compareOp .NotEq (.ref l) (.ref l0)) Q E s := by
  have hl := PySem.IsL.isList (n := n) (N _ hm).1
  have hl0 := PySem.IsL.isList (n := n0) (N _ hm0).1
  cases vs with
  | nil =>
    refine PySem.SeqAt.RcNeAt.lists (e := fun _ => true) hl hl0 rfl hr (fun j h1 _ => absurd h1 (Nat.not_lt_zero _)) prog w E Q ?_
    exact h
  | cons v r =>
    refine PySem.SeqAt.RcNeAt.lists_lengths hl hl0 rfl hr prog w E Q ?_
    have e : decide (0 < (v :: r).length) = true := by simp
    rw [e] at h; exact h
theorem ints_sub {value slice : PySem.Expr} {vs : List Value} {xs : List Int} {k : Int} {u : Tok} {Q : Value → Shared → Prop} (N : News h₀ L s.heap news) (hm : (l, listOf vs.toArray n) ∈ news) (hi : Keep (IntsAre vs xs)) (h0 : 0 ≤ k) (h1 : k < xs.length) (hfit : k < 2 ^ 63) (h : ∀ t, Q (.int (xs.getD k.toNat 0) t) s)
    (hs : subscripted slice false (.ref l) (.int k u) = operate [.ref l, .int k u] (getItem (.ref l) (.int k u)) := by with_unfolding_all rfl) :
    wpAny (model prog w) A (subscriptTail value slice (.ref l) (.int k u)) Q E s := ksa_sub N hm hi.out h0 h1 hfit h hs
theorem led_out {value slice : PySem.Expr} {vs : List Value} {k : Int} {u : Tok} {Q : Value → Shared → Prop} (hA : A.handled = none) (N : News h₀ L s.heap news) (hm : (l, listOf vs.toArray n) ∈ news) (hout : (vs.length : Int) ≤ k) (hlo : 0 ≤ k) (hhi : k < 2 ^ 63)
    (hE : ∀ h' tk e, Heap.NewExc s.heap h' e "IndexError" → E (.ref e) { s with heap := h', toks := tk })
    (hs : subscripted slice false (.ref l) (.int k u) = operate [.ref l, .int k u] (getItem (.ref l) (.int k u)) := by with_unfolding_all rfl) :
    wpAny (model prog w) A (subscriptTail value slice (.ref l) (.int k u)) Q E s :=
  item_outK hA (PySem.IsL.isList (n := n) (N _ hm).1) (.inr (by rw [List.size_toArray]; exact hout)) (by omega) hhi hE hs
end
end Mj
end MjRules

section MjRules2
theorem Mj.freshMjRules2 : True := by (w_top off; trivial)
open PySem PySem.W PyProof.Rows PySem.Calls
namespace Mj
section
variable {prog : Program} {w : World} {A : Around} {E : Value → Shared → Prop} {s : Shared} {h₀ : Heap} {L l D b : Addr} {m : Str → Option Value} {news : Led} {n n2 : Nat} {value slice : PySem.Expr} {us us2 : List Value} {vl vu : Value} {lo hi : Option Int} {Q : Value → Shared → Prop}

/-- a slice of a list of the ledger -/
theorem led_slice (F : Fr h₀ L s.heap m) (N : News h₀ L s.heap news) (hm : (l, listOf us.toArray n) ∈ news) (pl : IsPart vl lo) (pu : IsPart vu hi) (hz : us.length < 2 ^ 20)
    (h : ∀ D h', Fr h₀ L h' m → News h₀ L h' ((D, listOf (kms_pick us lo hi).toArray 0) :: news) → (∀ p ∈ news, p.1 < D) → Q (.ref D) { s with heap := h' })
    (hs : subscripted slice false (.ref l) (.ref s.heap.objs.size) = operate [.ref s.heap.objs.size, .ref l] (getItem (.ref l) (.ref s.heap.objs.size)) := by with_unfolding_all rfl) (ht : ∀ r, letTemporaryGo value (.ref l) r = pure () := by intro _; with_unfolding_all rfl) :
    wpAny (model prog w) A (subscriptTail value slice (.ref l) (.ref s.heap.objs.size)) Q E { s with heap := s.heap.push { cls := .type "slice", data := .fields #[vl, vu, .none] } } :=
  kms_slice_lit F N (PySem.IsL.isList (n := n) (N _ hm).1) pl pu (by rw [List.toList_toArray]) h hs ht (by rw [List.size_toArray, sizeLine_eq]; omega)

theorem pick_from (us : List Value) {x : Int} (h : 0 ≤ x) : kms_pick us (some x) none = us.drop x.toNat := by
  unfold kms_pick kms_lo kms_hi
  simp only [if_neg (Int.not_lt.mpr h)]
  rcases Nat.le_total x.toNat us.length with h1 | h1
  · rw [Nat.min_eq_left h1, List.take_of_length_le (by simp)]
  · rw [Nat.min_eq_right h1, List.drop_length, List.drop_of_length_le h1]; simp
theorem pick_upto (us : List Value) {y : Int} (h : 0 ≤ y) : kms_pick us none (some y) = us.take y.toNat := by
  unfold kms_pick kms_lo kms_hi
  simp only [if_neg (Int.not_lt.mpr h), List.drop_zero, Nat.sub_zero]
  rcases Nat.le_total y.toNat us.length with h1 | h1
  · rw [Nat.min_eq_left h1]
  · rw [Nat.min_eq_right h1, List.take_length, List.take_of_length_le h1]
theorem pick_but_last (us : List Value) : kms_pick us none (some (-1)) = us.dropLast := by
  unfold kms_pick kms_lo kms_hi
  simp only [show ((-1 : Int) < 0) from by decide, if_true, List.drop_zero, Nat.sub_zero]
  rw [List.dropLast_eq_take]; rfl

theorem led_extend {news' : Nat → Led} (F : Fr h₀ L s.heap m) (N : News h₀ L s.heap news) (hb : (b, listOf us2.toArray n2) ∈ news) (U : ∀ n', Upd D (listOf us.toArray n) (listOf (us ++ us2).toArray n') news (news' n')) (hz : us.length + us2.length < 2 ^ 20)
    (h : ∀ n' h', Fr h₀ L h' m → News h₀ L h' (news' n') → Q .none { s with heap := h' }) : wpAny (model prog w) A (call (.builtin "list.extend") [.ref D, .ref b]) Q E s := by
  have hd : ¬(!us.toArray.isEmpty && Builtin.List.listTooLong (us.toArray.size + us2.toArray.size)) = true := by
    rw [List.size_toArray, List.size_toArray]
    intro q
    rw [Bool.and_eq_true] at q
    have q2 := q.2
    unfold Builtin.List.listTooLong at q2
    simp only [decide_eq_true_eq] at q2
    rw [sizeLine_eq] at q2
    omega
  have hz1 : us.toArray.toList.length ≤ sizeLine := by rw [List.toList_toArray, sizeLine_eq]; omega
  have hz2 : us.toArray.size + us2.toArray.size ≤ sizeLine + 1 := by rw [List.size_toArray, List.size_toArray, sizeLine_eq]; omega
  cases us2 with
  | nil =>
    have U0 := U n
    rw [List.append_nil] at U0
    exact kxn_extend F N hb rfl U0 hd hz1 hz2 (h n)
  | cons x r => exact kl_extend F N hb (l := us ++ x :: r) rfl (by simp) (U (n + 1)) hd hz1 hz2 (h (n + 1))
end
end Mj
end MjRules2

section MjLoop
theorem Mj.freshMjLoop : True := by (w_top off; trivial)
open PySem PySem.W PyProof.Rows PySem.Spec
namespace Mj

/-- a frame's map: what is written out, over what is not known -/
def ovl (l : List (Str × Value)) (u : Str → Option Value) : Str → Option Value := fun y => match l.lookup y with
  | some v => some v
  | none => u y
def Agree (m : Str → Option Value) : List (Str × Value) → Prop
  | [] => True
  | p :: r => m p.1 = some p.2 ∧ Agree m r
theorem Agree.look {m : Str → Option Value} : ∀ {l : List (Str × Value)}, Agree m l → ∀ {y : Str} {v : Value}, l.lookup y = some v → m y = some v
  | [], _, _, _, e => by cases e
  | (x, v') :: r, h, y, v, e => by
    rw [List.lookup_cons] at e
    cases hb : y == x with
    | true =>
      rw [hb] at e
      have : y = x := eq_of_beq hb
      rw [this, ← Option.some.inj e]; exact h.1
    | false => rw [hb] at e; exact Agree.look h.2 e
theorem Agree.ovl {m : Str → Option Value} {l : List (Str × Value)} (h : Agree m l) : ovl l m = m := by
  funext y
  unfold Mj.ovl
  cases e : l.lookup y with
  | none => rfl
  | some v => exact (h.look e).symm

section
variable {prog : Program} {w : World} {A : Around} {E : Value → Shared → Prop} {Q : Flow → Shared → Prop} {s : Shared} {env : Env} {h₀ : Heap} {L : Addr}

/-- a while's turn's end -/
def WEnd {σ : Type} (h₀ : Heap) (L : Addr) (s : Shared) (fm : σ → List (Str × Value)) (Ld : σ → Led) (P : σ → Prop) (μ : σ → Nat) (c : σ) (s₂ : Shared) : Prop :=
  ∃ (c' : σ) (h' : Heap) (tk : Nat) (m' : Str → Option Value) (news' : Led), s₂ = { s with heap := h', toks := tk } ∧ Fr h₀ L h' m' ∧ News h₀ L h' news' ∧ (∀ p ∈ Ld c', p ∈ news') ∧ Agree m' (fm c') ∧ P c' ∧ μ c' < μ c
def WPost {σ : Type} (h₀ : Heap) (L : Addr) (s : Shared) (fm : σ → List (Str × Value)) (Ld : σ → Led) (P : σ → Prop) (μ : σ → Nat) (Q : Flow → Shared → Prop) (c : σ) (f : Flow) (s₂ : Shared) : Prop :=
  match f with
  | .ret v => Q (.ret v) s₂
  | .brk => Q .next s₂
  | _ => WEnd h₀ L s fm Ld P μ c s₂
theorem wend {σ : Type} {fm : σ → List (Str × Value)} {Ld : σ → Led} {P : σ → Prop} {μ : σ → Nat} {c : σ} {h' : Heap} {tk : Nat} {m' : Str → Option Value} {news' : Led} (c' : σ) (F : Fr h₀ L h' m') (N : News h₀ L h' news') (hn : ∀ p ∈ Ld c', p ∈ news') (ha : Agree m' (fm c')) (hp : P c') (hm : μ c' < μ c) :
    WEnd h₀ L s fm Ld P μ c { s with heap := h', toks := tk } := ⟨c', h', tk, m', news', rfl, F, N, hn, ha, hp, hm⟩

theorem my_while {σ : Type} {test : PySem.Expr} {body : List Stmt} {pos : Pos} {m₀ : Str → Option Value} {news₀ : Led} (fm : σ → List (Str × Value)) (Ld : σ → Led) (P : σ → Prop) (μ : σ → Nat) (c₀ : σ)
    (F : Fr h₀ L s.heap m₀) (N : News h₀ L s.heap news₀) (hn : ∀ p ∈ Ld c₀, p ∈ news₀) (ha : Agree m₀ (fm c₀)) (hp : P c₀)
    (turn : ∀ (c : σ) (u : Str → Option Value) h tk, P c → Fr h₀ L h (ovl (fm c) u) → News h₀ L h (Ld c) →
      wpAny (model prog w) A (isTrue test env (eval test env)) (fun b s₂ =>
        if b = true then wpAny (model prog w) A (execs body env) (WPost h₀ L s fm Ld P μ Q c) E s₂ else Q .next s₂) E { s with heap := h, toks := tk })
    (hE : PassesOwn (model prog w) A env E := by passes_own) :
    wpAny (model prog w) A (exec (.While test body [] pos) env) Q E s := by
  refine While_inv2 (fun n m nx => ∃ c : σ, nx = Ld c ∧ μ c = n ∧ Agree m (fm c) ∧ P c) F (fun p hp => N p (hn p hp)) ⟨c₀, rfl, rfl, ha, hp⟩ ?_ hE
  rintro n m₁ nx h tk F₁ N₁ ⟨c, hnx, hsz, ha', hp'⟩
  rw [hnx] at N₁
  rw [← hsz]
  refine wpAny_mono (turn c m₁ h tk hp' (by rw [ha'.ovl]; exact F₁) N₁) (fun b s₂ p => ?_) fun _ _ x => x
  cases b with
  | false => simpa using p
  | true =>
    simp only [if_true] at p ⊢
    refine wpAny_mono p (fun f s₃ q => ?_) fun _ _ x => x
    cases f with
    | ret v => exact q
    | brk => exact q
    | next =>
      obtain ⟨c', h', tk', m', news', rfl, F', N', hn, ha9, hp9, hm9⟩ := q
      exact ⟨h', tk', m', Ld c', μ c', rfl, F', fun p hp => N' p (hn p hp), hm9, c', rfl, rfl, ha9, hp9⟩
    | cont =>
      obtain ⟨c', h', tk', m', news', rfl, F', N', hn, ha9, hp9, hm9⟩ := q
      exact ⟨h', tk', m', Ld c', μ c', rfl, F', fun p hp => N' p (hn p hp), hm9, c', rfl, rfl, ha9, hp9⟩
end

section
variable {prog : Program} {w : World} {A : Around} {E : Value → Shared → Prop} {s : Shared} {env : Env} {h₀ : Heap} {x : Str} {body : List Stmt} {Q : Flow → Shared → Prop}

/-- a for's turn's end: I is the iterator -/
def FEnd {σ : Type} (h₀ : Heap) (L : Addr) (s₁ : Shared) (fm : σ → List (Str × Value)) (Ld : σ → Led) (P : σ → Prop) (I : Addr) (own : Led) (s₂ : Shared) : Prop :=
  ∃ (c' : σ) (h' : Heap) (tk : Nat) (m' : Str → Option Value) (news' : Led), s₂ = { s₁ with heap := h', toks := tk } ∧ Fr h₀ L h' m' ∧ News h₀ L h' news' ∧ (∀ p ∈ own, p ∈ news') ∧ (∀ p ∈ Ld c', p ∈ news') ∧ (∀ p ∈ Ld c', p.1 ≠ I) ∧ Agree m' (fm c') ∧ P c'
def FPost {σ : Type} (h₀ : Heap) (L : Addr) (s₁ : Shared) (fm : σ → List (Str × Value)) (Ld : σ → Led) (P : σ → Prop) (I : Addr) (own : Led) (Q : Flow → Shared → Prop) (f : Flow) (s₂ : Shared) : Prop :=
  match f with
  | .ret v => Q (.ret v) s₂
  | .brk => Q .next s₂
  | _ => FEnd h₀ L s₁ fm Ld P I own s₂
theorem fend {σ : Type} {L : Addr} {s₁ : Shared} {fm : σ → List (Str × Value)} {Ld : σ → Led} {P : σ → Prop} {I : Addr} {own : Led} {h' : Heap} {tk : Nat} {m' : Str → Option Value} {news' : Led} (c' : σ) (F : Fr h₀ L h' m') (N : News h₀ L h' news') (ho : ∀ p ∈ own, p ∈ news') (hn : ∀ p ∈ Ld c', p ∈ news') (hI : ∀ p ∈ Ld c', p.1 ≠ I) (ha : Agree m' (fm c')) (hp : P c') :
    FEnd h₀ L s₁ fm Ld P I own { s₁ with heap := h', toks := tk } := ⟨c', h', tk, m', news', rfl, F, N, ho, hn, hI, ha, hp⟩

theorem agree_over {m₁ : Str → Option Value} {x : Str} {v : Value} {l : List (Str × Value)} (h : Agree m₁ l) : (fun y => if y = x then some v else m₁ y) = ovl ((x, v) :: l) m₁ := by
  funext y
  unfold ovl
  rw [List.lookup_cons]
  by_cases e : y = x
  · subst e; simp
  · have hb : (y == x) = false := by simp [e]
    rw [hb, if_neg e]
    dsimp only
    cases e' : l.lookup y with
    | none => rfl
    | some v => exact h.look e'

/-- a for by its iterator's walk -/
theorem for_walk {σ : Type} {I : Addr} {fp : List Addr} {n : Nat} {Pv : Nat → Value → Prop} {St : Nat → Heap → Prop} {m₀ : Str → Option Value} {news₀ : Led} {s₂ : Shared} (W : Walks prog w A I fp [I] n Pv St) (hst : St 0 s₂.heap) (hLf : env.locals ∉ fp) (hI : h₀.get? I = none)
    (fm : Nat → σ → List (Str × Value)) (Ld : σ → Led) (P : Nat → σ → Prop) (c₀ : σ) (F : Fr h₀ env.locals s₂.heap m₀) (N : News h₀ env.locals s₂.heap news₀) (hn : ∀ p ∈ Ld c₀, p ∈ news₀) (hne : ∀ p ∈ Ld c₀, p.1 ≠ I) (ha : Agree m₀ (fm 0 c₀)) (hp : P 0 c₀)
    (turn : ∀ i v (c : σ) (u : Str → Option Value) (own : Led) h tk, i < n → Pv i v → P i c → St (i + 1) h → (∀ p ∈ Ld c, p.1 ≠ I) → (∀ b ∈ fp, h₀.get? b = none → ∀ o, h.get? b = some o → (b, o) ∈ own) → (∀ p ∈ own, p.1 ∈ fp) → Fr h₀ env.locals h (ovl ((x, v) :: fm i c) u) → News h₀ env.locals h (own ++ Ld c) →
      wpAny (model prog w) A (execs body env) (FPost h₀ env.locals { s₂ with heap := h, toks := tk } (fm (i + 1)) Ld (P (i + 1)) I own Q) E { s₂ with heap := h, toks := tk })
    (done : ∀ (c : σ) (u : Str → Option Value) h tk, P n c → Fr h₀ env.locals h (ovl (fm n c) u) → News h₀ env.locals h (Ld c) → Q .next { s₂ with heap := h, toks := tk }) :
    LoopAtV prog w A h₀ env x body Q E (.ref I) s₂ := by
  refine ⟨I, fp, [I], n, Pv, St, m₀, Ld c₀, fun i m nx => ∃ c : σ, nx = Ld c ∧ Agree m (fm i c) ∧ P i c, rfl, W, hLf, ?_, ?_, hst, F, fun p hp => N p (hn p hp), ⟨c₀, rfl, ha, hp⟩, ?_, ?_⟩
  · intro b hb; rw [List.mem_singleton.mp hb]; exact hI
  · intro p hp hm; exact hne p hp (List.mem_singleton.mp hm)
  · rintro i v m₁ news₁ s₁ own ⟨h, tk, rfl⟩ hi hP ⟨c, rfl, ha', hp'⟩ hoff hown1 hown hall hst1 F₁ N₁
    rw [agree_over ha'] at F₁
    refine wpAny_mono (turn i v c m₁ own h tk hi hP hp' hst1 (fun p hp e => hoff p hp (by rw [e]; exact List.mem_singleton.mpr rfl)) hall hown1 F₁ N₁) (fun f s₃ q => ?_) fun _ _ e => e
    have fin : FEnd h₀ env.locals { s₂ with heap := h, toks := tk } (fm (i + 1)) Ld (P (i + 1)) I own s₃ → LoopStepU h₀ env.locals [I] own (fun m nx => ∃ c : σ, nx = Ld c ∧ Agree m (fm (i + 1) c) ∧ P (i + 1) c) { s₂ with heap := h, toks := tk } .next s₃ := by
      rintro ⟨c', h', tk', m', news', rfl, F', N', ho, hn', hI', ha', hp'⟩
      refine ⟨rfl, h', tk', m', Ld c', rfl, F', fun p hp => ?_, fun p hp hm => hI' p hp (List.mem_singleton.mp hm), c', rfl, ha', hp'⟩
      rcases List.mem_append.mp hp with h1 | h1
      · exact N' p (ho p h1)
      · exact N' p (hn' p h1)
    cases f with
    | ret v => exact .ret q
    | brk => exact .brk q
    | next => exact .next (fin q)
    | cont => exact .cont (fin q)
  · rintro h' tk m' news' F' N' _ ⟨c, rfl, ha', hp'⟩
    exact done c m' h' tk hp' (by rw [ha'.ovl]; exact F') N'

/-- an end by fewer own entries -/
theorem FEnd.own {σ : Type} {L : Addr} {s₁ s₂ : Shared} {fm : σ → List (Str × Value)} {Ld : σ → Led} {P : σ → Prop} {I : Addr} {own own' : Led} (h : FEnd h₀ L s₁ fm Ld P I own s₂) (hs : ∀ c, P c → ∀ p ∈ own', p ∈ own ∨ p ∈ Ld c) : FEnd h₀ L s₁ fm Ld P I own' s₂ := by
  obtain ⟨c', h', tk, m', news', e, F, N, ho, hn, hI, ha, hp⟩ := h
  exact ⟨c', h', tk, m', news', e, F, N, fun p hq => (hs c' hp p hq).elim (ho p) (hn p), hn, hI, ha, hp⟩
theorem FPost.own {σ : Type} {L : Addr} {s₁ s₂ : Shared} {fm : σ → List (Str × Value)} {Ld : σ → Led} {P : σ → Prop} {I : Addr} {own own' : Led} {f : Flow} (h : FPost h₀ L s₁ fm Ld P I own Q f s₂) (hs : ∀ c, P c → ∀ p ∈ own', p ∈ own ∨ p ∈ Ld c) : FPost h₀ L s₁ fm Ld P I own' Q f s₂ := by
  cases f with
  | ret v => exact h
  | brk => exact h
  | next => exact FEnd.own h hs
  | cont => exact FEnd.own h hs

/-- for x in l, l a list of the ledger that the loop leaves as it is -/
theorem for_list {σ : Type} {l : Addr} {vs : List Value} {e : Nat} {m₀ : Str → Option Value} {news₀ : Led} (hh : A.handled = none)
    (fm : Nat → σ → List (Str × Value)) (Ld : σ → Led) (P : Nat → σ → Prop) (c₀ : σ) (hlc : ∀ c, (l, listOf vs.toArray e) ∈ Ld c) (F : Fr h₀ env.locals s.heap m₀) (N : News h₀ env.locals s.heap news₀) (hn : ∀ p ∈ Ld c₀, p ∈ news₀) (ha : Agree m₀ (fm 0 c₀)) (hp : P 0 c₀)
    (turn : ∀ i v (c : σ) (u : Str → Option Value) (I : Addr) (oI : Obj) h tk, vs[i]? = some v → P i c → (∀ p ∈ Ld c, p.1 ≠ I) → Fr h₀ env.locals h (ovl ((x, v) :: fm i c) u) → News h₀ env.locals h ((I, oI) :: Ld c) →
      wpAny (model prog w) A (execs body env) (FPost h₀ env.locals { s with heap := h, toks := tk } (fm (i + 1)) Ld (P (i + 1)) I [(I, oI)] Q) E { s with heap := h, toks := tk })
    (done : ∀ (c : σ) (u : Str → Option Value) h tk, P vs.length c → Fr h₀ env.locals h (ovl (fm vs.length c) u) → News h₀ env.locals h (Ld c) → Q .next { s with heap := h, toks := tk }) :
    wpAny (model prog w) A (pyIter (.ref l)) (fun it s₂ => LoopAtV prog w A h₀ env x body Q E it s₂) E s := by
  have zl := N _ (hn _ (hlc c₀))
  have hls : s.heap.IsList l vs.toArray := PySem.IsL.isList (n := e) zl.1
  have hlt : l < s.heap.objs.size := Heap.lt_size zl.1
  have hlne : l ≠ s.heap.objs.size := Nat.ne_of_lt hlt
  refine wpAny_pyIter_list hls ?_
  have W := Walks.list (prog := prog) (w := w) hh s.heap.objs.size l hlne vs.toArray
  have up : ∀ b o, s.heap.get? b = some o → (s.heap.push { cls := .type "list_iterator", data := .fields #[.ref l, .int 0 0] }).get? b = some o := fun b o e => Heap.get?_push_of_some _ e
  have hsz : vs.toArray.size = vs.length := List.size_toArray ..
  have hLlt : env.locals < s.heap.objs.size := F.ns.lt
  have hI0 : h₀.get? s.heap.objs.size = none := next_is_new F
  refine for_walk (s₂ := { s with heap := s.heap.push { cls := .type "list_iterator", data := .fields #[.ref l, .int 0 0] } }) W ⟨⟨_, Heap.get?_push_size _ rfl, rfl, rfl⟩, hls.at fun o e => up _ _ e⟩ ?_ hI0 fm Ld P c₀ (F.push _) (N.grown up) hn (fun p hp => Nat.ne_of_lt (Heap.lt_size (N p (hn p hp)).1)) ha hp ?_ ?_
  · intro hm
    rcases List.mem_cons.mp hm with e1 | hm
    · exact absurd hLlt (e1 ▸ Nat.lt_irrefl _)
    · exact zl.2.1 (List.mem_singleton.mp hm).symm
  · intro i v c u own h tk hi hP hc hst hne hall hown F₁ N₁
    have hv : vs[i]? = some v := by simpa using hP
    obtain ⟨oI, hoI, _⟩ := id hst.1
    have hIown : (s.heap.objs.size, oI) ∈ own := hall _ (.head _) hI0 oI hoI
    have hlL := N₁ _ (List.mem_append_right own (hlc c))
    refine wpAny_mono (turn i v c u _ oI h tk hv hc hne F₁ (fun p hp => ?_)) (fun f s₃ q => FPost.own q fun c' _ p hp => ?_) fun _ _ e => e
    · rcases List.mem_cons.mp hp with rfl | hp
      · exact N₁ _ (List.mem_append_left _ hIown)
      · exact N₁ _ (List.mem_append_right _ hp)
    · have z := N₁ p (List.mem_append_left _ hp)
      rcases List.mem_cons.mp (hown p hp) with h1 | h1
      · left
        have : p = (s.heap.objs.size, oI) := by
          obtain ⟨a, o⟩ := p
          simp only at h1; subst h1
          have := z.1; rw [hoI] at this; rw [Option.some.inj this]
        rw [this]; exact List.mem_singleton.mpr rfl
      · right
        have h2 := List.mem_singleton.mp h1
        have : p = (l, listOf vs.toArray e) := by
          obtain ⟨a, o⟩ := p
          simp only at h2; subst h2
          have h3 : some (listOf vs.toArray e) = some o := hlL.1.symm.trans z.1
          rw [Option.some.inj h3]
        rw [this]; exact hlc c'
  · intro c u h tk hc F₁ N₁
    rw [hsz] at hc F₁
    exact done c u h tk hc F₁ N₁

/-- for x in a range -/
theorem for_range {σ : Type} {r : Addr} {a b d : Int} {t1 t2 t3 : Tok} {n : Nat} {m₀ : Str → Option Value} {news₀ : Led} (hh : A.handled = none) (hr : IsRange s.heap r a b d t1 t2 t3) (hsm : Builtin.Range.small a b d = true) (hsn : Builtin.Range.rangeSize a b d = (n : Int))
    (fm : Nat → σ → List (Str × Value)) (Ld : σ → Led) (P : Nat → σ → Prop) (c₀ : σ) (F : Fr h₀ env.locals s.heap m₀) (N : News h₀ env.locals s.heap news₀) (hn : ∀ p ∈ Ld c₀, p ∈ news₀) (ha : Agree m₀ (fm 0 c₀)) (hp : P 0 c₀)
    (turn : ∀ (i : Nat) (t : Tok) (c : σ) (u : Str → Option Value) (I : Addr) (oI : Obj) h tk, i < n → P i c → (∀ p ∈ Ld c, p.1 ≠ I) → Fr h₀ env.locals h (ovl ((x, .int (a + i * d) t) :: fm i c) u) → News h₀ env.locals h ((I, oI) :: Ld c) →
      wpAny (model prog w) A (execs body env) (FPost h₀ env.locals { s with heap := h, toks := tk } (fm (i + 1)) Ld (P (i + 1)) I [(I, oI)] Q) E { s with heap := h, toks := tk })
    (done : ∀ (c : σ) (u : Str → Option Value) h tk, P n c → Fr h₀ env.locals h (ovl (fm n c) u) → News h₀ env.locals h (Ld c) → Q .next { s with heap := h, toks := tk }) :
    wpAny (model prog w) A (pyIter (.ref r)) (fun it s₂ => LoopAtV prog w A h₀ env x body Q E it s₂) E s := by
  refine wpAny_pyIter_range hr hsm ?_
  have W := Walks.range (prog := prog) (w := w) hh s.heap.objs.size a d n
  have up : ∀ b o, s.heap.get? b = some o → (s.heap.push { cls := .type "range_iterator", data := .fields #[rawInt a, rawInt (Builtin.Range.rangeSize a b d), rawInt d] }).get? b = some o := fun b o e => Heap.get?_push_of_some _ e
  have hLlt : env.locals < s.heap.objs.size := F.ns.lt
  have hI0 : h₀.get? s.heap.objs.size = none := next_is_new F
  refine for_walk (s₂ := { s with heap := s.heap.push { cls := .type "range_iterator", data := .fields #[rawInt a, rawInt (Builtin.Range.rangeSize a b d), rawInt d] } }) W (by show IsRangeIter _ _ _ _ _; rw [hsn]; simpa using Heap.get?_push_size _ rfl) ?_ hI0 fm Ld P c₀ (F.push _) (N.grown fun b o e => Heap.get?_push_of_some _ e) hn (fun p hp => Nat.ne_of_lt (Heap.lt_size (N p (hn p hp)).1)) ha hp ?_ ?_
  · intro hm
    have e1 := List.mem_singleton.mp hm
    exact absurd hLlt (e1 ▸ Nat.lt_irrefl _)
  · intro i v c u own h tk hi hP hc hst hne hall hown F₁ N₁
    obtain ⟨t, rfl⟩ := hP
    obtain ⟨oI, hoI⟩ : ∃ oI, h.get? s.heap.objs.size = some oI := ⟨_, hst⟩
    have hIown := hall _ (.head _) hI0 _ hoI
    refine wpAny_mono (turn i t c u _ oI h tk hi hc hne F₁ (fun p hp => ?_)) (fun f s₃ q => FPost.own q fun c' _ p hp => ?_) fun _ _ e => e
    · rcases List.mem_cons.mp hp with rfl | hp
      · exact N₁ _ (List.mem_append_left _ hIown)
      · exact N₁ _ (List.mem_append_right _ hp)
    · have z := N₁ p (List.mem_append_left _ hp)
      have h1 := List.mem_singleton.mp (hown p hp)
      left
      obtain ⟨a', o⟩ := p
      simp only at h1; subst h1
      have := z.1; rw [hoI] at this; rw [Option.some.inj this]
      exact List.mem_singleton.mpr rfl
  · intro c u h tk hc F₁ N₁
    exact done c u h tk hc F₁ N₁
end
end Mj
end MjLoop

section MjSiftdown
theorem Mj.freshMjSiftdown : True := by (w_top off; trivial)
open PySem PySem.W PyProof.Rows
namespace Mj

/-- the plain _siftdown -/
def sdn (x : P) (ps : List P) (pos : Nat) : List P :=
  if 0 < pos then
    if lexLt x.2 (gp ps ((pos - 1) / 2)).2 = true then sdn x (ps.set pos (gp ps ((pos - 1) / 2))) ((pos - 1) / 2) else ps.set pos x
  else ps.set pos x
termination_by pos
decreasing_by omega

theorem sdn_zero (x : P) (ps : List P) : sdn x ps 0 = ps.set 0 x := by rw [sdn, if_neg (Nat.lt_irrefl 0)]
theorem sdn_stop (x : P) (ps : List P) {pos : Int} (h : 0 < pos) (h1 : lexLt x.2 (gp ps ((pos - 1) / 2).toNat).2 = false) : sdn x ps pos.toNat = ps.set pos.toNat x := by
  have e : ((pos - 1) / 2).toNat = (pos.toNat - 1) / 2 := by omega
  rw [e] at h1
  rw [sdn, if_pos (by omega), h1, if_neg (by decide)]
theorem sdn_go (x : P) (ps : List P) {pos : Int} (h : 0 < pos) (h1 : lexLt x.2 (gp ps ((pos - 1) / 2).toNat).2 = true) : sdn x ps pos.toNat = sdn x (ps.set pos.toNat (gp ps ((pos - 1) / 2).toNat)) ((pos - 1) / 2).toNat := by
  have e : ((pos - 1) / 2).toNat = (pos.toNat - 1) / 2 := by omega
  rw [e] at h1 ⊢
  rw [sdn, if_pos (by omega), if_pos h1]

theorem rsh1 {prog : Program} {w : World} {A : Around} {E : Value → Shared → Prop} {s : Shared} {a : Int} {t u : Tok} {Q : Value → Shared → Prop} (h : Q (.int (a / 2) s.toks) { s with toks := s.toks + 1 }) : wpAny (model prog w) A (binaryOp .RShift (.int a t) (.int 1 u)) Q E s := by
  refine rshift_int (by decide) ?_
  rw [Int.fdiv_eq_ediv_of_nonneg _ (by decide)]
  exact h

theorem den_more {k : Bool} {news : Led} {v : Value} {d : List Int} {p : Addr × Obj} (h : Den k news v d) : Den k (p :: news) v d := by
  unfold Den at *
  cases k with
  | true => exact h
  | false =>
    simp only [Bool.false_eq_true, if_false] at *
    obtain ⟨a, vs, n, h1, h2, h3⟩ := h
    exact ⟨a, vs, n, h1, .tail _ h2, h3⟩

local macro_rules | `(tactic| walk_at "subscriptTail Name Name ref int") => `(tactic| (k_here; k_dflt (refine' it_get ?k1 ?k2 ?k3 ?k4 ?k5 ?_; (case k1 => k_asm); (case k2 => k_mem); (case k3 => omega); (case k4 => omega); (case k5 => omega); k_whole)))
local macro_rules | `(tactic| walk_at "setItem ref int") => `(tactic| (k_here; k_dflt (refine' it_set ?k1 ?k2 ?k3 ?k4 ?k5 ?k6 ?_; (case k1 => k_asm); (case k2 => k_asm); (case k3 => assumption); (case k4 => omega); (case k5 => omega); (case k6 => omega); k_whole); intro h' F' N'; (try k_sweep)))
local macro_rules | `(tactic| walk_at "binaryOp RShift int int") => `(tactic| (k_here; with_reducible refine rsh1 ?_))
local macro_rules | `(tactic| walk_at "compareOp Lt") => `(tactic| (k_here; k_dflt (refine' den_lt ?k1 ?k2 ?k3 ?k4 ?_; (case k1 => k_asm); (case k2 => first | assumption | (apply den_more; assumption) | k_extra "den"); (case k3 => first | assumption | (apply den_more; assumption) | k_extra "den"); (case k4 => ktr_units); k_whole)))

set_option maxRecDepth 100000 in
set_option maxHeartbeats 8000000 in
theorem c_siftdown (prog : Program) (w : World) (k : Bool) (l : Addr) (rest : Led) (ps : List P) (e : Nat) (t0 t1 : Tok) (pos : Int) (hp0 : 0 ≤ pos) (hpos : pos < ps.length) (hlen : ps.length < 2 ^ 62) (hne : ∀ p ∈ rest, p.1 ≠ l) (hden : ∀ p ∈ ps, Den k rest p.1 p.2) :
    Con prog w 42 3 100 [.ref l, .int 0 t0, .int pos t1] ((l, listOf (vals ps).toArray e) :: rest) (fun r news' => r = .none ∧ news' = (l, listOf (vals (sdn (gp ps pos.toNat) ps pos.toNat)).toArray e) :: rest) := by
  intro dp un gd cn cs a ccd cl outer A₀ base h₀ L m s mean mg mb Q E B F X N T hk hdp hun hret
  have hdx := hden _ (gp_mem (i := pos.toNat) (by omega))
  refine wpAny_call ?_
  refine code_def (binds := [(Str.ofString "heap", .ref l), (Str.ofString "startpos", .int 0 t0), (Str.ofString "pos", .int pos t1)]) B F X N T rfl rfl hk (by k_is) (by k_is) (by ktr_room) (BindsTo.of_eq rfl) (locs rfl) ?_ rfl rfl rfl (by decide)
  intro g' L' h' FG' F' N' B' X' T'
  dsimp only
  k_fold
  k_with_none
  k_with "exec While Compare cons nil" =>
    (rename Fr _ _ _ _ => F1); (rename News _ _ _ _ => N1)
    with_unfolding_all refine my_while (σ := List P × Int × Tok) (fun c => [(Str.ofString "heap", .ref l), (Str.ofString "startpos", .int 0 t0), (Str.ofString "newitem", (gp ps pos.toNat).1), (Str.ofString "pos", .int c.2.1 c.2.2)]) (fun c => (l, listOf (vals c.1).toArray e) :: rest) (fun c => 0 ≤ c.2.1 ∧ c.2.1 < c.1.length ∧ c.1.length = ps.length ∧ (∀ p ∈ c.1, p ∈ ps) ∧ sdn (gp ps pos.toNat) c.1 c.2.1.toNat = sdn (gp ps pos.toNat) ps pos.toNat) (fun c => c.2.1.toNat) (ps, pos, t1) F1 N1 (fun p hp => hp) ⟨rfl, rfl, rfl, rfl, trivial⟩ ⟨hp0, hpos, rfl, fun p hp => hp, rfl⟩ ?_
    rintro ⟨ps1, pos1, t2⟩ u h tk ⟨i0, i1, i2, i3, i4⟩ F2 N2
    dsimp only at i0 i1 i2 i3 i4 F2 N2
    try k_fold
  k_with "den" =>
    exact den_more (hden _ (i3 _ (gp_mem (by omega))))
  k_with "WPost" =>
    dsimp only [WPost]
  repeat' (first | (k_unfold; (try dsimp only)) | walk1 | (dsimp only; walk1) | (leave1; (try dsimp only)))
  · (rename Fr _ _ _ _ => F1); (rename News _ _ _ _ => N1)
    have hg : 0 < pos1 := by assumption
    have hlt : lexLt (gp ps pos.toNat).2 (gp ps1 ((pos1 - 1) / 2).toNat).2 = true := by assumption
    refine wend (_, _, _) F1 N1 (fun p hp => hp) ⟨rfl, rfl, rfl, rfl, trivial⟩ ?_ (by show ((pos1 - 1) / 2).toNat < pos1.toNat; omega)
    dsimp only
    refine ⟨by omega, by simp only [List.length_set]; omega, by simp only [List.length_set]; exact i2, fun p hp => ?_, ?_⟩
    · rcases List.mem_or_eq_of_mem_set hp with h1 | h1
      · exact i3 p h1
      · rw [h1]; exact i3 _ (gp_mem (by omega))
    · rw [← i4]; exact (sdn_go _ _ hg hlt).symm
  · (rename Fr _ _ _ _ => F1); (rename News _ _ _ _ => N1)
    refine hret _ _ _ _ F1 N1 ⟨rfl, ?_⟩
    rw [← i4, sdn_stop _ _ (by assumption) (by assumption)]
  · (rename Fr _ _ _ _ => F1); (rename News _ _ _ _ => N1)
    refine hret _ _ _ _ F1 N1 ⟨rfl, ?_⟩
    have hz : pos1.toNat = 0 := by omega
    rw [← i4, hz, sdn_zero]
end Mj
end MjSiftdown

section MjSiftup
theorem Mj.freshMjSiftup : True := by (w_top off; trivial)
open PySem PySem.W PyProof.Rows
namespace Mj

/-- the smaller child -/
def chi (ps : List P) (pos : Nat) : Nat := if 2 * pos + 2 < ps.length ∧ lexLt (gp ps (2 * pos + 1)).2 (gp ps (2 * pos + 2)).2 = false then 2 * pos + 2 else 2 * pos + 1
/-- the plain loop of _siftup -/
def sup (ps : List P) (pos : Nat) : List P × Nat :=
  if 2 * pos + 1 < ps.length then sup (ps.set pos (gp ps (chi ps pos))) (chi ps pos) else (ps, pos)
termination_by ps.length - pos
decreasing_by
  simp only [List.length_set, chi]
  split <;> omega

theorem gp_set {ps : List P} {i : Nat} {x : P} (h : i < ps.length) : gp (ps.set i x) i = x := by simp [gp, h]
theorem sup_stop {ps : List P} {pos : Nat} (h : ¬ 2 * pos + 1 < ps.length) : sup ps pos = (ps, pos) := by rw [sup, if_neg h]
theorem sup_go {ps : List P} {pos : Nat} (h : 2 * pos + 1 < ps.length) : sup ps pos = sup (ps.set pos (gp ps (chi ps pos))) (chi ps pos) := by rw [sup, if_pos h]

theorem chi_r {ps : List P} {pos : Int} (h0 : 0 ≤ pos) (h : 2 * pos + 1 + 1 < ps.length) (h2 : lexLt (gp ps (2 * pos + 1).toNat).2 (gp ps (2 * pos + 1 + 1).toNat).2 = false) : chi ps pos.toNat = (2 * pos + 1 + 1).toNat := by
  have e1 : (2 * pos + 1).toNat = 2 * pos.toNat + 1 := by omega
  have e2 : (2 * pos + 1 + 1).toNat = 2 * pos.toNat + 2 := by omega
  rw [e1, e2] at h2
  rw [e2, chi, if_pos ⟨by omega, h2⟩]
theorem chi_l {ps : List P} {pos : Int} (h0 : 0 ≤ pos) (h2 : lexLt (gp ps (2 * pos + 1).toNat).2 (gp ps (2 * pos + 1 + 1).toNat).2 = true) : chi ps pos.toNat = (2 * pos + 1).toNat := by
  have e1 : (2 * pos + 1).toNat = 2 * pos.toNat + 1 := by omega
  have e2 : (2 * pos + 1 + 1).toNat = 2 * pos.toNat + 2 := by omega
  rw [e1, e2] at h2
  rw [e1, chi, if_neg (by rw [h2]; simp)]
theorem chi_e {ps : List P} {pos : Int} (h0 : 0 ≤ pos) (h : ¬ 2 * pos + 1 + 1 < ps.length) : chi ps pos.toNat = (2 * pos + 1).toNat := by
  have e1 : (2 * pos + 1).toNat = 2 * pos.toNat + 1 := by omega
  rw [e1, chi, if_neg (by omega)]
theorem sup_int {ps ps0 : List P} {pos c : Int} {r : List P × Nat} (h0 : 0 ≤ pos) (h : 2 * pos + 1 < ps0.length) (hl : ps.length = ps0.length) (hc : chi ps pos.toNat = c.toNat) (hs : sup ps pos.toNat = r) : sup (ps.set pos.toNat (gp ps c.toNat)) c.toNat = r := by
  rw [← hs, sup_go (ps := ps) (pos := pos.toNat) (by omega), hc]

local macro_rules | `(tactic| walk_at "subscriptTail Name Name ref int") => `(tactic| (k_here; k_dflt (refine' it_get ?k1 ?k2 ?k3 ?k4 ?k5 ?_; (case k1 => k_asm); (case k2 => k_mem); (case k3 => omega); (case k4 => omega); (case k5 => omega); k_whole)))
local macro_rules | `(tactic| walk_at "setItem ref int") => `(tactic| (k_here; k_dflt (refine' it_set ?k1 ?k2 ?k3 ?k4 ?k5 ?k6 ?_; (case k1 => k_asm); (case k2 => k_asm); (case k3 => assumption); (case k4 => omega); (case k5 => omega); (case k6 => omega); k_whole); intro h' F' N'; (try k_sweep)))
local macro_rules | `(tactic| walk_at "compareOp Lt") => `(tactic| (k_here; k_dflt (refine' den_lt ?k1 ?k2 ?k3 ?k4 ?_; (case k1 => k_asm); (case k2 => first | assumption | (apply den_more; assumption) | k_extra "den"); (case k3 => first | assumption | (apply den_more; assumption) | k_extra "den"); (case k4 => ktr_units); k_whole)))

local macro_rules | `(tactic| walk_at "exec While Compare cons nil") => `(tactic| with_reducible refine Stop.mk ?_)
local macro_rules | `(tactic| walk_at "call ref") => `(tactic| with_reducible refine Stop.mk ?_)
local macro_rules | `(tactic| walk_at "call builtin:len") => `(tactic| (k_here; k_dflt (refine' it_len ?k1 ?k2 ?k3 ?_; (case k1 => k_asm); (case k2 => k_mem); (case k3 => omega); k_whole); intro t' tk'))

set_option maxRecDepth 100000 in
set_option maxHeartbeats 8000000 in
theorem c_siftup (prog : Program) (w : World) (k : Bool) (l : Addr) (rest : Led) (ps : List P) (e : Nat) (t0 : Tok) (hpos : 0 < ps.length) (hlen : ps.length < 2 ^ 60) (hne : ∀ p ∈ rest, p.1 ≠ l) (hden : ∀ p ∈ ps, Den k rest p.1 p.2) :
    Con prog w 49 5 200 [.ref l, .int 0 t0] ((l, listOf (vals ps).toArray e) :: rest) (fun r news' => r = .none ∧ news' = (l, listOf (vals (sdn (gp ps 0) ((sup ps 0).1.set (sup ps 0).2 (gp ps 0)) (sup ps 0).2)).toArray e) :: rest) := by
  intro dp un gd cn cs a ccd cl outer A₀ base h₀ L m s mean mg mb Q E B F X N T hk hdp hun hret
  have hdx := hden _ (gp_mem (i := 0) (by omega))
  refine wpAny_call ?_
  refine code_def (binds := [(Str.ofString "heap", .ref l), (Str.ofString "pos", .int 0 t0)]) B F X N T rfl rfl hk (by k_is) (by k_is) (by ktr_room) (BindsTo.of_eq rfl) (locs rfl) ?_ rfl rfl rfl (by decide)
  intro g' L' h' FG' F' N' B' X' T'
  dsimp only
  k_fold
  k_with_none
  k_with "den" =>
    exact den_more (hden _ (i3 _ (gp_mem (by omega))))
  k_with "WPost" =>
    dsimp only [WPost]
  repeat' (first | (k_unfold; (try dsimp only)) | walk1 | (dsimp only; walk1) | (leave1; (try dsimp only)))
  refine Stop.out ?_
  (rename Fr _ _ _ _ => F1); (rename News _ _ _ _ => N1)
  with_unfolding_all refine my_while (σ := List P × Int × Tok × Tok) (fun c => [(Str.ofString "heap", .ref l), (Str.ofString "startpos", .int 0 t0), (Str.ofString "newitem", (gp ps 0).1), (Str.ofString "pos", .int c.2.1 c.2.2.1), (Str.ofString "endpos", .int ps.length _), (Str.ofString "childpos", .int (2 * c.2.1 + 1) c.2.2.2)]) (fun c => (l, listOf (vals c.1).toArray e) :: rest) (fun c => 0 ≤ c.2.1 ∧ c.2.1 < c.1.length ∧ c.1.length = ps.length ∧ (∀ p ∈ c.1, p ∈ ps) ∧ sup c.1 c.2.1.toNat = sup ps 0) (fun c => c.1.length - c.2.1.toNat) (ps, 0, _, _) F1 N1 (fun p hp => hp) ⟨rfl, rfl, rfl, rfl, rfl, rfl, trivial⟩ ⟨Int.le_refl 0, by dsimp only; omega, rfl, fun p hp => hp, rfl⟩ ?_
  rintro ⟨ps1, pos1, t1, t2⟩ u h tk ⟨i0, i1, i2, i3, i4⟩ F2 N2
  dsimp only at i0 i1 i2 i3 i4 F2 N2
  try k_fold
  repeat' (first | (k_unfold; (try dsimp only)) | walk1 | (dsimp only; walk1) | (leave1; (try dsimp only)))
  · (rename Fr _ _ _ _ => F1); (rename News _ _ _ _ => N1)
    refine wend (_, _, _, _) F1 N1 (fun p hp => hp) ⟨rfl, rfl, rfl, rfl, rfl, rfl, trivial⟩ ?_ (by dsimp only; simp only [List.length_set]; omega)
    dsimp only
    refine ⟨by omega, by simp only [List.length_set]; omega, by simp only [List.length_set]; exact i2, fun p hp => ?_, sup_int i0 (by assumption) i2 (chi_l i0 (by assumption)) i4⟩
    rcases List.mem_or_eq_of_mem_set hp with h1 | h1
    · exact i3 p h1
    · rw [h1]; exact i3 _ (gp_mem (by omega))
  · (rename Fr _ _ _ _ => F1); (rename News _ _ _ _ => N1)
    refine wend (_, _, _, _) F1 N1 (fun p hp => hp) ⟨rfl, rfl, rfl, rfl, rfl, rfl, trivial⟩ ?_ (by dsimp only; simp only [List.length_set]; omega)
    dsimp only
    refine ⟨by omega, by simp only [List.length_set]; omega, by simp only [List.length_set]; exact i2, fun p hp => ?_, sup_int i0 (by assumption) i2 (chi_r i0 (by omega) (by assumption)) i4⟩
    rcases List.mem_or_eq_of_mem_set hp with h1 | h1
    · exact i3 p h1
    · rw [h1]; exact i3 _ (gp_mem (by omega))
  · (rename Fr _ _ _ _ => F1); (rename News _ _ _ _ => N1)
    refine wend (_, _, _, _) F1 N1 (fun p hp => hp) ⟨rfl, rfl, rfl, rfl, rfl, rfl, trivial⟩ ?_ (by dsimp only; simp only [List.length_set]; omega)
    dsimp only
    refine ⟨by omega, by simp only [List.length_set]; omega, by simp only [List.length_set]; exact i2, fun p hp => ?_, sup_int i0 (by assumption) i2 (chi_e i0 (by omega)) i4⟩
    rcases List.mem_or_eq_of_mem_set hp with h1 | h1
    · exact i3 p h1
    · rw [h1]; exact i3 _ (gp_mem (by omega))
  · refine Stop.out ?_
    (rename Fr _ _ _ _ => F1); (rename News _ _ _ _ => N1)
    have hz : sup ps 0 = (ps1, pos1.toNat) := by rw [← i4]; exact sup_stop (by omega)
    refine (c_siftdown prog w k l rest (ps1.set pos1.toNat (gp ps 0)) e _ _ pos1 i0 (by simp only [List.length_set]; omega) (by simp only [List.length_set]; omega) hne (fun p hp => ?_)).use B' F1 X' N1 T' rfl (by ktr_room) (by ktr_units) ?_
    · rcases List.mem_or_eq_of_mem_set hp with h1 | h1
      · exact hden _ (i3 p h1)
      · rw [h1]; exact hdx
    rintro r9 news9 h9 tk9 F9 N9 ⟨rfl, rfl⟩
    dsimp only
    repeat' (first | (k_unfold; (try dsimp only)) | walk1 | (dsimp only; walk1) | (leave1; (try dsimp only)))
    (rename Fr _ _ _ _ => F1); (rename News _ _ _ _ => N1)
    refine hret _ _ _ _ F1 N1 ⟨rfl, ?_⟩
    rw [hz, gp_set (by omega)]
end Mj
end MjSiftup

section MjHeapOps
theorem Mj.freshMjHeapOps : True := by (w_top off; trivial)
open PySem PySem.W PyProof.Rows
namespace Mj

theorem gp_dropLast {ps : List P} {i : Nat} (h : i < ps.length - 1) : gp ps.dropLast i = gp ps i := by
  have h2 : i < ps.length := by omega
  simp [gp, h, h2]
/-- the plain heappop: what it hands out, and what is left -/
def hpopR (ps : List P) : P := gp ps 0
def hpopL (ps : List P) : List P := if ps.length ≤ 1 then [] else
  let q := ps.dropLast.set 0 (gp ps (ps.length - 1))
  sdn (gp q 0) ((sup q 0).1.set (sup q 0).2 (gp q 0)) (sup q 0).2

local macro_rules | `(tactic| walk_at "subscriptTail Name") => `(tactic| (k_here; k_dflt (refine' it_get ?k1 ?k2 ?k3 ?k4 ?k5 ?_; (case k1 => k_asm); (case k2 => k_mem); (case k3 => omega); (case k4 => omega); (case k5 => omega); k_whole)))
local macro_rules | `(tactic| walk_at "setItem ref int") => `(tactic| (k_here; k_dflt (refine' it_set ?k1 ?k2 ?k3 ?k4 ?k5 ?k6 ?_; (case k1 => k_asm); (case k2 => k_asm); (case k3 => assumption); (case k4 => omega); (case k5 => omega); (case k6 => omega); k_whole); intro h' F' N'; (try k_sweep)))
local macro_rules | `(tactic| walk_at "call ref") => `(tactic| with_reducible refine Stop.mk ?_)
local macro_rules | `(tactic| walk_at "call builtin:len") => `(tactic| (k_here; k_dflt (refine' it_len ?k1 ?k2 ?k3 ?_; (case k1 => k_asm); (case k2 => k_mem); (case k3 => omega); k_whole); intro t' tk'))
local macro_rules | `(tactic| walk_at "call builtin:list.append") => `(tactic| (k_here; k_dflt (refine' it_app ?k1 ?k2 ?k3 ?k4 ?_; (case k1 => k_asm); (case k2 => k_asm); (case k3 => assumption); (case k4 => omega); k_whole); intro h' F' N'; (try k_sweep)))
local macro_rules | `(tactic| walk_at "call builtin:list.pop") => `(tactic| (k_here; k_dflt (refine' it_pop ?k1 ?k2 ?k3 ?k4 ?k5 ?_; (case k1 => k_asm); (case k2 => k_asm); (case k3 => assumption); (case k4 => omega); (case k5 => omega); k_whole); intro h' F' N'; (try k_sweep)))
local macro_rules | `(tactic| walk_at "truthy ref") => `(tactic| (k_here; k_dflt (refine' it_truthy ?k1 ?k2 ?k3 ?_; (case k1 => k_asm); (case k2 => k_mem); (case k3 => omega); k_whole); intro tk'))

set_option maxRecDepth 100000 in
set_option maxHeartbeats 8000000 in
theorem c_heappush (prog : Program) (w : World) (k : Bool) (l : Addr) (rest : Led) (ps : List P) (e : Nat) (x : P) (hlen : ps.length < 2 ^ 20) (hne : ∀ p ∈ rest, p.1 ≠ l) (hden : ∀ p ∈ ps, Den k rest p.1 p.2) (hx : Den k rest x.1 x.2) :
    Con prog w 28 5 200 [.ref l, x.1] ((l, listOf (vals ps).toArray e) :: rest) (fun r news' => r = .none ∧ news' = (l, listOf (vals (sdn x (ps ++ [x]) ps.length)).toArray (e + 1)) :: rest) := by
  intro dp un gd cn cs a ccd cl outer A₀ base h₀ L m s mean mg mb Q E B F X N T hk hdp hun hret
  refine wpAny_call ?_
  refine code_def (binds := [(Str.ofString "heap", .ref l), (Str.ofString "item", x.1)]) B F X N T rfl rfl hk (by k_is) (by k_is) (by ktr_room) (BindsTo.of_eq rfl) (locs rfl) ?_ rfl rfl rfl (by decide)
  intro g' L' h' FG' F' N' B' X' T'
  dsimp only
  k_fold
  k_with_none
  have hl1 : (ps ++ [x]).length = ps.length + 1 := by simp
  repeat' (first | (k_unfold; (try dsimp only)) | walk1 | (dsimp only; walk1) | (leave1; (try dsimp only)))
  refine Stop.out ?_
  (rename Fr _ _ _ _ => F1); (rename News _ _ _ _ => N1)
  refine (c_siftdown prog w k l rest (ps ++ [x]) (e + 1) _ _ _ (by omega) (by omega) (by omega) hne (fun p hp => ?_)).use B' F1 X' N1 T' rfl (by ktr_room) (by ktr_units) ?_
  · rcases List.mem_append.mp hp with h1 | h1
    · exact hden _ h1
    · rw [List.mem_singleton.mp h1]; exact hx
  rintro r9 news9 h9 tk9 F9 N9 ⟨rfl, rfl⟩
  dsimp only
  repeat' (first | (k_unfold; (try dsimp only)) | walk1 | (dsimp only; walk1) | (leave1; (try dsimp only)))
  (rename Fr _ _ _ _ => F1); (rename News _ _ _ _ => N1)
  refine hret _ _ _ _ F1 N1 ⟨rfl, ?_⟩
  have e1 : (((ps ++ [x]).length : Int) - 1).toNat = ps.length := by omega
  have e2 : gp (ps ++ [x]) ps.length = x := by simp [gp]
  rw [e1, e2]

set_option maxRecDepth 100000 in
set_option maxHeartbeats 8000000 in
theorem c_heappop (prog : Program) (w : World) (k : Bool) (l : Addr) (rest : Led) (ps : List P) (e : Nat) (hpos : 0 < ps.length) (hlen : ps.length < 2 ^ 20) (hne : ∀ p ∈ rest, p.1 ≠ l) (hden : ∀ p ∈ ps, Den k rest p.1 p.2) :
    Con prog w 35 7 300 [.ref l] ((l, listOf (vals ps).toArray e) :: rest) (fun r news' => r = (hpopR ps).1 ∧ news' = (l, listOf (vals (hpopL ps)).toArray (e + 1)) :: rest) := by
  intro dp un gd cn cs a ccd cl outer A₀ base h₀ L m s mean mg mb Q E B F X N T hk hdp hun hret
  refine wpAny_call ?_
  refine code_def (binds := [(Str.ofString "heap", .ref l)]) B F X N T rfl rfl hk (by k_is) (by k_is) (by ktr_room) (BindsTo.of_eq rfl) (locs rfl) ?_ rfl rfl rfl (by decide)
  intro g' L' h' FG' F' N' B' X' T'
  dsimp only
  k_fold
  k_with_none
  have hl1 : ps.dropLast.length = ps.length - 1 := by simp
  repeat' (first | (k_unfold; (try dsimp only)) | walk1 | (dsimp only; walk1) | (leave1; (try dsimp only)))
  · have hd : 0 < ps.dropLast.length := by assumption
    refine Stop.out ?_
    (rename Fr _ _ _ _ => F1); (rename News _ _ _ _ => N1)
    refine (c_siftup prog w k l rest (ps.dropLast.set 0 (gp ps (ps.length - 1))) (e + 1) _ (by simp only [List.length_set]; omega) (by simp only [List.length_set]; omega) hne (fun p hp => ?_)).use B' F1 X' N1 T' rfl (by ktr_room) (by ktr_units) ?_
    · rcases List.mem_or_eq_of_mem_set hp with h1 | h1
      · exact hden _ (List.dropLast_subset ps h1)
      · rw [h1]; exact hden _ (gp_mem (by omega))
    rintro r9 news9 h9 tk9 F9 N9 ⟨rfl, rfl⟩
    dsimp only
    repeat' (first | (k_unfold; (try dsimp only)) | walk1 | (dsimp only; walk1) | (leave1; (try dsimp only)))
    (rename Fr _ _ _ _ => F1); (rename News _ _ _ _ => N1)
    refine hret _ _ _ _ F1 N1 ⟨?_, ?_⟩
    · show (gp ps.dropLast 0).1 = (gp ps 0).1
      rw [gp_dropLast (by omega)]
    · rw [hpopL, if_neg (by omega)]
  · have hd : ¬ 0 < ps.dropLast.length := by assumption
    have h1 : ps.length = 1 := by omega
    have h2 : ps.dropLast = [] := List.length_eq_zero_iff.mp (by omega)
    (rename Fr _ _ _ _ => F1); (rename News _ _ _ _ => N1)
    refine hret _ _ _ _ F1 N1 ⟨?_, ?_⟩
    · rw [h1]; rfl
    · rw [hpopL, if_pos (by omega), h2]
end Mj
end MjHeapOps

section MjPure
theorem Mj.freshMjPure : True := by (w_top off; trivial)
namespace Mj

/-! the order -/
def le (a b : List Int) : Prop := lexLt b a = false
theorem lexLt_irrefl : ∀ a : List Int, lexLt a a = false
  | [] => rfl
  | x :: r => by simp [lexLt, lexLt_irrefl r]
theorem le_refl (a : List Int) : le a a := lexLt_irrefl a
theorem le_of_lt : ∀ {a b : List Int}, lexLt a b = true → le a b
  | [], [], h => by simp [lexLt] at h
  | [], _ :: _, _ => rfl
  | _ :: _, [], h => by simp [lexLt] at h
  | x :: r, y :: q, h => by
    unfold le
    simp only [lexLt] at h ⊢
    by_cases e : x = y
    · subst e; simp only [if_true] at h ⊢; exact le_of_lt h
    · rw [if_neg e] at h
      rw [if_neg (fun q => e q.symm)]
      simp only [decide_eq_true_eq, decide_eq_false_iff_not] at h ⊢
      omega
theorem le_antisymm : ∀ {a b : List Int}, le a b → le b a → a = b
  | [], [], _, _ => rfl
  | [], _ :: _, _, h => by simp [le, lexLt] at h
  | _ :: _, [], h, _ => by simp [le, lexLt] at h
  | x :: r, y :: q, h1, h2 => by
    unfold le at h1 h2
    simp only [lexLt] at h1 h2
    by_cases e : x = y
    · subst e
      simp only [if_true] at h1 h2
      rw [le_antisymm h1 h2]
    · rw [if_neg e] at h2
      rw [if_neg (fun q => e q.symm)] at h1
      simp only [decide_eq_false_iff_not] at h1 h2
      omega
theorem le_trans : ∀ {a b c : List Int}, le a b → le b c → le a c
  | [], _, [], _, _ => rfl
  | [], _, _ :: _, _, _ => rfl
  | _ :: _, [], _, h, _ => by simp [le, lexLt] at h
  | _ :: _, _ :: _, [], _, h => by simp [le, lexLt] at h
  | x :: r, y :: q, z :: p, h1, h2 => by
    unfold le at h1 h2 ⊢
    simp only [lexLt] at h1 h2 ⊢
    by_cases e : y = x
    · subst e
      simp only [if_true] at h1
      by_cases e' : z = y
      · subst e'
        simp only [if_true] at h2 ⊢
        exact le_trans h1 h2
      · rw [if_neg e'] at h2 ⊢
        exact h2
    · rw [if_neg e] at h1
      by_cases e' : z = y
      · subst e'
        rw [if_neg e]; exact h1
      · rw [if_neg e'] at h2
        simp only [decide_eq_false_iff_not] at h1 h2
        by_cases e2 : z = x
        · omega
        · rw [if_neg e2]; simp only [decide_eq_false_iff_not]; omega
theorem le_total (a b : List Int) : le a b ∨ le b a := by
  cases h : lexLt b a with
  | false => exact .inl h
  | true => exact .inr (le_of_lt h)
theorem le_one (a b : Int) : le [a] [b] ↔ a ≤ b := by
  unfold le
  simp only [lexLt]
  by_cases e : b = a
  · subst e; simp
  · rw [if_neg e]; simp only [decide_eq_false_iff_not]; omega

/-! items -/
theorem gp_set_ne {ps : List P} {i j : Nat} {x : P} (h : i ≠ j) : gp (ps.set i x) j = gp ps j := by simp [gp, List.getElem?_set_ne h]
theorem gp_get {ps : List P} {i : Nat} (h : i < ps.length) : gp ps i = ps[i] := by simp [gp, h]
theorem set_swap {ps : List P} {i j : Nat} {x : P} (hi : i < ps.length) (hj : j < ps.length) (hne : i ≠ j) : ((ps.set i (gp ps j)).set j x).Perm (ps.set i x) := by
  have h := List.set_set_perm (as := ps.set i x) (i := i) (j := j) (by simpa using hi) (by simpa using hj)
  have e1 : (ps.set i x)[j]'(by simpa using hj) = gp ps j := by rw [gp_get hj]; simp [hne]
  have e2 : (ps.set i x)[i]'(by simpa using hi) = x := by simp
  rw [e1, e2, List.set_set] at h
  exact h

def HeapInv (ps : List P) : Prop := ∀ i, 0 < i → i < ps.length → le (gp ps ((i - 1) / 2)).2 (gp ps i).2

/-- all is in order but at the hole -/
def Hole (ps : List P) (pos : Nat) : Prop :=
  (∀ i, 0 < i → i < ps.length → i ≠ pos → (i - 1) / 2 ≠ pos → le (gp ps ((i - 1) / 2)).2 (gp ps i).2) ∧
  (∀ c, 0 < c → c < ps.length → (c - 1) / 2 = pos → 0 < pos → le (gp ps ((pos - 1) / 2)).2 (gp ps c).2)

theorem sdn_length (x : P) (ps : List P) (pos : Nat) : (sdn x ps pos).length = ps.length := by
  fun_induction sdn x ps pos <;> simp_all
theorem sdn_perm (x : P) (ps : List P) (pos : Nat) (h : pos < ps.length) : (sdn x ps pos).Perm (ps.set pos x) := by
  fun_induction sdn x ps pos with
  | case1 ps pos h0 hlt ih =>
    exact (ih (by simp only [List.length_set]; omega)).trans (set_swap h (by omega) (by omega))
  | case2 => exact .refl _
  | case3 => exact .refl _

theorem heap_set {ps : List P} {pos : Nat} {x : P} (hp : pos < ps.length) (H : Hole ps pos) (hc : ∀ c, 0 < c → c < ps.length → (c - 1) / 2 = pos → le x.2 (gp ps c).2) (hu : 0 < pos → le (gp ps ((pos - 1) / 2)).2 x.2) : HeapInv (ps.set pos x) := by
  intro i h0 hi
  simp only [List.length_set] at hi
  by_cases e : i = pos
  · subst e
    rw [gp_set hp, gp_set_ne (by omega)]
    exact hu h0
  · rw [gp_set_ne (j := i) (fun q => e q.symm)]
    by_cases e2 : (i - 1) / 2 = pos
    · rw [e2, gp_set hp]; exact hc i h0 hi e2
    · rw [gp_set_ne (fun q => e2 q.symm)]; exact H.1 i h0 hi e e2

theorem sdn_heap (x : P) (ps : List P) (pos : Nat) (hp : pos < ps.length) (H : Hole ps pos) (hc : ∀ c, 0 < c → c < ps.length → (c - 1) / 2 = pos → le x.2 (gp ps c).2) : HeapInv (sdn x ps pos) := by
  fun_induction sdn x ps pos with
  | case1 ps pos h0 hlt ih =>
    have hq : (pos - 1) / 2 < pos := by omega
    refine ih (by simp only [List.length_set]; omega) ⟨fun i i0 hi e1 e2 => ?_, fun c c0 hcl e1 e0 => ?_⟩ fun c c0 hcl e1 => ?_
    · simp only [List.length_set] at hi
      by_cases e3 : (i - 1) / 2 = pos
      · rw [e3, gp_set hp, gp_set_ne (by omega)]
        exact H.2 i i0 hi e3 h0
      · by_cases e4 : i = pos
        · exact absurd (by rw [e4]) e2
        · rw [gp_set_ne (fun q => e3 q.symm), gp_set_ne (fun q => e4 q.symm)]
          exact H.1 i i0 hi e4 e3
    · simp only [List.length_set] at hcl
      rw [gp_set_ne (j := ((pos - 1) / 2 - 1) / 2) (by omega)]
      have h1 : le (gp ps (((pos - 1) / 2 - 1) / 2)).2 (gp ps ((pos - 1) / 2)).2 := H.1 ((pos - 1) / 2) e0 (by omega) (by omega) (by omega)
      by_cases e4 : c = pos
      · rw [e4, gp_set hp]; exact h1
      · rw [gp_set_ne (fun q => e4 q.symm)]
        have h2 := H.1 c c0 hcl e4 (by omega)
        rw [e1] at h2
        exact le_trans h1 h2
    · simp only [List.length_set] at hcl
      by_cases e4 : c = pos
      · rw [e4, gp_set hp]; exact le_of_lt hlt
      · rw [gp_set_ne (fun q => e4 q.symm)]
        have h2 := H.1 c c0 hcl e4 (by omega)
        rw [e1] at h2
        exact le_trans (le_of_lt hlt) h2
  | case2 ps pos h0 hlt =>
    refine heap_set hp H hc fun _ => ?_
    unfold le
    cases h : lexLt x.2 (gp ps ((pos - 1) / 2)).2 with
    | false => rfl
    | true => exact absurd h hlt
  | case3 ps pos h0 => exact heap_set hp H hc fun h => absurd h h0

theorem chi_or (ps : List P) (pos : Nat) : chi ps pos = 2 * pos + 1 ∨ (chi ps pos = 2 * pos + 2 ∧ 2 * pos + 2 < ps.length) := by
  unfold chi
  by_cases h : 2 * pos + 2 < ps.length ∧ lexLt (gp ps (2 * pos + 1)).2 (gp ps (2 * pos + 2)).2 = false
  · rw [if_pos h]; exact .inr ⟨rfl, h.1⟩
  · rw [if_neg h]; exact .inl rfl
theorem chi_lt {ps : List P} {pos : Nat} (h : 2 * pos + 1 < ps.length) : chi ps pos < ps.length := by
  rcases chi_or ps pos with e | ⟨e, h2⟩ <;> omega
theorem chi_par (ps : List P) (pos : Nat) : (chi ps pos - 1) / 2 = pos ∧ pos < chi ps pos := by
  rcases chi_or ps pos with e | ⟨e, _⟩ <;> omega
theorem chi_min {ps : List P} {pos c : Nat} (hc : 0 < c) (hl : c < ps.length) (e : (c - 1) / 2 = pos) : le (gp ps (chi ps pos)).2 (gp ps c).2 := by
  have h1 : c = 2 * pos + 1 ∨ c = 2 * pos + 2 := by omega
  unfold chi
  by_cases h : 2 * pos + 2 < ps.length ∧ lexLt (gp ps (2 * pos + 1)).2 (gp ps (2 * pos + 2)).2 = false
  · rw [if_pos h]
    rcases h1 with e1 | e1
    · rw [e1]; exact h.2
    · rw [e1]; exact le_refl _
  · rw [if_neg h]
    rcases h1 with e1 | e1
    · rw [e1]; exact le_refl _
    · rw [e1]
      have : lexLt (gp ps (2 * pos + 1)).2 (gp ps (2 * pos + 2)).2 = true := by
        cases q : lexLt (gp ps (2 * pos + 1)).2 (gp ps (2 * pos + 2)).2 with
        | true => rfl
        | false => exact absurd ⟨by omega, q⟩ h
      exact le_of_lt this

theorem sup_all (ps : List P) (pos : Nat) (hp : pos < ps.length) (H : Hole ps pos) : Hole (sup ps pos).1 (sup ps pos).2 ∧ (sup ps pos).1.length = ps.length ∧ (sup ps pos).2 < ps.length ∧ ¬ 2 * (sup ps pos).2 + 1 < ps.length ∧ ∀ x, ((sup ps pos).1.set (sup ps pos).2 x).Perm (ps.set pos x) := by
  fun_induction sup ps pos with
  | case1 ps pos h ih =>
    have hc := chi_lt h
    obtain ⟨hpar, hlt⟩ := chi_par ps pos
    have H' : Hole (ps.set pos (gp ps (chi ps pos))) (chi ps pos) := by
      refine ⟨fun i i0 hi e1 e2 => ?_, fun c c0 hcl e1 e0 => ?_⟩
      · simp only [List.length_set] at hi
        by_cases e3 : i = pos
        · subst e3
          rw [gp_set hp, gp_set_ne (by omega)]
          exact H.2 (chi ps i) (by omega) hc hpar i0
        · rw [gp_set_ne (j := i) (fun q => e3 q.symm)]
          by_cases e4 : (i - 1) / 2 = pos
          · rw [e4, gp_set hp]; exact chi_min i0 hi e4
          · rw [gp_set_ne (fun q => e4 q.symm)]; exact H.1 i i0 hi e3 e4
      · simp only [List.length_set] at hcl
        rw [hpar, gp_set hp, gp_set_ne (by omega)]
        have h2 := H.1 c c0 hcl (by omega) (by omega)
        rw [e1] at h2; exact h2
    obtain ⟨a1, a2, a3, a4, a5⟩ := ih (by simp only [List.length_set]; exact hc) H'
    simp only [List.length_set] at a2 a3 a4
    exact ⟨a1, a2, a3, a4, fun x => (a5 x).trans (set_swap hp hc (by omega))⟩
  | case2 ps pos h => exact ⟨H, rfl, hp, h, fun _ => .refl _⟩

/-! heappush, heappop -/
def hpush (ps : List P) (x : P) : List P := sdn x (ps ++ [x]) ps.length
theorem hpush_heap {ps : List P} {x : P} (h : HeapInv ps) : HeapInv (hpush ps x) := by
  refine sdn_heap x _ _ (by simp) ⟨fun i i0 hi e1 e2 => ?_, fun c c0 hc e1 _ => ?_⟩ fun c c0 hc e1 => ?_
  · simp only [List.length_append, List.length_singleton] at hi
    have a1 : gp (ps ++ [x]) i = gp ps i := by simp [gp, List.getElem?_append_left (show i < ps.length by omega)]
    have a2 : gp (ps ++ [x]) ((i - 1) / 2) = gp ps ((i - 1) / 2) := by simp [gp, List.getElem?_append_left (show (i - 1) / 2 < ps.length by omega)]
    rw [a1, a2]
    exact h i i0 (by omega)
  · simp only [List.length_append, List.length_singleton] at hc; omega
  · simp only [List.length_append, List.length_singleton] at hc; omega
theorem hpush_perm (ps : List P) (x : P) : (hpush ps x).Perm (x :: ps) := by
  refine (sdn_perm x _ _ (by simp)).trans ?_
  have e : (ps ++ [x]).set ps.length x = ps ++ [x] := by simp
  rw [e]
  exact List.perm_append_singleton x ps
theorem heap_root {ps : List P} (h : HeapInv ps) : ∀ i, i < ps.length → le (gp ps 0).2 (gp ps i).2 := by
  intro i
  induction i using Nat.strongRecOn with
  | _ i ih =>
    intro hi
    by_cases e : i = 0
    · rw [e]; exact le_refl _
    · exact le_trans (ih ((i - 1) / 2) (by omega) (by omega)) (h i (by omega) hi)
theorem perm_ends : ∀ {ps : List P}, ¬ ps.length ≤ 1 → ps.Perm (gp ps 0 :: ps.dropLast.set 0 (gp ps (ps.length - 1)))
  | [], e => absurd (Nat.zero_le _) e
  | p :: r, e => by
    have hr : r ≠ [] := by intro e'; rw [e'] at e; simp at e
    have hdl : (p :: r).dropLast = p :: r.dropLast := by
      cases r with
      | nil => exact absurd rfl hr
      | cons a b => rfl
    have hlast : gp (p :: r) ((p :: r).length - 1) = r.getLast hr := by
      rw [gp_get (by simp)]
      have := List.getLast_eq_getElem (l := p :: r) (by simp)
      rw [← this, List.getLast_cons hr]
    rw [hdl, List.set_cons_zero, hlast]
    have : (gp (p :: r) 0) = p := rfl
    rw [this]
    refine List.Perm.cons p ?_
    have h2 := List.dropLast_concat_getLast hr
    conv => lhs; rw [← h2]
    exact List.perm_append_singleton _ _
theorem hpop_perm {ps : List P} (h0 : 0 < ps.length) (h : HeapInv ps) : HeapInv (hpopL ps) ∧ ps.Perm (hpopR ps :: hpopL ps) ∧ ∀ q ∈ hpopL ps, le (hpopR ps).2 q.2 := by
  have key : HeapInv (hpopL ps) ∧ ps.Perm (hpopR ps :: hpopL ps) := by
    unfold hpopL hpopR
    by_cases e : ps.length ≤ 1
    · rw [if_pos e]
      refine ⟨fun i i0 hi => absurd hi (by simp), ?_⟩
      match ps, h0, e with
      | [p], _, _ => exact .refl _
    · rw [if_neg e]
      generalize hq : ps.dropLast.set 0 (gp ps (ps.length - 1)) = q
      have hl : q.length = ps.length - 1 := by rw [← hq]; simp
      have hql : 0 < q.length := by omega
      have H : Hole q 0 := by
        refine ⟨fun i i0 hi e1 e2 => ?_, fun c _ _ _ e0 => absurd e0 (Nat.lt_irrefl 0)⟩
        rw [← hq, gp_set_ne (j := (i - 1) / 2) (by omega), gp_set_ne (j := i) (by omega), gp_dropLast (by omega), gp_dropLast (by omega)]
        exact h i i0 (by omega)
      obtain ⟨a1, a2, a3, a4, a5⟩ := sup_all q 0 hql H
      have q0 : gp q 0 = gp ps (ps.length - 1) := by rw [← hq]; exact gp_set (by simp; omega)
      have hp2 : (sup q 0).2 < (sup q 0).1.length := by omega
      refine ⟨?_, ?_⟩
      · refine sdn_heap _ _ _ (by simp only [List.length_set]; exact hp2) ⟨fun i i0 hi e1 e2 => ?_, fun c c0 hc e1 e0 => ?_⟩ fun c c0 hc e1 => ?_
        · simp only [List.length_set] at hi
          rw [gp_set_ne (fun q => e2 q.symm), gp_set_ne (fun q => e1 q.symm)]
          exact a1.1 i i0 hi e1 e2
        · simp only [List.length_set] at hc; omega
        · simp only [List.length_set] at hc; omega
      · have p1 := sdn_perm (gp q 0) ((sup q 0).1.set (sup q 0).2 (gp q 0)) (sup q 0).2 (by simp only [List.length_set]; exact hp2)
        rw [List.set_set] at p1
        have p2 := p1.trans (a5 (gp q 0))
        have e3 : q.set 0 (gp q 0) = q := by
          have : gp q 0 = q[0] := gp_get hql
          rw [this]; exact List.set_getElem_self hql
        rw [e3] at p2
        refine List.Perm.trans ?_ (List.Perm.cons _ p2.symm)
        rw [← hq]
        exact perm_ends e
  refine ⟨key.1, key.2, fun q hq => ?_⟩
  have hm : q ∈ ps := key.2.mem_iff.mpr (.tail _ hq)
  obtain ⟨i, hi, e⟩ := List.getElem_of_mem hm
  have := heap_root h i hi
  rw [gp_get hi, e] at this
  exact this
end Mj
end MjPure

section MjOrder
theorem Mj.freshMjOrder : True := by (w_top off; trivial)
open PySem PySem.W PyProof.Rows
namespace Mj

local macro_rules | `(tactic| walk_at "call ref") => `(tactic| with_reducible refine Stop.mk ?_)
local macro_rules | `(tactic| walk_at "pyIter ref") => `(tactic| with_reducible refine Stop.mk ?_)
local macro_rules | `(tactic| walk_at "exec While Compare cons nil") => `(tactic| with_reducible refine Stop.mk ?_)
local macro_rules | `(tactic| walk_at "call builtin:list.append") => `(tactic| with_reducible refine Stop.mk ?_)
local macro_rules | `(tactic| walk_at "newList") => `(tactic| (k_here; k_dflt (refine' newList_K ?k1 ?k2 ?_; (case k1 => k_asm); (case k2 => k_asm); k_whole); intro l' h' F' N' l1; (try k_sweep)))
local macro_rules | `(tactic| walk_at "compareOp NotEq ref ref") => `(tactic| (k_here; k_dflt (refine' led_ne_nil ?k1 ?k2 ?k3 ?k4 ?_; (case k1 => k_asm); (case k2 => k_mem); (case k3 => k_mem); (case k4 => ktr_units); k_whole)))

set_option maxRecDepth 100000 in
set_option maxHeartbeats 8000000 in
theorem c_order (prog : Program) (w : World) (ln : Addr) (vs : List Value) (ns : List Int) (e : Nat) (news : Led) (hm : (ln, listOf vs.toArray e) ∈ news) (hi : IntsAre vs ns) (hlen : ns.length < 1000) :
    Con prog w 56 9 400 [.ref ln] news (fun r news' => ∃ lr e' ys rs, r = .ref lr ∧ news' = (lr, listOf (List.toArray ys) e') :: news ∧ (∀ p ∈ news, p.1 < lr) ∧ IntsAre ys rs ∧ rs.Perm ns ∧ rs.Pairwise (· ≤ ·)) := by
  intro dp un gd cn cs a ccd cl outer A₀ base h₀ L m s mean mg mb Q E B F X N T hk hdp hun hret
  have hvl := hi.length
  have hiK : Keep (IntsAre vs ns) := ⟨hi⟩
  refine wpAny_call ?_
  refine code_def (binds := [(Str.ofString "numbers", .ref ln)]) B F X N T rfl rfl hk (by k_is) (by k_is) (by ktr_room) (BindsTo.of_eq rfl) (locs rfl) ?_ rfl rfl rfl (by decide)
  intro g' L' h' FG' F' N' B' X' T'
  dsimp only
  k_fold
  k_with_none
  repeat' (first | (k_unfold; (try dsimp only)) | walk1 | (dsimp only; walk1) | (leave1; (try dsimp only)))
  rename_i lh hh1 hlt hh2 F1 N1
  refine Stop.out ?_
  with_unfolding_all refine for_list (σ := List P × Nat) (l := ln) (vs := vs) (e := e) rfl (fun _ _ => [(Str.ofString "heap", .ref lh), (Str.ofString "numbers", .ref ln)]) (fun c => (lh, listOf (vals c.1).toArray c.2) :: news) (fun i c => HeapInv c.1 ∧ c.1.length = i ∧ (∀ p ∈ c.1, Den true news p.1 p.2) ∧ (c.1.map fun p => p.2).Perm ((ns.take i).map fun n => [n])) ([], 0) (fun c => .tail _ hm) F1 N1 (fun p hp => hp) ⟨rfl, rfl, trivial⟩ ⟨fun i _ h => absurd h (Nat.not_lt_zero _), rfl, (fun p hp => absurd hp List.not_mem_nil), List.Perm.refl _⟩ ?_ ?_
  · intro i v c u I oI h tk hv hP hne F2 N2
    obtain ⟨ps, ep⟩ := c
    obtain ⟨i1, i2, i3, i4⟩ := hP
    dsimp only at i1 i2 i3 i4 hne F2 N2
    have hil : i < ns.length := by
      have := (List.getElem?_eq_some_iff.mp hv).1; omega
    obtain ⟨t, ht⟩ := ints_at hiK.out hil
    rw [ht] at hv
    cases hv
    try k_fold
    repeat' (first | (k_unfold; (try dsimp only)) | walk1 | (dsimp only; walk1) | (leave1; (try dsimp only)))
    refine Stop.out ?_
    have F3 := F2
    (rename Fr _ _ _ _ => F4); (rename News _ _ _ _ => N4)
    have hIlh : lh ≠ I := hne _ (.head _)
    have hI2 : ∀ p ∈ news, p.1 ≠ I := fun p hp => hne p (.tail _ hp)
    refine (c_heappush prog w true lh ((I, oI) :: news) ps ep (Value.int ns[i] t, [ns[i]]) (by omega) ?_ (fun p hp => den_more (i3 p hp)) ⟨_, _, rfl, rfl⟩).use B' F4 X' (fun p hp => N4 p ?_) T' rfl (by ktr_room) (by ktr_units) ?_
    · intro p hp
      rcases List.mem_cons.mp hp with rfl | hp
      · exact fun q => hIlh q.symm
      · exact Nat.ne_of_lt (hlt p hp)
    · rcases List.mem_cons.mp hp with rfl | hp
      · exact .tail _ (.head _)
      · rcases List.mem_cons.mp hp with rfl | hp
        · exact .head _
        · exact .tail _ (.tail _ hp)
    rintro r9 news9 h9 tk9 F9 N9 ⟨rfl, rfl⟩
    dsimp only
    repeat' (first | (k_unfold; (try dsimp only)) | walk1 | (dsimp only; walk1) | (leave1; (try dsimp only)))
    refine fend (hpush ps (Value.int ns[i] t, [ns[i]]), ep + 1) F9 N9 ?_ ?_ ?_ ⟨rfl, rfl, trivial⟩ ⟨hpush_heap i1, ?_, ?_, ?_⟩
    · intro p hp; rw [List.mem_singleton.mp hp]; exact .tail _ (.head _)
    · intro p hp
      rcases List.mem_cons.mp hp with rfl | hp
      · exact .head _
      · exact .tail _ (.tail _ hp)
    · intro p hp
      rcases List.mem_cons.mp hp with rfl | hp
      · exact hIlh
      · exact hI2 p hp
    · rw [(hpush_perm _ _).length_eq]; simp [i2]
    · intro p hp
      rcases List.mem_cons.mp ((hpush_perm _ _).mem_iff.mp hp) with rfl | hp
      · exact ⟨_, _, rfl, rfl⟩
      · exact i3 p hp
    · refine ((hpush_perm ps (Value.int ns[i] t, [ns[i]])).map _).trans ?_
      rw [List.map_cons, List.take_add_one, List.getElem?_eq_getElem hil, List.map_append]
      exact (List.Perm.cons _ i4).trans (List.perm_append_singleton _ _).symm
  · rintro ⟨ps, ep⟩ u h tk ⟨i1, i2, i3, i4⟩ F2 N2
    dsimp only at i1 i2 i3 i4 F2 N2
    repeat' (first | (k_unfold; (try dsimp only)) | walk1 | (dsimp only; walk1) | (leave1; (try dsimp only)))
    rename_i lr hh3 F0 N0 hlt2 hh4 F3 N3
    refine Stop.out ?_
    rw [show vs.length = ns.length from hvl, List.take_length] at i4
    have i5 : (ps.map fun p => p.2.headD 0).Perm ns := by
      have := i4.map (fun d : List Int => d.headD 0)
      rw [List.map_map, List.map_map] at this
      simpa [Function.comp_def] using this
    with_unfolding_all refine my_while (σ := List P × Nat × List Value × List Int × Nat) (fun c => [(Str.ofString "heap", .ref lh), (Str.ofString "lengths", .ref lr)]) (fun c => (lh, listOf (vals c.1).toArray c.2.1) :: (lr, listOf c.2.2.1.toArray c.2.2.2.2) :: news) (fun c => HeapInv c.1 ∧ (∀ p ∈ c.1, Den true news p.1 p.2) ∧ IntsAre c.2.2.1 c.2.2.2.1 ∧ c.2.2.2.1.Pairwise (· ≤ ·) ∧ (∀ r ∈ c.2.2.2.1, ∀ p ∈ c.1, r ≤ p.2.headD 0) ∧ (c.2.2.2.1 ++ c.1.map fun p => p.2.headD 0).Perm ns) (fun c => c.1.length) (ps, ep, [], [], 0) F3 N3 ?_ ⟨rfl, rfl, trivial⟩ ⟨i1, i3, .nil, .nil, fun r hr => absurd hr List.not_mem_nil, i5⟩ ?_
    · intro p hp
      rcases List.mem_cons.mp hp with rfl | hp
      · exact .tail _ (.head _)
      · rcases List.mem_cons.mp hp with rfl | hp
        · exact .head _
        · exact .tail _ (.tail _ hp)
    rintro ⟨ps, ep, ys, rs, e2⟩ u h tk ⟨j1, j2, j3, j4, j5, j6⟩ F2 N2
    dsimp only at j1 j2 j3 j4 j5 j6 F2 N2
    have j3K : Keep (IntsAre ys rs) := ⟨j3⟩
    have j6l : rs.length + ps.length = ns.length := by have := j6.length_eq; simpa using this
    have j3l := j3.length
    try k_fold
    repeat' (first | (k_unfold; (try dsimp only)) | walk1 | (dsimp only; walk1) | (leave1; (try dsimp only)))
    · rename_i l0 hh5 F4 N4 l1 hpos
      refine Stop.out ?_
      have hlr : lh < lr := hlt2 _ (.head _)
      have hnr : ∀ p ∈ news, p.1 < lr := fun p hp => hlt2 p (.tail _ hp)
      rw [vals_length] at hpos
      refine (c_heappop prog w true lh ((lr, listOf ys.toArray e2) :: news) ps ep hpos (by omega) ?_ (fun p hp => den_more (j2 p hp))).use B' F4 X' (fun p hp => N4 p (.tail _ hp)) T' rfl (by ktr_room) (by ktr_units) ?_
      · intro p hp
        rcases List.mem_cons.mp hp with rfl | hp
        · exact Nat.ne_of_gt hlr
        · exact Nat.ne_of_lt (hlt p hp)
      rintro r9 news9 h9 tk9 F9 N9 ⟨rfl, rfl⟩
      obtain ⟨q1, q2, q3⟩ := hpop_perm hpos j1
      have hmR : hpopR ps ∈ ps := q2.mem_iff.mpr (.head _)
      obtain ⟨n9, t9, e9, d9⟩ := j2 _ hmR
      rw [e9]
      dsimp only
      repeat' (first | (k_unfold; (try dsimp only)) | walk1 | (dsimp only; walk1) | (leave1; (try dsimp only)))
      refine Stop.out ?_
      refine append_K F9 N9 (Upd.tail (Nat.ne_of_lt hlr) (Upd.head fun p hp => Nat.ne_of_lt (hnr p hp))) ?_ (by rw [List.size_toArray, sizeLine_eq]; omega)
      intro h10 F10 N10
      rw [List.push_toArray] at N10
      repeat' (first | (k_unfold; (try dsimp only)) | walk1 | (dsimp only; walk1) | (leave1; (try dsimp only)))
      refine wend (hpopL ps, ep + 1, ys ++ [.int n9 t9], rs ++ [n9], e2 + 1) F10 N10 (fun p hp => hp) ⟨rfl, rfl, trivial⟩ ⟨q1, ?_, ?_, ?_, ?_, ?_⟩ ?_
      · exact fun p hp => j2 p (q2.mem_iff.mpr (.tail _ hp))
      · exact IntsAre.append j3K.out (.cons _ _ .nil)
      · refine List.pairwise_append.mpr ⟨j4, List.pairwise_singleton _ _, fun r hr b hb => ?_⟩
        rw [List.mem_singleton.mp hb]
        have := j5 r hr _ hmR
        rw [d9] at this; exact this
      · intro r hr p hp
        have hpm : p ∈ ps := q2.mem_iff.mpr (.tail _ hp)
        rcases List.mem_append.mp hr with h1 | h1
        · exact j5 r h1 p hpm
        · rw [List.mem_singleton.mp h1]
          obtain ⟨n8, t8, e8, d8⟩ := j2 p hpm
          have := q3 p hp
          rw [d8, d9, le_one] at this
          rw [d8]; exact this
      · refine List.Perm.trans ?_ j6
        rw [List.append_assoc]
        refine List.Perm.append_left rs ?_
        have := (q2.map fun p => p.2.headD 0).symm
        rw [List.map_cons, d9] at this
        exact this
      · have := q2.length_eq
        simp only [List.length_cons] at this
        show (hpopL ps).length < ps.length
        omega
    · rename_i l0 hh5 F4 N4 l1 hpos kF kN Tc kX
      rw [vals_length] at hpos
      have h0 : ps = [] := List.length_eq_zero_iff.mp (by omega)
      rw [h0, List.map_nil, List.append_nil] at j6
      refine hret _ _ _ _ kF (fun p hp => kN p ?_) ⟨lr, e2, ys, rs, rfl, rfl, fun p hp => hlt2 p (.tail _ hp), j3K.out, j6, j4⟩
      rcases List.mem_cons.mp hp with rfl | hp
      · exact .tail _ (.tail _ (.head _))
      · exact .tail _ (.tail _ (.tail _ hp))
end Mj
end MjOrder

section MjExc
theorem Mj.freshMjExc : True := by (w_top off; trivial)
open PySem PySem.W PyProof.Rows PySem.Spec
namespace Mj
open PyProof.Rows.TI (Frs SameUp)

/-- an exception that was raised while e₁ was being handled -/
structure NewCtx (h h' : Heap) (e : Addr) (cls : String) (e₁ : Addr) : Prop where
  keeps : ∀ b o, h.get? b = some o → h'.get? b = some o
  new : h.get? e = none
  there : ∃ ob t, h'.get? e = some ob ∧ ob.cls = .type cls ∧ ob.data = .fields #[t, .none, .ref e₁, .none, .bool false, .none]

theorem plain_unchain : plainId "proto.unchain" = true := by decide +kernel
theorem entry_unchain : entryFor table "proto.unchain" = some Builtin.«proto.unchain» := entryFor_of_fast (by kernel_rfl)

section
variable {α : Type} {prog : Program} {w : World} {A : Around} {E : Value → Shared → Prop} {s : Shared}

theorem unchain_none {v h : Value} {a : Addr} {o : Obj} {vs : Array Value} {Q : Value → Shared → Prop} (ho : s.heap.get? a = some o) (hd : o.data = .fields vs) (h2 : vs[2]? = some .none) (hq : Q .none s) :
    wpAny (model prog w) A (runValue (.builtin "proto.unchain" ⟨[v, .ref a, h, .bool false], []⟩)) Q E s := by
  refine wpAny_runValue (codeAny_builtin entry_unchain ?_)
  unfold Builtin.«proto.unchain»
  refine wpAny_bind (wpAny_field ho hd h2 ?_)
  exact wpAny_pure hq

theorem raiseWords_ctx {cls msg : String} {Q : α → Shared → Prop} {e₁ : Addr} {o : Obj} {vs : Array Value} (hp : PlainExc cls) (hh : A.handled = some (.ref e₁)) (ho : s.heap.get? e₁ = some o) (hd : o.data = .fields vs) (h2 : vs[2]? = some .none)
    (h : ∀ h' tk e, NewCtx s.heap h' e cls e₁ → E (.ref e) { s with heap := h', toks := tk }) :
    wpAny (model prog w) A (raiseErrorWords cls msg : Sem α) Q E s := by
  unfold raiseErrorWords
  refine wpAny_bind (wpAny_mkText (wpAny_bind ?_))
  unfold newExc newTuple
  refine wpAny_bind (wpAny_newObj_type ?_)
  refine wpAny_bind (m := firstArgMember _ _) (wpAny_of_eq (a := Value.none) (by simp only [firstArgMember, hp.first]; rfl) ?_)
  rw [hp.own]
  refine wpAny_newObj_type ?_
  unfold raiseNew
  refine wpAny_bind (wpAny_handled ?_)
  rw [hh]
  have hlt : e₁ < s.heap.objs.size := Heap.lt_size ho
  dsimp only
  have keep1 : ∀ b o, s.heap.get? b = some o → (s.heap.push { cls := .type "tuple", data := .seq #[.str (Str.ofString msg) s.toks] }).get? b = some o := fun b o e => Heap.get?_push_of_some _ e
  have hsz : (s.heap.push { cls := .type "tuple", data := .seq #[.str (Str.ofString msg) s.toks] }).objs.size = s.heap.objs.size + 1 := Heap.size_push ..
  generalize s.heap.push { cls := .type "tuple", data := .seq #[.str (Str.ofString msg) s.toks] } = H at *
  have keep2 : ∀ b o, s.heap.get? b = some o → (H.push { cls := .type cls, data := .fields (#[.ref s.heap.objs.size, .none, .none, .none, .bool false, .none] ++ #[]) }).get? b = some o := fun b o e => Heap.get?_push_of_some _ (keep1 b o e)
  rw [if_pos (by have h9 : e₁ ≠ H.objs.size := Nat.ne_of_lt (by rw [hsz]; exact Nat.lt_succ_of_lt hlt); simp [h9])]
  refine wpAny_bind (wpAny_holding (unchain_none (keep2 _ _ ho) hd h2 ?_))
  have hnew : (H.push { cls := .type cls, data := .fields (#[.ref s.heap.objs.size, .none, .none, .none, .bool false, .none] ++ #[]) }).get? H.objs.size = some { cls := .type cls, data := .fields (#[.ref s.heap.objs.size, .none, .none, .none, .bool false, .none] ++ #[]) } := Heap.get?_push_size _ rfl
  refine wpAny_bind (wpAny_setField (i := 2) (x := .ref e₁) hnew rfl (by simp) (wpAny_throw ?_))
  refine h _ _ _ ⟨fun b o hb => ?_, Heap.get?_none_of_le (by rw [hsz]; exact Nat.le_succ _), _, .ref s.heap.objs.size, Heap.get?_update_self _ hnew rfl, rfl, rfl⟩
  have hb' : b ≠ H.objs.size := Nat.ne_of_lt (by rw [hsz]; exact Nat.lt_succ_of_lt (Heap.lt_size hb))
  exact (Heap.get?_update_ne _ _ _ _ hb').trans (keep2 b o hb)

theorem getItem_out_ctx {l : Addr} {items : Array Value} {k : Int} {t : Tok} {Q : Value → Shared → Prop} {e₁ : Addr} {o₁ : Obj} {vs : Array Value} (hh : A.handled = some (.ref e₁)) (he : s.heap.get? e₁ = some o₁) (hd1 : o₁.data = .fields vs) (h2 : vs[2]? = some .none) (hl : s.heap.IsList l items)
    (hout : (items.size : Int) ≤ k) (hlo : 0 ≤ k) (hhi : k < 2 ^ 63) (hE : ∀ h' tk e, NewCtx s.heap h' e "IndexError" e₁ → E (.ref e) { s with heap := h', toks := tk }) :
    wpAny (model prog w) A (getItem (.ref l) (.int k t)) Q E s := by
  obtain ⟨o, ho, hc, ne, hd⟩ := id hl
  unfold getItem
  try with_reducible refine wpAny_holding ?_
  first | refine wpAny_bind (wpAny_pure ?_) | skip
  refine wpAny_bind (wpAny_sequenceKey hl.typeIs (by decide) ?_)
  refine wpAny_bind (wpAny_callSpecial?_slot (name := Str.ofString "__getitem__") hl.typeIs slot_list_getitem
    (wpAny_call_entry slot_list_getitem hl.typeIs entry_list_getitem ?_ (args_list_getitem _ _)))
  show wpAny _ _ (Builtin.List.listSubscript? (.int k t) >>= _) _ _ s
  refine wpAny_bind (wpAny_listSubscript_int (fitsIndex_both (by omega) hhi) ?_)
  clear hhi
  cases k with
  | ofNat j =>
    have hx : items[j]? = none := Array.getElem?_eq_none (by have : (items.size : Int) ≤ (j : Int) := hout; omega)
    show wpAny _ _ ((seqItemAt l j >>= fun r => pure (r.map (j, ·))) >>= _) _ _ s
    refine wpAny_bind (wpAny_bind (wpAny_seqItemAt ho hd (wpAny_pure ?_)))
    rw [hx]
    first
      | exact wpAny_bind (wpAny_rule (raiseWords_ctx plainExc_IndexError hh he hd1 h2 hE))
      | exact wpAny_bind (wpAny_rule (wpAny_bind (raiseWords_ctx plainExc_IndexError hh he hd1 h2 hE)))
      | exact wpAny_bind (wpAny_bind (wpAny_rule (raiseWords_ctx plainExc_IndexError hh he hd1 h2 hE)))
      | exact wpAny_rule (raiseWords_ctx plainExc_IndexError hh he hd1 h2 hE)
  | negSucc j => exact absurd hlo (by have := Int.negSucc_lt_zero j; omega)

theorem led_out_ctx {value slice : PySem.Expr} {h₀ : Heap} {L l : Addr} {news : Led} {n : Nat} {us : List Value} {k : Int} {u : Tok} {Q : Value → Shared → Prop} {e₁ : Addr} {o₁ : Obj} {vs : Array Value} (hh : A.handled = some (.ref e₁)) (N : News h₀ L s.heap news) (hm : (l, listOf us.toArray n) ∈ news) (he : (e₁, o₁) ∈ news) (hd1 : o₁.data = .fields vs) (h2 : vs[2]? = some .none)
    (hout : (us.length : Int) ≤ k) (hlo : 0 ≤ k) (hhi : k < 2 ^ 63) (hE : ∀ h' tk e, NewCtx s.heap h' e "IndexError" e₁ → E (.ref e) { s with heap := h', toks := tk })
    (hs : subscripted slice false (.ref l) (.int k u) = operate [.ref l, .int k u] (getItem (.ref l) (.int k u)) := by with_unfolding_all rfl) :
    wpAny (model prog w) A (subscriptTail value slice (.ref l) (.int k u)) Q E s := by
  have hl := PySem.IsL.isList (n := n) (N _ hm).1
  exact tail_any hl.typeIs slot_list_getitem.lookup (getItem_out_ctx hh (N _ he).1 hd1 h2 hl (by rw [List.size_toArray]; exact hout) hlo hhi hE) hs
end

/-- a traceback's entry, fl its flight -/
def TbIs (o : Obj) (fl : Value) : Prop := ∃ ts, o.data = .fields ts ∧ ts[3]? = some fl

section
variable {prog : Program} {w : World} {A₀ A : Around} {E : Value → Shared → Prop} {s : Shared} {hb : Heap} {L a e : Addr} {m : Str → Option Value} {name : Str} {scope : Scope} {cd : Value} {Q : Unit → Shared → Prop} {l : List Env} {frs new : Led}

theorem sameUp_in {h h' : Heap} (hs : ∀ b o, h.get? b = some o → ∃ sl, h'.get? b = some { o with slots := sl }) : ∀ {frs : Led}, (∀ p ∈ frs, h.get? p.1 = some p.2) → ∃ frs', SameUp frs frs' ∧ ∀ p ∈ frs', h'.get? p.1 = some p.2
  | [], _ => ⟨[], trivial, fun _ hp => nomatch hp⟩
  | p :: r, hf => by
    obtain ⟨sl, h1⟩ := hs p.1 p.2 (hf p (.head _))
    obtain ⟨r', h2, h3⟩ := sameUp_in hs fun q hq => hf q (.tail _ hq)
    refine ⟨(p.1, { p.2 with slots := sl }) :: r', ⟨rfl, ⟨sl, rfl⟩, h2⟩, fun q hq => ?_⟩
    rcases List.mem_cons.mp hq with rfl | hq
    · exact h1
    · exact h3 q hq
theorem sameUp_addr : ∀ {a b : Led}, SameUp a b → b.map (·.1) = a.map (·.1)
  | [], [], _ => rfl
  | [], _ :: _, h => False.elim h
  | _ :: _, [], h => False.elim h
  | p :: ps, q :: qs, h => by rw [List.map_cons, List.map_cons, h.1, sameUp_addr h.2.2]
theorem frs_up : ∀ {l : List Env} {a b : Led}, Frs l a → SameUp a b → Frs l b
  | [], [], [], _, _ => trivial
  | [], [], _ :: _, _, h => False.elim h
  | [], _ :: _, _, h, _ => False.elim h
  | _ :: _, [], _, h, _ => False.elim h
  | _ :: _, _ :: _, [], _, h => False.elim h
  | env :: l, p :: ps, q :: qs, ⟨h1, h2, ⟨es, ep, h3⟩, h4⟩, ⟨g1, ⟨sl, g2⟩, g3⟩ => ⟨h1, by rw [h2, g1], ⟨es, ep, by rw [g2]; exact h3⟩, frs_up h4 g3⟩
theorem frs_frames : ∀ {l : List Env} {frs : Led}, Frs l frs → l.filterMap (·.frame) = frs.map (·.1)
  | [], [], _ => rfl
  | [], _ :: _, h => False.elim h
  | _ :: _, [], h => False.elim h
  | env :: l, p :: ps, ⟨_, h2, _, h4⟩ => by rw [List.filterMap_cons_some h2, List.map_cons, frs_frames h4]

theorem fun_frames : ∀ {l : List Env} {frs : Led}, Frs l frs → (∀ p ∈ frs, s.heap.get? p.1 = some p.2 ∧ hb.get? p.1 = none) → s.heap.FunFrames hb l
  | [], [], _, _ => trivial
  | [], _ :: _, h, _ => False.elim h
  | _ :: _, [], h, _ => False.elim h
  | env :: l, p :: ps, ⟨h1, h2, ⟨es, ep, h3⟩, h4⟩, hp => ⟨h1, ⟨p.1, p.2, h2, (hp p (.head _)).2, (hp p (.head _)).1, fun vs q => by rw [h3] at q; cases q⟩, fun_frames h4 fun q hq => hp q (.tail _ hq)⟩

theorem note1 {vs : Array Value} {ob : Obj} (hfr : A.frames = some (envOf name scope L a cd :: l)) (hk : scope.kind = .function) (Fs : Frs l frs) (F : Fr hb L s.heap m) (N : News hb L s.heap ((e, ob) :: (new ++ frs))) (hap : ∀ p ∈ (e, ob) :: new, p.1 ∉ frs.map (·.1)) (hne : ∀ p ∈ new ++ frs, p.1 ≠ e)
    (hd : ob.data = .fields vs) (hsz : 1 < vs.size) (h1 : vs[1]? = some .none)
    (k : ∀ h' T oT ob' frs', SameUp frs frs' → Fr hb L h' m → News hb L h' ((T, oT) :: (e, ob') :: (new ++ frs')) → ob'.data = .fields (vs.setIfInBounds 1 (.ref T)) → ob'.cls = ob.cls → TbIs oT (rawInt L) → (∀ p ∈ (e, ob) :: (new ++ frs), p.1 < T) → Q () { s with heap := h' }) :
    wpAny (model prog w) A (noteFrame (.ref e) (envOf name scope L a cd)) Q E s := by
  obtain ⟨oL, es, ep, hL, hLd, hLr⟩ := F.ns
  have hL0 : hb.get? L = none := Heap.get?_none_of_le F.above
  have he := N (e, ob) (.head _)
  have hkind : (envOf name scope L a cd).scope.kind ≠ .module := by
    show scope.kind ≠ .module
    rw [hk]; decide
  have hff : s.heap.FunFrames hb (envOf name scope L a cd :: l) := ⟨hkind, ⟨L, oL, rfl, hL0, hL, fun vs q => by rw [hLd] at q; cases q⟩, fun_frames Fs fun p hp => ⟨(N p (.tail _ (List.mem_append_right _ hp))).1, (N p (.tail _ (List.mem_append_right _ hp))).2.2⟩⟩
  have hfm : (envOf name scope L a cd :: l).filterMap (·.frame) = L :: frs.map (·.1) := by
    rw [List.filterMap_cons_some (show (envOf name scope L a cd).frame = some L from rfl), frs_frames Fs]
  unfold noteFrame
  simp only [show (envOf name scope L a cd).frame = some L from rfl]
  refine wpAny_bind (wpAny_field he.1 hd h1 ?_)
  rw [if_neg (by decide)]
  refine wpAny_bind (wpAny_frameOf_fun hfr hff rfl fun h₁ hs₁ => ?_)
  rw [hfm] at hs₁
  refine wpAny_bind (wpAny_entryPlaceOf fun pl hpl => ?_)
  unfold EntryCells.newEntry newFields
  refine wpAny_bind (wpAny_newObj_type ?_ (hpl.sizeOk5 _ _ _ _ _))
  have heL : e ∉ L :: frs.map (·.1) := fun hm => by
    rcases List.mem_cons.mp hm with q | q
    · exact he.2.1 q
    · exact hap (e, ob) (.head _) q
  have he₁ : h₁.get? e = some ob := (hs₁.2.1 e heL).trans he.1
  have he₂ := Heap.get?_push_of_some (h := h₁) { cls := .type "traceback", dict := none, data := .fields ([.none, .ref L, .none, rawInt L, .none] ++ (if pl.isEmpty then List.replicate 6 Value.none else pl)).toArray } he₁
  refine wpAny_setField he₂ hd hsz ?_
  have lt1 : ∀ b o, s.heap.get? b = some o → b < h₁.objs.size := fun b o hb => by
    obtain ⟨sl, q⟩ := hs₁.2.2 b o hb
    exact Heap.lt_size q
  have hTe : h₁.objs.size ≠ e := Nat.ne_of_gt (Heap.lt_size he₁)
  have keep : ∀ b o, b ≠ e → h₁.get? b = some o →
      ((h₁.push { cls := .type "traceback", dict := none, data := .fields ([.none, .ref L, .none, rawInt L, .none] ++ (if pl.isEmpty then List.replicate 6 Value.none else pl)).toArray }).update e (Obj.mapFields (·.setIfInBounds 1 (Value.ref h₁.objs.size)))).get? b = some o :=
    fun b o hbe hb => by
      rw [Heap.get?_update_other _ _ (Ne.symm hbe)]
      exact Heap.get?_push_of_some _ hb
  have hd₃ := Obj.data_mapFields hd (·.setIfInBounds 1 (Value.ref h₁.objs.size))
  have he₃ := Heap.get?_update_self (Obj.mapFields (·.setIfInBounds 1 (Value.ref h₁.objs.size))) he₂ (Obj.isFreed_of_fields hd₃)
  have hT₃ := (Heap.get?_update_other (h₁.push { cls := .type "traceback", dict := none, data := .fields ([.none, .ref L, .none, rawInt L, .none] ++ (if pl.isEmpty then List.replicate 6 Value.none else pl)).toArray })
    (Obj.mapFields (·.setIfInBounds 1 (Value.ref h₁.objs.size))) (Ne.symm hTe)).trans (Heap.get?_push_size h₁ rfl)
  obtain ⟨frs', SU, hfr'⟩ := sameUp_in (h' := h₁) hs₁.2.2 (frs := frs) fun p hp => (N p (.tail _ (List.mem_append_right _ hp))).1
  have ad := sameUp_addr SU
  obtain ⟨slL, hL1⟩ := hs₁.2.2 L oL hL
  have hLe : L ≠ e := fun q => heL (q ▸ .head _)
  have hb_keep : ∀ b o, hb.get? b = some o → h₁.get? b = some o := fun b o hbo => by
    refine (hs₁.2.1 b fun hm => ?_).trans (F.keep b o hbo)
    rcases List.mem_cons.mp hm with q | q
    · rw [q, hL0] at hbo; cases hbo
    · obtain ⟨p, hp, q'⟩ := List.mem_map.mp q
      have := (N p (.tail _ (List.mem_append_right _ hp))).2.2
      rw [q', hbo] at this; cases this
  refine k _ h₁.objs.size { cls := .type "traceback", dict := none, data := .fields ([.none, .ref L, .none, rawInt L, .none] ++ (if pl.isEmpty then List.replicate 6 Value.none else pl)).toArray } _ frs' SU ⟨⟨_, es, ep, keep L _ hLe hL1, hLd, hLr⟩, fun b o hbo => keep b o (fun q => by have := he.2.2; rw [← q, hbo] at this; cases this) (hb_keep b o hbo), F.above⟩ (fun p hp => ?_) hd₃ (Obj.cls_mapFields _ _) ⟨_, rfl, ?_⟩ (fun p hp => lt1 p.1 p.2 (N p hp).1)
  · rcases List.mem_cons.mp hp with rfl | hp
    · refine ⟨hT₃, Nat.ne_of_gt (Heap.lt_size hL1), ?_⟩
      cases q : hb.get? h₁.objs.size with
      | none => rfl
      | some o => exact absurd (Heap.lt_size (hb_keep _ _ q)) (Nat.lt_irrefl _)
    · rcases List.mem_cons.mp hp with rfl | hp
      · exact ⟨he₃, he.2.1, he.2.2⟩
      · rcases List.mem_append.mp hp with hp | hp
        · have z := N p (.tail _ (List.mem_append_left _ hp))
          refine ⟨keep _ _ (hne p (List.mem_append_left _ hp)) ((hs₁.2.1 p.1 fun hm => ?_).trans z.1), z.2⟩
          rcases List.mem_cons.mp hm with q | q
          · exact z.2.1 q
          · exact hap p (.tail _ hp) q
        · have hm : p.1 ∈ frs.map (·.1) := by rw [← ad]; exact List.mem_map_of_mem hp
          obtain ⟨q, hq, q'⟩ := List.mem_map.mp hm
          have z := N q (.tail _ (List.mem_append_right _ hq))
          refine ⟨keep _ _ (by rw [← q']; exact hne q (List.mem_append_right _ hq)) (hfr' p hp), by rw [← q']; exact z.2.1, by rw [← q']; exact z.2.2⟩
  · first | (simp; done) | (rcases hpl with rfl | ⟨_, _, _, _, _, _, _, rfl⟩ <;> simp)

/-- the exception stands in the ledger with its traceback -/
structure ExcAt (e T : Addr) (ob oT : Obj) (X : String) (vs : Array Value) (fl : Value) : Prop where
  cls : ob.cls = .type X
  data : ob.data = .fields vs
  tb : vs[1]? = some (.ref T)
  entry : TbIs oT fl

theorem note_again {T : Addr} {ob oT : Obj} {X : String} {vs : Array Value} {news : Led} (N : News hb L s.heap news) (he : (e, ob) ∈ news) (hT : (T, oT) ∈ news) (Ex : ExcAt e T ob oT X vs (rawInt L)) (hq : Q () s) :
    wpAny (model prog w) A (noteFrame (.ref e) (envOf name scope L a cd)) Q E s := by
  obtain ⟨ts, hts, h3⟩ := Ex.entry
  unfold noteFrame
  simp only [show (envOf name scope L a cd).frame = some L from rfl]
  refine wpAny_bind (wpAny_field (N _ he).1 Ex.data Ex.tb ?_)
  rw [if_pos (show (Value.ref T != Value.none) = true from by simp)]
  refine wpAny_bind (wpAny_field (N _ hT).1 hts h3 ?_)
  rw [if_pos (show ((rawInt L == rawInt L) = true) from by simp)]
  exact wpAny_pure hq

theorem flight_to {T : Addr} {ob oT : Obj} {X : String} {vs : Array Value} {fl : Value} {rest : Led} (fr : Option Addr) (F : Fr hb L s.heap m) (N : News hb L s.heap ((T, oT) :: rest)) (hne : ∀ p ∈ rest, p.1 ≠ T) (he : (e, ob) ∈ rest) (Ex : ExcAt e T ob oT X vs fl)
    (k : ∀ h' oT', Fr hb L h' m → News hb L h' ((T, oT') :: rest) → ExcAt e T ob oT' X vs (fr.elim .none fun f => rawInt f) → Q () { s with heap := h' }) :
    wpAny (model prog w) A (setFlight (.ref e) fr) Q E s := by
  obtain ⟨ts, hts, h3⟩ := Ex.entry
  have hsz : 3 < ts.size := (Array.getElem?_eq_some_iff.mp h3).1
  have zT := N (T, oT) (.head _)
  unfold setFlight
  refine wpAny_bind (wpAny_field (N _ (.tail _ he)).1 Ex.data Ex.tb ?_)
  rw [if_pos (show (Value.ref T != Value.none) = true from by simp)]
  refine wpAny_setField zT.1 hts hsz ?_
  have hd' := Obj.data_mapFields hts (·.setIfInBounds 3 (fr.elim .none fun f => rawInt f))
  refine k _ _ (F.change (Heap.SameBut.update ..) zT.2.1 zT.2.2) (fun p hp => ?_) ⟨Ex.cls, Ex.data, Ex.tb, _, hd', by simp [hsz]⟩
  rcases List.mem_cons.mp hp with rfl | hp
  · exact ⟨Heap.get?_update_self _ zT.1 (Obj.isFreed_of_fields hd'), zT.2⟩
  · have z := N p (.tail _ hp)
    exact ⟨(Heap.get?_update_ne _ _ _ _ (hne p hp)).trans z.1, z.2⟩

theorem pass_on {α : Type} {Qa : α → Shared → Prop} {what : String} {T : Addr} {ob oT : Obj} {X : String} {vs : Array Value} {fl : Value} {rest : Led} (F : Fr hb L s.heap m) (N : News hb L s.heap ((T, oT) :: rest)) (hne : ∀ p ∈ rest, p.1 ≠ T) (he : (e, ob) ∈ rest) (Ex : ExcAt e T ob oT X vs fl)
    (k : ∀ h' oT', Fr hb L h' m → News hb L h' ((T, oT') :: rest) → ExcAt e T ob oT' X vs (rawInt L) → E (.ref e) { s with heap := h' }) :
    wpAny (model prog w) A (PySem.passOn what (.ref e) (envOf name scope L a cd) : Sem α) Qa E s := by
  unfold PySem.passOn
  refine wpAny_bind (wpAny_field (N _ (.tail _ he)).1 Ex.data Ex.tb ?_)
  rw [if_neg (show ¬ ((Value.ref T == Value.none) = true) from by simp)]
  refine wpAny_bind (flight_to (some L) F N hne he Ex fun h' oT' F' N' Ex' => wpAny_throw (k h' oT' F' N' Ex'))

theorem held_of {T : Addr} {ob oT : Obj} {X : String} {vs : Array Value} {fl : Value} {news : Led} (F : Fr hb L s.heap m) (N : News hb L s.heap ((T, oT) :: (e, ob) :: news)) (hne : ∀ p ∈ (e, ob) :: news, p.1 ≠ T) (Ex : ExcAt e T ob oT X vs fl) : TT.HeldNA hb L s.heap m e X news fl := by
  obtain ⟨ts, hts, h3⟩ := Ex.entry
  have zT := N (T, oT) (.head _)
  have ze := N (e, ob) (.tail _ (.head _))
  refine ⟨⟨F, ⟨ob, vs, T, oT, ts, ze.1, Ex.cls, Ex.data, Ex.tb, zT.1, hts, h3, zT.2.1, (hne (e, ob) (.head _)).symm, zT.2.2⟩, ze.2.2⟩, fun p hp => N p (.tail _ (.tail _ hp)), ?_⟩
  intro ob' vs' tb h1 h2 h4 p hp q
  rw [ze.1] at h1
  obtain rfl := Option.some.inj h1
  rw [Ex.data] at h2
  injection h2 with h2
  subst h2
  rw [Ex.tb] at h4
  injection h4 with h4
  injection h4 with h4
  subst h4
  exact hne p (.tail _ hp) q

theorem news_of_new {h h' : Heap} {news : Led} {ob : Obj} (F : Fr hb L h m) (N : News hb L h news) (hk : ∀ b o, h.get? b = some o → h'.get? b = some o) (hn : h.get? e = none) (ho : h'.get? e = some ob) :
    Fr hb L h' m ∧ News hb L h' ((e, ob) :: news) ∧ (∀ p ∈ news, p.1 ≠ e) := by
  refine ⟨F.keeps hk, fun p hp => ?_, fun p hp q => ?_⟩
  · rcases List.mem_cons.mp hp with rfl | hp
    · refine ⟨ho, fun q => ?_, ?_⟩
      · obtain ⟨oL, _, _, hL, _⟩ := F.ns
        have q' : e = L := q
        rw [q', hL] at hn; cases hn
      · cases q : hb.get? e with
        | none => rfl
        | some o => have := F.keep e o q; rw [hn] at this; cases this
    · exact ⟨hk _ _ (N p hp).1, (N p hp).2⟩
  · have := (N p hp).1
    rw [q, hn] at this; cases this
end
end Mj
end MjExc

section MjConX
theorem Mj.freshMjConX : True := by (w_top off; trivial)
open PySem PySem.W PyProof.Rows PySem.Spec PySem.Calls
namespace Mj
open PyProof.Rows.TI (Frs SameUp Caller)

/-- a call of a def that may raise within: the callers' frames stand in the ledger -/
def ConX (prog : Program) (w : World) (f : Addr) (D U : Nat) (vs : List Value) (news : Led) (R : Value → Led → Prop) : Prop :=
  ∀ (dp un : Nat) (gd : Option (List Code)) (cn : Str) (cs : Scope) (a : Addr) (ccd : Value) (cl : List (Str × Addr)) (l : List Env) (frs : Led) (h₀ : Heap) (L : Addr) (m : Str → Option Value) (s : Shared)
    (mean : ExcName → Option Value) (mg mb : Str → Option Value) (Q E : Value → Shared → Prop),
    Frs l frs → Fr h₀ L s.heap m → (Mj.hd.heap_39 w.params).In h₀ → News h₀ L s.heap (news ++ frs) → (∀ p ∈ news, p.1 ∉ frs.map (·.1)) → Top Mj.hd.view_39 (looseW Mj.hd.view_39 []) mean mg mb h₀ → cs.kind = .function → dp + D < recursionLimit → un + U < cLine →
    (∀ r news' frs' h' tk', SameUp frs frs' → Fr h₀ L h' m → News h₀ L h' (news' ++ frs') → R r news' → Q r { s with heap := h', toks := tk' }) →
    wpAny (model prog w) (ktrTop dp un gd cn cs L a ccd cl l) (call (.ref f) vs) Q E s
theorem ConX.use {prog : Program} {w : World} {f : Addr} {D U : Nat} {vs : List Value} {news : Led} {R : Value → Led → Prop} (C : ConX prog w f D U vs news R)
    {dp un : Nat} {gd : Option (List Code)} {cn : Str} {cs : Scope} {a : Addr} {ccd : Value} {cl : List (Str × Addr)} {l : List Env} {frs : Led} {h₀ : Heap} {L : Addr} {m : Str → Option Value} {s : Shared}
    {mean : ExcName → Option Value} {mg mb : Str → Option Value} {Q E : Value → Shared → Prop}
    (Fs : Frs l frs) (F : Fr h₀ L s.heap m) (X : (Mj.hd.heap_39 w.params).In h₀) (N : News h₀ L s.heap (news ++ frs)) (hap : ∀ p ∈ news, p.1 ∉ frs.map (·.1)) (T : Top Mj.hd.view_39 (looseW Mj.hd.view_39 []) mean mg mb h₀) (hk : cs.kind = .function) (hd : dp + D < recursionLimit) (hu : un + U < cLine)
    (ret : ∀ r news' frs' h' tk', SameUp frs frs' → Fr h₀ L h' m → News h₀ L h' (news' ++ frs') → R r news' → Q r { s with heap := h', toks := tk' }) :
    wpAny (model prog w) (ktrTop dp un gd cn cs L a ccd cl l) (call (.ref f) vs) Q E s := C dp un gd cn cs a ccd cl l frs h₀ L m s mean mg mb Q E Fs F X N hap T hk hd hu ret

theorem code_defX {prog : Program} {w : World} {A : Around} {s : Shared} {h₀ : Heap} {L : Addr} {m : Str → Option Value} {env : Env} {l : List Env} {news frs : Led} {K : Frag} {p : Program} {loose : List Str} {mean : ExcName → Option Value} {mg mb : Str → Option Value}
    {R : Result → Shared → Prop} {name qual : Str} {params : Arguments} {body : List Stmt} {scope : Scope} {dV kV doc pm cdv ct oc : Value} {an od : Option Addr} {osl : Array (Option Value)} {f : Addr} {args : Args} {binds : List (Str × Value)}
    (Fs : Frs l frs) (F : Fr h₀ L s.heap m) (X₀ : K.In h₀) (N : News h₀ L s.heap (news ++ frs)) (T : Top p loose mean mg mb h₀) (hf : env.frame = some L) (hke : env.scope.kind = .function)
    (ho : K.lookup f = some ⟨oc, od, .func (fnOf name qual params body scope dV kV doc pm an cdv ct), osl⟩) (hcd : codeIn K cdv qual = true) (hroom : A.depth < recursionLimit)
    (hbind : BindsTo s (fnOf name qual params body scope dV kV doc pm an cdv ct) args binds) (hloc : ∀ y ∈ binds, scope.names.lookup y.1 = some .local)
    (h : ∀ oL L' h₁, Caller h₀ L m oL → Frs (env :: l) ((L, oL) :: frs) → L < L' → Fr h₀ L' h₁ (fun y => binds.reverse.lookup y) → News h₀ L' h₁ (news ++ (L, oL) :: frs) →
      wpAny (model prog w) (A.deeper (envOf qual scope L' f cdv)) (execs body (envOf qual scope L' f cdv))
        (fun fl s' => R (.ok (.ret (match fl with | .ret v => v | _ => .none))) s')
        (fun e s' => wpAny (model prog w) (A.deeper (envOf qual scope L' f cdv)) (leaving (envOf qual scope L' f cdv) e) (fun _ s'' => R (.error e) s'') (fun e' s'' => R (.error e') s'') s')
        { s with heap := h₁, toks := s.toks + binds.length })
    (hco : scope.isCoroutine = false) (hgen : scope.isGenerator = false) (hk : scope.kind = .function)
    (hcell : ∀ x ∈ scope.names, x.2 ≠ .cell) : codeAny (model prog w) A (.call (.ref f) args) R s := by
  have X := X₀.keeps F.keep
  obtain ⟨oL, es, ep, hL, hLd, hLk, hLf⟩ := F.ns
  have hLt := Heap.lt_size hL
  have hkind : env.scope.kind ≠ .module := by rw [hke]; decide
  refine codeAny_call_def (fd := fnOf name qual params body scope dV kV doc pm an cdv ct) (body := body) (binds := binds) hroom (X _ _ ho) rfl (T.nolimit.keeps F.keep) (codeRec_of X hcd) rfl hbind hcell hloc (fun h₁ hns hk₁ => ?_) hco hgen hk
  refine h oL s.heap.objs.size h₁ ⟨fun h' sl e => ⟨_, es, ep, e, hLd, hLk, hLf⟩, ⟨es, ep, hLd⟩, F.above⟩ ⟨hkind, hf, ⟨es, ep, hLd⟩, Fs⟩ hLt ⟨hns, fun b o e => hk₁ b o (F.keep b o e), Nat.le_trans F.above (Nat.le_of_lt hLt)⟩ (fun p hp => ?_)
  have old : ∀ p ∈ news ++ frs, h₁.get? p.1 = some p.2 ∧ p.1 ≠ s.heap.objs.size ∧ h₀.get? p.1 = none := fun p hp => ⟨hk₁ _ _ (N p hp).1, Nat.ne_of_lt (Heap.lt_size (N p hp).1), (N p hp).2.2⟩
  rcases List.mem_append.mp hp with hp | hp
  · exact old p (List.mem_append_left _ hp)
  · rcases List.mem_cons.mp hp with rfl | hp
    · exact ⟨hk₁ _ _ hL, Nat.ne_of_lt hLt, Heap.get?_none_of_le F.above⟩
    · exact old p (List.mem_append_right _ hp)

/-- back in the caller's frame -/
theorem back_in {h₀ h : Heap} {L L' : Addr} {m m' : Str → Option Value} {oL : Obj} {frs frs' new : Led} (C : Caller h₀ L m oL) (SU : SameUp ((L, oL) :: frs) frs') (F : Fr h₀ L' h m') (N : News h₀ L' h (new ++ frs')) (hne : ∀ p ∈ new, p.1 ≠ L) (hne2 : ∀ p ∈ frs, p.1 ≠ L) :
    ∃ frs'', SameUp frs frs'' ∧ Fr h₀ L h m ∧ News h₀ L h (new ++ frs'') := by
  match frs', SU with
  | q :: qs, ⟨h1, ⟨sl, h2⟩, h3⟩ =>
    have hq := (N q (List.mem_append_right _ (.head _))).1
    have hq1 : q.1 = L := h1
    rw [hq1, h2] at hq
    have ad := sameUp_addr h3
    refine ⟨qs, h3, ⟨C.ns _ sl hq, F.keep, C.above⟩, fun p hp => ?_⟩
    rcases List.mem_append.mp hp with hp | hp
    · exact ⟨(N p (List.mem_append_left _ hp)).1, hne p hp, (N p (List.mem_append_left _ hp)).2.2⟩
    · have z := N p (List.mem_append_right _ (.tail _ hp))
      refine ⟨z.1, ?_, z.2.2⟩
      have hm : p.1 ∈ frs.map (·.1) := by rw [← ad]; exact List.mem_map_of_mem hp
      obtain ⟨q', hq', e⟩ := List.mem_map.mp hm
      rw [← e]; exact hne2 q' hq'
end Mj
end MjConX

section MjCatch
theorem Mj.freshMjCatch : True := by (w_top off; trivial)
open PySem PySem.W PyProof.Rows PySem.Spec PySem.Calls
namespace Mj
open PyProof.Rows.TI (Frs SameUp Caller)
section
variable {prog : Program} {w : World} {A₀ : Around} {E : Value → Shared → Prop} {s : Shared} {hb : Heap} {L a e : Addr} {m : Str → Option Value} {name : Str} {scope : Scope} {cd : Value} {l : List Env} {frs new : Led}
  {b₀ : Stmt} {suite : List Stmt} {pos np : Pos} {rest : List ExceptHandler} {Q : Flow → Shared → Prop} {p : Program} {loose : List Str} {mean : ExcName → Option Value} {mg mb : Str → Option Value}

theorem ie1 : Str.ofString "IndexError" ∉ startupNames := by decide +kernel
theorem ie2 : Str.ofString "IndexError" ∉ looseW Mj.hd.view_39 [] := by decide +kernel
theorem ie3 : Str.ofString "IndexError" ∉ (recsOf Mj.hd.view_39).map (·.name) := by decide +kernel
theorem ie4 : Str.ofString "IndexError" ∉ (litsOf Mj.hd.view_39).map (·.1) := by decide +kernel
theorem ie5 : Str.ofString "IndexError" ∉ (clssOf Mj.hd.view_39 (looseW Mj.hd.view_39 [])).map (·.name) := by decide +kernel

/-- an IndexError that is noted here: it lands in its handler -/
theorem caught_fly {T : Addr} {ob oT : Obj} {vs : Array Value} {fl : Value} {news : Led} (F : Fr hb L s.heap m) (N : News hb L s.heap ((T, oT) :: (e, ob) :: news)) (hne : ∀ p ∈ (e, ob) :: news, p.1 < T) (Ex : ExcAt e T ob oT "IndexError" vs fl) (Tp : Top Mj.hd.view_39 (looseW Mj.hd.view_39 []) mean mg mb hb)
    (k : ∀ h', Fr hb L h' m → News hb L h' news → wpAny (model prog w) ((A₀.deeper (envOf name scope L a cd)).mark (some (.ref e))) (execs (b₀ :: suite) (envOf name scope L a cd)) Q E { s with heap := h' })
    (hk : scope.kind = .function := by rfl) (hxk : (envOf name scope L a cd).kindOf (Str.ofString "IndexError") = some .globalImplicit := by rfl)
    (hE : PassesOwnAt (model prog w) ((A₀.deeper (envOf name scope L a cd)).mark (some (.ref e))) (A₀.deeper (envOf name scope L a cd)) (envOf name scope L a cd) E := by passes_own) :
    wpAny (model prog w) (A₀.deeper (envOf name scope L a cd)) (setFlight (.ref e) none) (fun _ s₃ =>
      wpAny (model prog w) (A₀.deeper (envOf name scope L a cd)) (handleBy (.ref e) (envOf name scope L a cd) (.ExceptHandler (some (.Name (Str.ofString "IndexError") np)) none (b₀ :: suite) pos :: rest)) Q E s₃) E s := by
  refine flight_to none F N (fun p hp => Nat.ne_of_lt (hne p hp)) (.head _) Ex fun h' oT' F' N' Ex' => ?_
  exact TT.clause_hitTN (held_of (s := { s with heap := h' }) F' N' (fun p hp => Nat.ne_of_lt (hne p hp)) Ex') Tp ie1 ie2 ie3 ie4 ie5 (fun h'' F'' N'' => k h'' F'' N'') (by decide +kernel) (by decide +kernel) (by decide +kernel) (by decide +kernel) (by decide) hk hxk (by decide) hE

/-- a new IndexError, first noted -/
theorem caught_new {h : Heap} {Pst : Unit → Shared → Prop} (hfr : A₀.frames = some l) (hk : scope.kind = .function) (Fs : Frs l frs) (hx : Heap.NewExc h s.heap e "IndexError") (F : Fr hb L h m) (N : News hb L h (new ++ frs)) (hap : ∀ p ∈ new, p.1 ∉ frs.map (·.1))
    (k : ∀ h' T oT ob vs frs', SameUp frs frs' → Fr hb L h' m → News hb L h' ((T, oT) :: (e, ob) :: (new ++ frs')) → (∀ p ∈ (e, ob) :: (new ++ frs'), p.1 < T) → (∀ p ∈ new ++ frs', p.1 ≠ e) → ExcAt e T ob oT "IndexError" vs (rawInt L) → vs[2]? = some .none → Pst () { s with heap := h' }) :
    wpAny (model prog w) (A₀.deeper (envOf name scope L a cd)) (noteFrame (.ref e) (envOf name scope L a cd)) Pst E s := by
  obtain ⟨ob, t, he, hc, hd⟩ := hx.there
  obtain ⟨F', N', hne⟩ := news_of_new F N hx.keeps hx.new he
  have hap' : ∀ p ∈ (e, ob) :: new, p.1 ∉ frs.map (·.1) := fun p hp => by
    rcases List.mem_cons.mp hp with rfl | hp
    · intro hm
      obtain ⟨q, hq, e'⟩ := List.mem_map.mp hm
      exact hne q (List.mem_append_right _ hq) e'
    · exact hap p hp
  refine note1 (l := l) (by show A₀.frames.map _ = _; rw [hfr]; rfl) hk Fs F' N' hap' hne hd (by simp) rfl fun h' T oT ob' frs' SU F1 N1 hd1 hc1 hT hlt => ?_
  have ad := sameUp_addr SU
  have mem' : ∀ p ∈ new ++ frs', ∃ q ∈ new ++ frs, q.1 = p.1 := fun p hp => by
    rcases List.mem_append.mp hp with hp | hp
    · exact ⟨p, List.mem_append_left _ hp, rfl⟩
    · have hm : p.1 ∈ frs.map (·.1) := by rw [← ad]; exact List.mem_map_of_mem hp
      obtain ⟨q, hq, e'⟩ := List.mem_map.mp hm
      exact ⟨q, List.mem_append_right _ hq, e'⟩
  refine k h' T oT ob' _ frs' SU F1 N1 (fun p hp => ?_) (fun p hp => ?_) ⟨by rw [hc1]; exact hc, hd1, by simp, hT⟩ (by simp)
  · rcases List.mem_cons.mp hp with rfl | hp
    · exact hlt (e, ob) (.head _)
    · obtain ⟨q, hq, e'⟩ := mem' p hp
      rw [← e']; exact hlt q (.tail _ hq)
  · obtain ⟨q, hq, e'⟩ := mem' p hp
    rw [← e']; exact hne q hq

theorem caught_ctx {h : Heap} {e₁ : Addr} {Ae : Around} {Pst : Unit → Shared → Prop} (hfr : Ae.frames = some (envOf name scope L a cd :: l)) (hk : scope.kind = .function) (Fs : Frs l frs) (hx : NewCtx h s.heap e "IndexError" e₁) (F : Fr hb L h m) (N : News hb L h (new ++ frs)) (hap : ∀ p ∈ new, p.1 ∉ frs.map (·.1))
    (k : ∀ h' T oT ob vs frs', SameUp frs frs' → Fr hb L h' m → News hb L h' ((T, oT) :: (e, ob) :: (new ++ frs')) → (∀ p ∈ (e, ob) :: (new ++ frs'), p.1 < T) → (∀ p ∈ new ++ frs', p.1 ≠ e) → ExcAt e T ob oT "IndexError" vs (rawInt L) → Pst () { s with heap := h' }) :
    wpAny (model prog w) Ae (noteFrame (.ref e) (envOf name scope L a cd)) Pst E s := by
  obtain ⟨ob, t, he, hc, hd⟩ := hx.there
  obtain ⟨F', N', hne⟩ := news_of_new F N hx.keeps hx.new he
  have hap' : ∀ p ∈ (e, ob) :: new, p.1 ∉ frs.map (·.1) := fun p hp => by
    rcases List.mem_cons.mp hp with rfl | hp
    · intro hm
      obtain ⟨q, hq, e'⟩ := List.mem_map.mp hm
      exact hne q (List.mem_append_right _ hq) e'
    · exact hap p hp
  refine note1 (l := l) hfr hk Fs F' N' hap' hne hd (by simp) rfl fun h' T oT ob' frs' SU F1 N1 hd1 hc1 hT hlt => ?_
  have ad := sameUp_addr SU
  have mem' : ∀ p ∈ new ++ frs', ∃ q ∈ new ++ frs, q.1 = p.1 := fun p hp => by
    rcases List.mem_append.mp hp with hp | hp
    · exact ⟨p, List.mem_append_left _ hp, rfl⟩
    · have hm : p.1 ∈ frs.map (·.1) := by rw [← ad]; exact List.mem_map_of_mem hp
      obtain ⟨q, hq, e'⟩ := List.mem_map.mp hm
      exact ⟨q, List.mem_append_right _ hq, e'⟩
  refine k h' T oT ob' _ frs' SU F1 N1 (fun p hp => ?_) (fun p hp => ?_) ⟨by rw [hc1]; exact hc, hd1, by simp, hT⟩
  · rcases List.mem_cons.mp hp with rfl | hp
    · exact hlt (e, ob) (.head _)
    · obtain ⟨q, hq, e'⟩ := mem' p hp
      rw [← e']; exact hlt q (.tail _ hq)
  · obtain ⟨q, hq, e'⟩ := mem' p hp
    rw [← e']; exact hne q hq

theorem came_back {T : Addr} {ob oT : Obj} {X : String} {vs : Array Value} {fl : Value} {rest : Led} {A : Around} (F : Fr hb L s.heap m) (N : News hb L s.heap ((T, oT) :: rest)) (hne : ∀ p ∈ rest, p.1 ≠ T) (he : (e, ob) ∈ rest) (Ex : ExcAt e T ob oT X vs fl)
    (k : ∀ h' oT', Fr hb L h' m → News hb L h' ((T, oT') :: rest) → ExcAt e T ob oT' X vs (rawInt L) → E (.ref e) { s with heap := h' }) :
    cameBackBy (model prog w) A (envOf name scope L a cd) E (.ref e) s := by
  unfold cameBackBy
  refine wpAny_bind (wpAny_field (N _ (.tail _ he)).1 Ex.data Ex.tb ?_)
  rw [if_neg (show ¬ ((Value.ref T == Value.none) = true) from by simp)]
  exact flight_to (some L) F N hne he Ex fun h' oT' F' N' Ex' => k h' oT' F' N' Ex'
end
end Mj
end MjCatch

section MjDiffPure
theorem Mj.freshMjDiffPure : True := by (w_top off; trivial)
namespace Mj
/-- how far the two ascending lists are read -/
structure DInv (xs ys : List Int) (i j : Nat) (M U : List Int) : Prop where
  hi : i ≤ xs.length
  hj : j ≤ ys.length
  hM : M = (xs.take i).filter fun x => !ys.contains x
  hU : U = (ys.take j).filter fun x => !xs.contains x
  sx : ∀ a ∈ xs.take i, ∀ b ∈ ys.drop j, a < b
  sy : ∀ b ∈ ys.take j, ∀ a ∈ xs.drop i, b < a

theorem DInv.start (xs ys : List Int) : DInv xs ys 0 0 [] [] := ⟨Nat.zero_le _, Nat.zero_le _, rfl, rfl, by simp, by simp⟩

theorem drop_lt {xs : List Int} (hx : xs.Pairwise (· < ·)) {i : Nat} (h : i < xs.length) : ∀ a ∈ xs.drop (i + 1), xs[i] < a := by
  intro a ha
  rw [List.mem_drop_iff_getElem] at ha
  obtain ⟨k, hk, e⟩ := ha
  rw [← e]
  exact List.pairwise_iff_getElem.mp hx i (i + 1 + k) h (by omega) (by omega)
theorem mem_take_or_drop {xs : List Int} {a : Int} (i : Nat) (h : a ∈ xs) : a ∈ xs.take i ∨ a ∈ xs.drop i := by
  rw [← List.take_append_drop i xs] at h; exact List.mem_append.mp h

theorem DInv.lt {xs ys : List Int} {i j : Nat} {M U : List Int} (hx : xs.Pairwise (· < ·)) (hy : ys.Pairwise (· < ·)) (I : DInv xs ys i j M U) (h1 : i < xs.length) (h2 : j < ys.length) (h : xs[i] < ys[j]) : DInv xs ys (i + 1) j (M ++ [xs[i]]) U := by
  have hd : ys.drop j = ys[j] :: ys.drop (j + 1) := List.drop_eq_getElem_cons h2
  have hall : ∀ b ∈ ys.drop j, xs[i] < b := by
    intro b hb
    rw [hd] at hb
    rcases List.mem_cons.mp hb with rfl | hb
    · exact h
    · exact Int.lt_trans h (drop_lt hy h2 b hb)
  have hxd : xs[i] ∈ xs.drop i := by rw [List.drop_eq_getElem_cons h1]; exact .head _
  have hno : ys.contains xs[i] = false := by
    cases hc : ys.contains xs[i] with
    | false => rfl
    | true =>
      have hm : xs[i] ∈ ys := by simpa using hc
      rcases mem_take_or_drop j hm with h3 | h3
      · exact absurd (I.sy _ h3 _ hxd) (Int.lt_irrefl _)
      · exact absurd (hall _ h3) (Int.lt_irrefl _)
  refine ⟨h1, I.hj, ?_, I.hU, ?_, ?_⟩
  · rw [List.take_add_one, List.getElem?_eq_getElem h1, List.filter_append, ← I.hM]
    rw [Option.toList_some, List.filter_cons, hno]; rfl
  · intro a ha b hb
    rw [List.take_add_one, List.getElem?_eq_getElem h1] at ha
    rcases List.mem_append.mp ha with h3 | h3
    · exact I.sx a h3 b hb
    · simp at h3; rw [h3]; exact hall b hb
  · intro b hb a ha
    exact I.sy b hb a (by rw [List.drop_eq_getElem_cons h1]; exact .tail _ ha)

theorem DInv.symm {xs ys : List Int} {i j : Nat} {M U : List Int} (I : DInv xs ys i j M U) : DInv ys xs j i U M := ⟨I.hj, I.hi, I.hU, I.hM, I.sy, I.sx⟩
theorem DInv.gt {xs ys : List Int} {i j : Nat} {M U : List Int} (hx : xs.Pairwise (· < ·)) (hy : ys.Pairwise (· < ·)) (I : DInv xs ys i j M U) (h1 : i < xs.length) (h2 : j < ys.length) (h : ys[j] < xs[i]) : DInv xs ys i (j + 1) M (U ++ [ys[j]]) :=
  (I.symm.lt hy hx h2 h1 h).symm

theorem DInv.eq {xs ys : List Int} {i j : Nat} {M U : List Int} (hx : xs.Pairwise (· < ·)) (hy : ys.Pairwise (· < ·)) (I : DInv xs ys i j M U) (h1 : i < xs.length) (h2 : j < ys.length) (h : xs[i] = ys[j]) : DInv xs ys (i + 1) (j + 1) M U := by
  refine ⟨h1, h2, ?_, ?_, ?_, ?_⟩
  · rw [List.take_add_one, List.getElem?_eq_getElem h1, List.filter_append, ← I.hM]
    have : ys.contains xs[i] = true := by rw [h]; simp
    rw [Option.toList_some, List.filter_cons, this]; simp
  · rw [List.take_add_one, List.getElem?_eq_getElem h2, List.filter_append, ← I.hU]
    have : xs.contains ys[j] = true := by rw [← h]; simp
    rw [Option.toList_some, List.filter_cons, this]; simp
  · intro a ha b hb
    rw [List.take_add_one, List.getElem?_eq_getElem h1] at ha
    rcases List.mem_append.mp ha with h3 | h3
    · exact I.sx a h3 b (by rw [List.drop_eq_getElem_cons h2]; exact .tail _ hb)
    · simp at h3; rw [h3, h]; exact drop_lt hy h2 b hb
  · intro b hb a ha
    rw [List.take_add_one, List.getElem?_eq_getElem h2] at hb
    rcases List.mem_append.mp hb with h3 | h3
    · exact I.sy b h3 a (by rw [List.drop_eq_getElem_cons h1]; exact .tail _ ha)
    · simp at h3; rw [h3, ← h]; exact drop_lt hx h1 a ha

theorem DInv.lenM {xs ys : List Int} {i j : Nat} {M U : List Int} (I : DInv xs ys i j M U) : M.length ≤ xs.length := by
  rw [I.hM]; exact Nat.le_trans (List.length_filter_le ..) (by rw [List.length_take]; omega)
theorem DInv.lenU {xs ys : List Int} {i j : Nat} {M U : List Int} (I : DInv xs ys i j M U) : U.length ≤ ys.length := I.symm.lenM
theorem DInv.fin1 {xs ys : List Int} {i j : Nat} {M U : List Int} (I : DInv xs ys i j M U) (h : i = xs.length ∨ j = ys.length) : M ++ xs.drop i = xs.filter fun x => !ys.contains x := by
  have e : xs.filter (fun x => !ys.contains x) = (xs.take i).filter (fun x => !ys.contains x) ++ (xs.drop i).filter (fun x => !ys.contains x) := by rw [← List.filter_append, List.take_append_drop]
  rw [e, ← I.hM]
  congr 1
  rcases h with h | h
  · rw [h, List.drop_length]; rfl
  · refine (List.filter_eq_self.mpr fun a ha => ?_).symm
    have : a ∉ ys := fun hm => by
      have : a ∈ ys.take j := by rw [h, List.take_length]; exact hm
      exact absurd (I.sy a this a ha) (Int.lt_irrefl _)
    simpa using this
theorem DInv.fin2 {xs ys : List Int} {i j : Nat} {M U : List Int} (I : DInv xs ys i j M U) (h : i = xs.length ∨ j = ys.length) : U ++ ys.drop j = ys.filter fun x => !xs.contains x := I.symm.fin1 h.symm
end Mj
end MjDiffPure

section MjDiff
theorem Mj.freshMjDiff : True := by (w_top off; trivial)
open PySem PySem.W PyProof.Rows
namespace Mj
open PyProof.Rows.TI (Frs SameUp Caller)

local macro_rules | `(tactic| k_mem) => `(tactic| first | exact List.Mem.head _ | assumption | (refine' List.Mem.tail _ ?_; k_mem))
local macro_rules | `(tactic| walk_at "passOn") => `(tactic| with_reducible refine Stop.mk ?_)
local macro_rules | `(tactic| walk_at "passOn ref") => `(tactic| with_reducible refine Stop.mk ?_)
local macro_rules | `(tactic| walk_at "subscriptTail Name Name ref int") => `(tactic| with_reducible refine Stop.mk ?_)
local macro_rules | `(tactic| walk_at "noteFrame ref") => `(tactic| with_reducible refine Stop.mk ?_)
local macro_rules | `(tactic| walk_at "call ref") => `(tactic| with_reducible refine Stop.mk ?_)
local macro_rules | `(tactic| walk_at "pyIter ref") => `(tactic| with_reducible refine Stop.mk ?_)
local macro_rules | `(tactic| walk_at "exec While") => `(tactic| with_reducible refine Stop.mk ?_)
local macro_rules | `(tactic| walk_at "exec While Compare cons nil") => `(tactic| with_reducible refine Stop.mk ?_)
local macro_rules | `(tactic| walk_at "newList") => `(tactic| (k_here; k_dflt (refine' newList_K ?k1 ?k2 ?_; (case k1 => k_asm); (case k2 => k_asm); k_whole); intro l' h' F' N' l1; (try k_sweep)))

local macro_rules | `(tactic| walk_at "subscriptTail Name Name ref int") => `(tactic| (k_here; k_dflt (refine' ints_sub ?k1 ?k2 ?k3 ?k4 ?k5 ?k6 ?_; (case k1 => k_asm); (case k2 => k_mem); (case k3 => assumption); (case k4 => omega); (case k5 => omega); (case k6 => omega); k_whole); intro t'))
local macro_rules | `(tactic| walk_at "subscriptTail Name Name ref int") => `(tactic| (k_here; k_dflt (refine' led_out ?k0 ?k1 ?k2 ?k4 ?k5 ?k6 ?_; (case k0 => rfl); (case k1 => k_asm); (case k2 => k_mem); (case k4 => omega); (case k5 => omega); (case k6 => omega); k_whole); intro h' tk' e' x'))

local macro_rules | `(tactic| walk_at "call builtin:list.extend") => `(tactic| with_reducible refine Stop.mk ?_)
local macro_rules | `(tactic| walk_at "subscriptTail Name Slice ref ref") => `(tactic| (k_here; k_dflt (refine' led_slice ?k1 ?k2 ?k3 ?k4 ?k5 ?k6 ?_; (case k1 => k_asm); (case k2 => k_asm); (case k3 => k_mem); (case k4 => kmk_part); (case k5 => kmk_part); (case k6 => omega); k_whole); intro D' h' F' N' l1; (try k_sweep)))

abbrev tupOf (vs : List Value) : Obj := { cls := .type "tuple", data := .seq vs.toArray }

theorem ints_drop : ∀ {vs : List Value} {ns : List Int}, IntsAre vs ns → ∀ k : Nat, IntsAre (vs.drop k) (ns.drop k)
  | _, _, .nil, k => by simpa using IntsAre.nil
  | _, _, .cons n t h, 0 => .cons n t h
  | _, _, .cons n t h, k + 1 => by simpa using ints_drop h k

structure DSt where
  i : Nat
  j : Nat
  ti : Tok
  tj : Tok
  mv : List Value
  mi : List Int
  me : Nat
  uv : List Value
  ui : List Int
  ue : Nat

/-- where the handler begins -/
structure DFin where
  i : Nat
  j : Nat
  ti : Tok
  tj : Tok
  mv : List Value
  mi : List Int
  me : Nat
  uv : List Value
  ui : List Int
  ue : Nat
  frs : Led
  h : Heap
  tk : Nat
  u : Str → Option Value
theorem by_fin {P : Prop} {ι α : Type} {M : Model} {A : Addr → Around} {C : Sem α} {Q : α → Shared → Prop} {E : Value → Shared → Prop} (Pre : Addr → ι → Prop) (st : ι → Shared)
    (main : Keep (∀ ex d, Pre ex d → wpAny M (A ex) C Q E (st d)) → P) (fin : ∀ ex d, Pre ex d → wpAny M (A ex) C Q E (st d)) : P := main ⟨fin⟩
theorem as_ovl0 {h₀ h : Heap} {L : Addr} {m : Str → Option Value} {l : List (Str × Value)} (F : Fr h₀ L h m) (ha : Agree m l) : Fr h₀ L h (ovl l m) := by rw [ha.ovl]; exact F

set_option maxRecDepth 100000 in
set_option maxHeartbeats 8000000 in
theorem c_diff (prog : Program) (w : World) (la lb : Addr) (vs us : List Value) (xs ys : List Int) (e1 e2 : Nat) (news : Led) (hm : (la, listOf vs.toArray e1) ∈ news) (hm2 : (lb, listOf us.toArray e2) ∈ news) (hi : IntsAre vs xs) (hi2 : IntsAre us ys) (hlen : xs.length < 1000) (hlen2 : ys.length < 1000) (hx : xs.Pairwise (· < ·)) (hy : ys.Pairwise (· < ·)) :
    ConX prog w 21 3 400 [.ref la, .ref lb] news (fun r news' => ∃ lt lm lu n1 n2 ms us, r = .ref lt ∧ news' = (lt, tupOf [.ref lm, .ref lu]) :: (lu, listOf (List.toArray us) n2) :: (lm, listOf (List.toArray ms) n1) :: news ∧ (∀ p ∈ news, p.1 < lm) ∧ lm < lu ∧ lu < lt ∧ IntsAre ms (xs.filter fun x => !ys.contains x) ∧ IntsAre us (ys.filter fun x => !xs.contains x)) := by
  intro dp un gd cn cs a ccd cl l frs h₀ L m s mean mg mb Q E Fs F X N hap T hk hdp hun hret
  have hvl := hi.length
  have hul := hi2.length
  have hiK : Keep (IntsAre vs xs) := ⟨hi⟩
  have hi2K : Keep (IntsAre us ys) := ⟨hi2⟩
  clear hi hi2
  refine wpAny_call ?_
  refine code_defX (env := envX cn cs L a ccd cl) (binds := [(Str.ofString "expected", .ref la), (Str.ofString "actual", .ref lb)]) Fs F X N T rfl hk (by k_is) (by k_is) (by ktr_room) (BindsTo.of_eq rfl) (locs rfl) ?_ rfl rfl rfl (by decide)
  intro oL L' h' C Fs' hLL F' N'
  dsimp only
  k_fold
  k_with_none
  have hmA : (la, listOf vs.toArray e1) ∈ news ++ (L, oL) :: frs := List.mem_append_left _ hm
  have hmB : (lb, listOf us.toArray e2) ∈ news ++ (L, oL) :: frs := List.mem_append_left _ hm2
  have hapA : ∀ p ∈ news, p.1 ∉ ((L, oL) :: frs).map (·.1) := fun p hp hq => by
    rcases List.mem_cons.mp hq with q | q
    · exact (N p (List.mem_append_left _ hp)).2.1 q
    · exact hap p hp q
  repeat' (first | (k_unfold; (try dsimp only)) | walk1 | (dsimp only; walk1) | (leave1; (try dsimp only)) | (dsimp only [WPost]))
  rename_i lm hh1 hltm hh2 tk0 lu hh3 hltu hh4 F1 N1
  refine Stop.out ?_
  with_unfolding_all refine my_while (σ := DSt) (fun c => [(Str.ofString "expected", .ref la), (Str.ofString "actual", .ref lb), (Str.ofString "i", .int c.i c.ti), (Str.ofString "j", .int c.j c.tj), (Str.ofString "missing", .ref lm), (Str.ofString "unexpected", .ref lu)]) (fun c => (lu, listOf c.uv.toArray c.ue) :: (lm, listOf c.mv.toArray c.me) :: (news ++ (L, oL) :: frs)) (fun c => DInv xs ys c.i c.j c.mi c.ui ∧ Keep (IntsAre c.mv c.mi) ∧ Keep (IntsAre c.uv c.ui)) (fun c => (xs.length - c.i) + (ys.length - c.j)) ⟨0, 0, _, _, [], [], 0, [], [], 0⟩ F1 N1 (fun p hp => hp) ⟨rfl, rfl, rfl, rfl, rfl, rfl, trivial⟩ ⟨DInv.start xs ys, ⟨.nil⟩, ⟨.nil⟩⟩ ?_
  rintro ⟨i, j, ti, tj, mv, mi, me, uv, ui, ue⟩ u h tk ⟨i1, i2, i3⟩ F2 N2
  dsimp only at i1 i2 i3 F2 N2
  have i4 := i1.hi
  have i5 := i1.hj
  try k_fold
  have hlmu : lm < lu := hltu _ (.head _)
  have hLlm : ∀ p ∈ (L, oL) :: frs, p.1 < lm := fun p hp => hltm p (List.mem_append_right _ hp)
  have hapN : ∀ (a1 : List Value) (n1 : Nat) (a2 : List Value) (n2 : Nat), ∀ p ∈ (lu, listOf a1.toArray n1) :: (lm, listOf a2.toArray n2) :: news, p.1 ∉ ((L, oL) :: frs).map (·.1) := by
    intro a1 n1 a2 n2 p hp hq
    obtain ⟨q, hq, e'⟩ := List.mem_map.mp hq
    have h0 := hLlm q hq
    rcases List.mem_cons.mp hp with rfl | hp
    · exact absurd e' (Nat.ne_of_lt (Nat.lt_trans h0 hlmu))
    · rcases List.mem_cons.mp hp with rfl | hp
      · exact absurd e' (Nat.ne_of_lt h0)
      · exact hapA p hp (by rw [← e']; exact List.mem_map_of_mem hq)
  refine' by_fin (ι := DFin) (fun _ d => Fr h₀ L' d.h (ovl [(Str.ofString "expected", .ref la), (Str.ofString "actual", .ref lb), (Str.ofString "i", .int d.i d.ti), (Str.ofString "j", .int d.j d.tj), (Str.ofString "missing", .ref lm), (Str.ofString "unexpected", .ref lu)] d.u) ∧ News h₀ L' d.h ((lu, listOf d.uv.toArray d.ue) :: (lm, listOf d.mv.toArray d.me) :: (news ++ d.frs)) ∧ DInv xs ys d.i d.j d.mi d.ui ∧ (d.i = xs.length ∨ d.j = ys.length) ∧ Keep (IntsAre d.mv d.mi) ∧ Keep (IntsAre d.uv d.ui) ∧ SameUp ((L, oL) :: frs) d.frs) (fun d => { s with heap := d.h, toks := d.tk }) (fun fin => ?main) ?fin
  case main =>
    rcases Nat.lt_or_ge i xs.length with h1 | h1
    · rcases Nat.lt_or_ge j ys.length with h2 | h2
      · have gi : xs.getD i 0 = xs[i] := by simp [h1]
        have gj : ys.getD j 0 = ys[j] := by simp [h2]
        repeat' (first | (k_unfold; (try dsimp only)) | walk1 | (dsimp only; walk1) | (leave1; (try dsimp only)) | (dsimp only [WPost]))
        · rename_i te hx0 ta hx2 F3 N3 hlt
          have hel : xs[i] < ys[j] := by rw [Int.toNat_natCast, Int.toNat_natCast, gi, gj] at hlt; exact hlt
          have inv' := i1.lt hx hy h1 h2 hel
          have im' : Keep (IntsAre (mv ++ [Value.int (xs.getD (i : Int).toNat 0) te]) (mi ++ [xs[i]])) := ⟨by rw [Int.toNat_natCast, gi]; exact IntsAre.append i2.out (.cons _ _ .nil)⟩
          have lmv := i2.out.length
          have lenM := i1.lenM
          refine append_K F3 N3 (Upd.tail (Nat.ne_of_gt hlmu) (Upd.head fun p hp => Nat.ne_of_lt (hltm p hp))) ?_ (by rw [List.size_toArray, sizeLine_eq]; omega)
          intro h4 F4 N4
          rw [List.push_toArray] at N4
          clear F3 N3
          repeat' (first | (k_unfold; (try dsimp only)) | walk1 | (dsimp only; walk1) | (leave1; (try dsimp only)) | (dsimp only [WPost]))
          refine Stop.out ?_
          (rename Fr _ _ _ _ => F5); (rename News _ _ _ _ => N5)
          with_unfolding_all refine my_while (σ := Unit) (fun _ => [(Str.ofString "expected", .ref la), (Str.ofString "actual", .ref lb), (Str.ofString "i", .int ((i + 1 : Nat) : Int) _), (Str.ofString "j", .int j tj), (Str.ofString "missing", .ref lm), (Str.ofString "unexpected", .ref lu), (Str.ofString "e", .int (xs.getD (i : Int).toNat 0) te)]) (fun _ => (lu, listOf uv.toArray ue) :: (lm, listOf (mv ++ [Value.int (xs.getD (i : Int).toNat 0) te]).toArray (me + 1)) :: (news ++ (L, oL) :: frs)) (fun _ => True) (fun _ => 0) () F5 N5 (fun p hp => hp) ⟨rfl, rfl, rfl, rfl, rfl, rfl, rfl, trivial⟩ trivial ?_
          intro _ u6 h6 tk6 _ F6 N6
          clear F5 N5
          dsimp only at F6 N6
          try k_fold
          rcases Nat.lt_or_ge (i + 1) xs.length with h3 | h3
          · have hneq : ¬ xs.getD ((i + 1 : Nat) : Int).toNat 0 = xs.getD (i : Int).toNat 0 := by
              rw [Int.toNat_natCast, Int.toNat_natCast, gi]
              have : xs.getD (i + 1) 0 = xs[i + 1] := by simp [h3]
              rw [this]
              exact Int.ne_of_gt (List.pairwise_iff_getElem.mp hx i (i + 1) h1 h3 (Nat.lt_succ_self i))
            repeat' (first | (k_unfold; (try dsimp only)) | walk1 | (dsimp only; walk1) | (leave1; (try dsimp only)) | (dsimp only [WPost]))
            · exact absurd (by assumption) hneq
            · exact wend ⟨i + 1, j, _, tj, mv ++ [Value.int (xs.getD (i : Int).toNat 0) te], mi ++ [xs[i]], me + 1, uv, ui, ue⟩ F6 N6 (fun p hp => hp) ⟨rfl, rfl, rfl, rfl, rfl, rfl, trivial⟩ ⟨inv', im', i3⟩ (by dsimp only; omega)
          · repeat' (first | (k_unfold; (try dsimp only)) | walk1 | (dsimp only; walk1) | (leave1; (try dsimp only)) | (dsimp only [WPost]))
            rename_i hx1 tkx ex hnx
            refine Stop.out ?_
            refine caught_new (l := envX cn cs L a ccd cl :: l) (frs := (L, oL) :: frs) (new := (lu, listOf uv.toArray ue) :: (lm, listOf (mv ++ [Value.int (xs.getD (i : Int).toNat 0) te]).toArray (me + 1)) :: news) rfl rfl Fs' hnx F6 N6 (hapN _ _ _ _) ?_
            intro h5 T5 oT5 ob5 vs5 frs5 SU5 F5 N5 hlt5 hne5 Ex5 hcx5
            refine caught_fly F5 N5 hlt5 Ex5 T ?_
            intro h6 F6 N6
            have hexit : (i + 1) = xs.length ∨ (j) = ys.length := Or.inl (by omega)
            exact fin.out ex ⟨i + 1, j, _, _, mv ++ [Value.int (xs.getD (i : Int).toNat 0) te], mi ++ [xs[i]], me + 1, uv, ui, ue, frs5, h6, _, _⟩ ⟨as_ovl0 F6 ⟨rfl, rfl, rfl, rfl, rfl, rfl, trivial⟩, fun p hp => N6 p (hp), inv', hexit, im', i3, SU5⟩
        · rename_i te hx0 ta hx2 F3 N3 hnlt hgt
          have hel : ys[j] < xs[i] := by rw [Int.toNat_natCast, Int.toNat_natCast, gi, gj] at hgt; exact hgt
          have inv' := i1.gt hx hy h1 h2 hel
          have iu' : Keep (IntsAre (uv ++ [Value.int (ys.getD (j : Int).toNat 0) ta]) (ui ++ [ys[j]])) := ⟨by rw [Int.toNat_natCast, gj]; exact IntsAre.append i3.out (.cons _ _ .nil)⟩
          have luv := i3.out.length
          have lenU := i1.lenU
          refine append_K F3 N3 (Upd.head fun p hp => ?_) ?_ (by rw [List.size_toArray, sizeLine_eq]; omega)
          · rcases List.mem_cons.mp hp with rfl | hp
            · exact Nat.ne_of_lt hlmu
            · exact Nat.ne_of_lt (Nat.lt_trans (hltm p hp) hlmu)
          intro h4 F4 N4
          rw [List.push_toArray] at N4
          clear F3 N3
          repeat' (first | (k_unfold; (try dsimp only)) | walk1 | (dsimp only; walk1) | (leave1; (try dsimp only)) | (dsimp only [WPost]))
          refine Stop.out ?_
          (rename Fr _ _ _ _ => F5); (rename News _ _ _ _ => N5)
          with_unfolding_all refine my_while (σ := Unit) (fun _ => [(Str.ofString "expected", .ref la), (Str.ofString "actual", .ref lb), (Str.ofString "i", .int i ti), (Str.ofString "j", .int ((j + 1 : Nat) : Int) _), (Str.ofString "missing", .ref lm), (Str.ofString "unexpected", .ref lu), (Str.ofString "a", .int (ys.getD (j : Int).toNat 0) ta)]) (fun _ => (lu, listOf (uv ++ [Value.int (ys.getD (j : Int).toNat 0) ta]).toArray (ue + 1)) :: (lm, listOf mv.toArray me) :: (news ++ (L, oL) :: frs)) (fun _ => True) (fun _ => 0) () F5 N5 (fun p hp => hp) ⟨rfl, rfl, rfl, rfl, rfl, rfl, rfl, trivial⟩ trivial ?_
          intro _ u6 h6 tk6 _ F6 N6
          clear F5 N5
          dsimp only at F6 N6
          try k_fold
          rcases Nat.lt_or_ge (j + 1) ys.length with h3 | h3
          · have hneq : ¬ ys.getD ((j + 1 : Nat) : Int).toNat 0 = ys.getD (j : Int).toNat 0 := by
              rw [Int.toNat_natCast, Int.toNat_natCast, gj]
              have : ys.getD (j + 1) 0 = ys[j + 1] := by simp [h3]
              rw [this]
              exact Int.ne_of_gt (List.pairwise_iff_getElem.mp hy j (j + 1) h2 h3 (Nat.lt_succ_self j))
            repeat' (first | (k_unfold; (try dsimp only)) | walk1 | (dsimp only; walk1) | (leave1; (try dsimp only)) | (dsimp only [WPost]))
            · exact absurd (by assumption) hneq
            · exact wend ⟨i, j + 1, ti, _, mv, mi, me, uv ++ [Value.int (ys.getD (j : Int).toNat 0) ta], ui ++ [ys[j]], ue + 1⟩ F6 N6 (fun p hp => hp) ⟨rfl, rfl, rfl, rfl, rfl, rfl, trivial⟩ ⟨inv', i2, iu'⟩ (by dsimp only; omega)
          · repeat' (first | (k_unfold; (try dsimp only)) | walk1 | (dsimp only; walk1) | (leave1; (try dsimp only)) | (dsimp only [WPost]))
            rename_i hx1 tkx ex hnx
            refine Stop.out ?_
            refine caught_new (l := envX cn cs L a ccd cl :: l) (frs := (L, oL) :: frs) (new := (lu, listOf (uv ++ [Value.int (ys.getD (j : Int).toNat 0) ta]).toArray (ue + 1)) :: (lm, listOf mv.toArray me) :: news) rfl rfl Fs' hnx F6 N6 (hapN _ _ _ _) ?_
            intro h5 T5 oT5 ob5 vs5 frs5 SU5 F5 N5 hlt5 hne5 Ex5 hcx5
            refine caught_fly F5 N5 hlt5 Ex5 T ?_
            intro h6 F6 N6
            have hexit : (i) = xs.length ∨ (j + 1) = ys.length := Or.inr (by omega)
            exact fin.out ex ⟨i, j + 1, _, _, mv, mi, me, uv ++ [Value.int (ys.getD (j : Int).toNat 0) ta], ui ++ [ys[j]], ue + 1, frs5, h6, _, _⟩ ⟨as_ovl0 F6 ⟨rfl, rfl, rfl, rfl, rfl, rfl, trivial⟩, fun p hp => N6 p (hp), inv', hexit, i2, iu', SU5⟩
        · rename_i te hx0 ta hx2 hnlt tkq hngt hx3 F3 N3
          have hel : xs[i] = ys[j] := by rw [Int.toNat_natCast, Int.toNat_natCast, gi, gj] at hnlt hngt; omega
          have inv' := i1.eq hx hy h1 h2 hel
          refine Stop.out ?_
          with_unfolding_all refine my_while (σ := Unit) (fun _ => [(Str.ofString "expected", .ref la), (Str.ofString "actual", .ref lb), (Str.ofString "i", .int ((i + 1 : Nat) : Int) _), (Str.ofString "j", .int j tj), (Str.ofString "missing", .ref lm), (Str.ofString "unexpected", .ref lu), (Str.ofString "e", .int (xs.getD (i : Int).toNat 0) te), (Str.ofString "a", .int (ys.getD (j : Int).toNat 0) ta)]) (fun _ => (lu, listOf uv.toArray ue) :: (lm, listOf mv.toArray me) :: (news ++ (L, oL) :: frs)) (fun _ => True) (fun _ => 0) () F3 N3 (fun p hp => hp) ⟨rfl, rfl, rfl, rfl, rfl, rfl, rfl, rfl, trivial⟩ trivial ?_
          intro _ u6 h6 tk6 _ F6 N6
          clear F3 N3
          dsimp only at F6 N6
          try k_fold
          rcases Nat.lt_or_ge (i + 1) xs.length with h3 | h3
          · have hneq : ¬ xs.getD ((i + 1 : Nat) : Int).toNat 0 = xs.getD (i : Int).toNat 0 := by
              rw [Int.toNat_natCast, Int.toNat_natCast, gi]
              have : xs.getD (i + 1) 0 = xs[i + 1] := by simp [h3]
              rw [this]
              exact Int.ne_of_gt (List.pairwise_iff_getElem.mp hx i (i + 1) h1 h3 (Nat.lt_succ_self i))
            repeat' (first | (k_unfold; (try dsimp only)) | walk1 | (dsimp only; walk1) | (leave1; (try dsimp only)) | (dsimp only [WPost]))
            · exact absurd (by assumption) hneq
            · refine Stop.out ?_
              (rename Fr _ _ _ _ => F7); (rename News _ _ _ _ => N7)
              with_unfolding_all refine my_while (σ := Unit) (fun _ => [(Str.ofString "expected", .ref la), (Str.ofString "actual", .ref lb), (Str.ofString "i", .int ((i + 1 : Nat) : Int) _), (Str.ofString "j", .int ((j + 1 : Nat) : Int) _), (Str.ofString "missing", .ref lm), (Str.ofString "unexpected", .ref lu), (Str.ofString "a", .int (ys.getD (j : Int).toNat 0) ta)]) (fun _ => (lu, listOf uv.toArray ue) :: (lm, listOf mv.toArray me) :: (news ++ (L, oL) :: frs)) (fun _ => True) (fun _ => 0) () F7 N7 (fun p hp => hp) ⟨rfl, rfl, rfl, rfl, rfl, rfl, rfl, trivial⟩ trivial ?_
              intro _ u8 h8 tk8 _ F8 N8
              clear F7 N7
              dsimp only at F8 N8
              try k_fold
              rcases Nat.lt_or_ge (j + 1) ys.length with h4 | h4
              · have hneq2 : ¬ ys.getD ((j + 1 : Nat) : Int).toNat 0 = ys.getD (j : Int).toNat 0 := by
                  rw [Int.toNat_natCast, Int.toNat_natCast, gj]
                  have : ys.getD (j + 1) 0 = ys[j + 1] := by simp [h4]
                  rw [this]
                  exact Int.ne_of_gt (List.pairwise_iff_getElem.mp hy j (j + 1) h2 h4 (Nat.lt_succ_self j))
                repeat' (first | (k_unfold; (try dsimp only)) | walk1 | (dsimp only; walk1) | (leave1; (try dsimp only)) | (dsimp only [WPost]))
                · exact absurd (by assumption) hneq2
                · exact wend ⟨i + 1, j + 1, _, _, mv, mi, me, uv, ui, ue⟩ F8 N8 (fun p hp => hp) ⟨rfl, rfl, rfl, rfl, rfl, rfl, trivial⟩ ⟨inv', i2, i3⟩ (by dsimp only; omega)
              · repeat' (first | (k_unfold; (try dsimp only)) | walk1 | (dsimp only; walk1) | (leave1; (try dsimp only)) | (dsimp only [WPost]))
                rename_i hx1 tkx ex hnx
                refine Stop.out ?_
                refine caught_new (l := envX cn cs L a ccd cl :: l) (frs := (L, oL) :: frs) (new := (lu, listOf uv.toArray ue) :: (lm, listOf mv.toArray me) :: news) rfl rfl Fs' hnx F8 N8 (hapN _ _ _ _) ?_
                intro h5 T5 oT5 ob5 vs5 frs5 SU5 F5 N5 hlt5 hne5 Ex5 hcx5
                refine came_back F5 N5 (fun p hp => Nat.ne_of_lt (hlt5 p hp)) (.head _) Ex5 ?_
                intro h5b oT5b F5b N5b Ex5b
                refine note_again N5b (.tail _ (.head _)) (.head _) Ex5b ?_
                clear F5 N5
                refine caught_fly F5b N5b hlt5 Ex5b T ?_
                intro h6 F6 N6
                have hexit : (i + 1) = xs.length ∨ (j + 1) = ys.length := Or.inr (by omega)
                exact fin.out ex ⟨i + 1, j + 1, _, _, mv, mi, me, uv, ui, ue, frs5, h6, _, _⟩ ⟨as_ovl0 F6 ⟨rfl, rfl, rfl, rfl, rfl, rfl, trivial⟩, fun p hp => N6 p (hp), inv', hexit, i2, i3, SU5⟩
          · repeat' (first | (k_unfold; (try dsimp only)) | walk1 | (dsimp only; walk1) | (leave1; (try dsimp only)) | (dsimp only [WPost]))
            rename_i hx1 tkx ex hnx
            refine Stop.out ?_
            refine caught_new (l := envX cn cs L a ccd cl :: l) (frs := (L, oL) :: frs) (new := (lu, listOf uv.toArray ue) :: (lm, listOf mv.toArray me) :: news) rfl rfl Fs' hnx F6 N6 (hapN _ _ _ _) ?_
            intro h5 T5 oT5 ob5 vs5 frs5 SU5 F5 N5 hlt5 hne5 Ex5 hcx5
            refine ⟨ref_ne_byPass _, ?_⟩
            refine note_again N5 (.tail _ (.head _)) (.head _) Ex5 ?_
            refine flight_to none F5 N5 (fun p hp => Nat.ne_of_lt (hlt5 p hp)) (.head _) Ex5 ?_
            intro h5a oT5a F5a N5a Ex5a
            replace N5a : News h₀ L' h5a ((T5, oT5a) :: (ex, ob5) :: (lu, listOf uv.toArray ue) :: (lm, listOf mv.toArray me) :: (news ++ frs5)) := fun p hp => N5a p hp
            clear F5 N5 F6 N6
            have hmB5 : (lb, listOf us.toArray e2) ∈ news ++ frs5 := List.mem_append_left _ hm2
            try k_fold
            repeat' (first | (k_unfold; (try dsimp only)) | walk1 | (dsimp only; walk1) | (leave1; (try dsimp only)) | (dsimp only [WPost]))
            refine Stop.out ?_
            (rename Fr _ _ _ _ => F7); (rename News _ _ _ _ => N7)
            with_unfolding_all refine my_while (σ := Unit) (fun _ => [(Str.ofString "expected", .ref la), (Str.ofString "actual", .ref lb), (Str.ofString "i", .int ((i + 1 : Nat) : Int) _), (Str.ofString "j", .int ((j + 1 : Nat) : Int) _), (Str.ofString "missing", .ref lm), (Str.ofString "unexpected", .ref lu), (Str.ofString "a", .int (ys.getD (j : Int).toNat 0) ta)]) (fun _ => (T5, oT5a) :: (ex, ob5) :: (lu, listOf uv.toArray ue) :: (lm, listOf mv.toArray me) :: (news ++ frs5)) (fun _ => True) (fun _ => 0) () F7 N7 (fun p hp => hp) ⟨rfl, rfl, rfl, rfl, rfl, rfl, rfl, trivial⟩ trivial ?_
            intro _ u8 h8 tk8 _ F8 N8
            clear F7 N7
            dsimp only at F8 N8
            try k_fold
            rcases Nat.lt_or_ge (j + 1) ys.length with h4 | h4
            · have hneq2 : ¬ ys.getD ((j + 1 : Nat) : Int).toNat 0 = ys.getD (j : Int).toNat 0 := by
                rw [Int.toNat_natCast, Int.toNat_natCast, gj]
                have : ys.getD (j + 1) 0 = ys[j + 1] := by simp [h4]
                rw [this]
                exact Int.ne_of_gt (List.pairwise_iff_getElem.mp hy j (j + 1) h2 h4 (Nat.lt_succ_self j))
              repeat' (first | (k_unfold; (try dsimp only)) | walk1 | (dsimp only; walk1) | (leave1; (try dsimp only)) | (dsimp only [WPost]))
              · exact absurd (by assumption) hneq2
              · refine Stop.out ?_
                refine pass_on F8 N8 (fun p hp => Nat.ne_of_lt (hlt5 p hp)) (.head _) Ex5a ?_
                intro h5b oT5b F5b N5b Ex5b
                refine note_again N5b (.tail _ (.head _)) (.head _) Ex5b ?_
                refine caught_fly F5b N5b hlt5 Ex5b T ?_
                intro h6 F6 N6
                have hexit : (i + 1) = xs.length ∨ (j + 1) = ys.length := Or.inl (by omega)
                exact fin.out ex ⟨i + 1, j + 1, _, _, mv, mi, me, uv, ui, ue, frs5, h6, _, _⟩ ⟨as_ovl0 F6 ⟨rfl, rfl, rfl, rfl, rfl, rfl, trivial⟩, fun p hp => N6 p (hp), inv', hexit, i2, i3, SU5⟩
            · repeat' (first | (k_unfold; (try dsimp only)) | walk1 | (dsimp only; walk1) | (leave1; (try dsimp only)) | (dsimp only [WPost]))
              refine Stop.out ?_
              have ad5 := sameUp_addr SU5
              have hap5 : ∀ p ∈ (T5, oT5a) :: (ex, ob5) :: (lu, listOf uv.toArray ue) :: (lm, listOf mv.toArray me) :: news, p.1 ∉ frs5.map (·.1) := by
                intro p hp hq
                rcases List.mem_cons.mp hp with rfl | hp
                · obtain ⟨q, hq, e'⟩ := List.mem_map.mp hq
                  exact absurd e' (Nat.ne_of_lt (hlt5 q (.tail _ (List.mem_append_right _ hq))))
                · rcases List.mem_cons.mp hp with rfl | hp
                  · obtain ⟨q, hq, e'⟩ := List.mem_map.mp hq
                    exact hne5 q (List.mem_append_right _ hq) e'
                  · rw [ad5] at hq
                    exact hapN _ _ _ _ p hp hq
              refine led_out_ctx (e₁ := ex) rfl N8 (.tail _ (.tail _ (.tail _ (.tail _ hmB5)))) (.tail _ (.head _)) Ex5a.data hcx5 (by omega) (by omega) (by omega) ?_
              intro h9x tk9x e9x hnc
              show wpAny _ _ (noteFrame _ _) _ _ _
              refine caught_ctx (l := envX cn cs L a ccd cl :: l) (frs := frs5) (new := (T5, oT5a) :: (ex, ob5) :: (lu, listOf uv.toArray ue) :: (lm, listOf mv.toArray me) :: news) rfl rfl (frs_up Fs' SU5) hnc F8 N8 hap5 ?_
              intro h10 T10 oT10 ob10 vs10 frs10 SU10 F10 N10 hlt10 hne10 Ex10
              refine came_back F10 N10 (fun p hp => Nat.ne_of_lt (hlt10 p hp)) (.head _) Ex10 ?_
              intro h5b oT5b F5b N5b Ex5b
              refine note_again N5b (.tail _ (.head _)) (.head _) Ex5b ?_
              clear F8 N8 F10 N10
              refine caught_fly F5b N5b hlt10 Ex5b T ?_
              intro h6 F6 N6
              have hexit : (i + 1) = xs.length ∨ (j + 1) = ys.length := Or.inl (by omega)
              exact fin.out e9x ⟨i + 1, j + 1, _, _, mv, mi, me, uv, ui, ue, frs10, h6, _, _⟩ ⟨as_ovl0 F6 ⟨rfl, rfl, rfl, rfl, rfl, rfl, trivial⟩, fun p hp => N6 p (.tail _ (.tail _ hp)), inv', hexit, i2, i3, SU5.trans SU10⟩
      · repeat' (first | (k_unfold; (try dsimp only)) | walk1 | (dsimp only; walk1) | (leave1; (try dsimp only)) | (dsimp only [WPost]))
        rename_i t5 hx0 F3 N3 hx1 tkx ex hnx
        refine Stop.out ?_
        refine caught_new (l := envX cn cs L a ccd cl :: l) (frs := (L, oL) :: frs) (new := (lu, listOf uv.toArray ue) :: (lm, listOf mv.toArray me) :: news) rfl rfl Fs' hnx F3 N3 (hapN _ _ _ _) ?_
        intro h5 T5 oT5 ob5 vs5 frs5 SU5 F5 N5 hlt5 hne5 Ex5 hcx5
        refine caught_fly F5 N5 hlt5 Ex5 T ?_
        intro h6 F6 N6
        have hexit : (i) = xs.length ∨ (j) = ys.length := Or.inr (by omega)
        exact fin.out ex ⟨i, j, _, _, mv, mi, me, uv, ui, ue, frs5, h6, _, _⟩ ⟨as_ovl0 F6 ⟨rfl, rfl, rfl, rfl, rfl, rfl, trivial⟩, fun p hp => N6 p (hp), i1, hexit, i2, i3, SU5⟩
    · repeat' (first | (k_unfold; (try dsimp only)) | walk1 | (dsimp only; walk1) | (leave1; (try dsimp only)) | (dsimp only [WPost]))
      rename_i hx1 tkx ex hnx
      refine Stop.out ?_
      refine caught_new (l := envX cn cs L a ccd cl :: l) (frs := (L, oL) :: frs) (new := (lu, listOf uv.toArray ue) :: (lm, listOf mv.toArray me) :: news) rfl rfl Fs' hnx F2 N2 (hapN _ _ _ _) ?_
      intro h5 T5 oT5 ob5 vs5 frs5 SU5 F5 N5 hlt5 hne5 Ex5 hcx5
      refine caught_fly F5 N5 hlt5 Ex5 T ?_
      intro h6 F6 N6
      have hexit : (i) = xs.length ∨ (j) = ys.length := Or.inl (by omega)
      exact fin.out ex ⟨i, j, _, _, mv, mi, me, uv, ui, ue, frs5, h6, _, _⟩ ⟨as_ovl0 F6 ⟨rfl, rfl, rfl, rfl, rfl, rfl, trivial⟩, fun p hp => N6 p (hp), i1, hexit, i2, i3, SU5⟩
  case fin =>
    intro ex d hd9
    obtain ⟨i', j', ti', tj', mv', mi', me', uv', ui', ue', frs5, h6, tk6, u6⟩ := d
    obtain ⟨F6, N6, invX, exitX, imX, iuX, suX⟩ := hd9
    dsimp only at F6 N6 invX exitX imX iuX suX ⊢
    have lenM := invX.lenM
    have lenU := invX.lenU
    have lmv := imX.out.length
    have luv := iuX.out.length
    have hmA6 : (la, listOf vs.toArray e1) ∈ news ++ frs5 := List.mem_append_left _ hm
    have hmB6 : (lb, listOf us.toArray e2) ∈ news ++ frs5 := List.mem_append_left _ hm2
    have adA : ∀ p ∈ news ++ frs5, p.1 < lm := fun p hp => by
      rcases List.mem_append.mp hp with hp | hp
      · exact hltm p (List.mem_append_left _ hp)
      · have hmm : p.1 ∈ ((L, oL) :: frs).map (·.1) := by rw [← sameUp_addr suX]; exact List.mem_map_of_mem hp
        obtain ⟨q, hq, e'⟩ := List.mem_map.mp hmm
        rw [← e']; exact hltm q (List.mem_append_right _ hq)
    try k_fold
    repeat' (first | (k_unfold; (try dsimp only)) | walk1 | (dsimp only; walk1) | (leave1; (try dsimp only)) | (dsimp only [WPost]))
    rename_i D1 hD1 FD1 ND1 lD1
    refine Stop.out ?_
    rw [pick_from _ (Int.natCast_nonneg _), Int.toNat_natCast] at ND1
    have hD1lm : lm < D1 := lD1 _ (.tail _ (.head _))
    refine led_extend FD1 ND1 (.head _) (fun n' => Upd.tail (Nat.ne_of_gt hD1lm) (Upd.tail (Nat.ne_of_gt hlmu) (Upd.head fun p hp => Nat.ne_of_lt (adA p hp)))) (by simp only [List.length_drop]; omega) ?_
    intro n7 h7 F7 N7
    clear FD1 ND1
    repeat' (first | (k_unfold; (try dsimp only)) | walk1 | (dsimp only; walk1) | (leave1; (try dsimp only)) | (dsimp only [WPost]))
    rename_i D2 hD2 FD2 ND2 lD2
    refine Stop.out ?_
    rw [pick_from _ (Int.natCast_nonneg _), Int.toNat_natCast] at ND2
    have hD2lu : lu < D2 := lD2 _ (.tail _ (.head _))
    have hD1lu : lu < D1 := lD1 _ (.head _)
    refine led_extend FD2 ND2 (.head _) (fun n' => Upd.tail (Nat.ne_of_gt hD2lu) (Upd.tail (Nat.ne_of_gt hD1lu) (Upd.head fun p hp => ?_))) (by simp only [List.length_drop]; omega) ?_
    · rcases List.mem_cons.mp hp with rfl | hp
      · exact Nat.ne_of_lt hlmu
      · exact Nat.ne_of_lt (Nat.lt_trans (adA p hp) hlmu)
    intro n8 h8 F8 N8
    clear FD2 ND2
    repeat' (first | (k_unfold; (try dsimp only)) | walk1 | (dsimp only; walk1) | (leave1; (try dsimp only)) | (dsimp only [WPost]))
    rename_i lt h9 F9 N9 l9
    show Q (.ref lt) _
    have hne9 : ∀ p ∈ (lt, tupOf [.ref lm, .ref lu]) :: (lu, listOf (uv' ++ us.drop (j')).toArray n8) :: (lm, listOf (mv' ++ vs.drop (i')).toArray n7) :: news, p.1 ≠ L := by
      have hLlm : L < lm := hltm (L, oL) (List.mem_append_right _ (.head _))
      intro p hp
      rcases List.mem_cons.mp hp with rfl | hp
      · exact Nat.ne_of_gt (Nat.lt_trans hLlm l9.2.2.2.1)
      · rcases List.mem_cons.mp hp with rfl | hp
        · exact Nat.ne_of_gt (Nat.lt_trans hLlm hlmu)
        · rcases List.mem_cons.mp hp with rfl | hp
          · exact Nat.ne_of_gt hLlm
          · exact (N p (List.mem_append_left _ hp)).2.1
    obtain ⟨frs9, SU9, F10, N10⟩ := back_in (new := (lt, tupOf [.ref lm, .ref lu]) :: (lu, listOf (uv' ++ us.drop (j')).toArray n8) :: (lm, listOf (mv' ++ vs.drop (i')).toArray n7) :: news) C suX F9 (fun p hp => N9 p (by
      rcases List.mem_cons.mp hp with rfl | hp
      · exact .head _
      · exact .tail _ (.tail _ (.tail _ hp)))) hne9 (fun p hp => (N p (List.mem_append_right _ hp)).2.1)
    refine hret _ _ _ _ _ SU9 F10 N10 ⟨lt, lm, lu, _, _, _, _, rfl, rfl, fun p hp => hltm p (List.mem_append_left _ hp), hlmu, l9.2.2.1, ?_, ?_⟩
    · rw [← invX.fin1 exitX]; exact IntsAre.append imX.out (ints_drop hiK.out _)
    · rw [← invX.fin2 exitX]; exact IntsAre.append iuX.out (ints_drop hi2K.out _)
end Mj
end MjDiff

section MjLoopC
theorem Mj.freshMjLoopC : True := by (w_top off; trivial)
open PySem PySem.W PyProof.Rows PySem.Spec PySem.Calls
namespace Mj
section
variable {prog : Program} {w : World} {A : Around} {E : Value → Shared → Prop} {s : Shared} {env : Env} {h₀ : Heap} {x : Str} {px : Pos} {body : List Stmt} {Q : Flow → Shared → Prop} {cc : Addr}

/-- the end of a turn whose name is a cell -/
def CEnd {σ : Type} (h₀ : Heap) (L cc : Addr) (s₁ : Shared) (fm : σ → List (Str × Value)) (Ld : σ → Led) (P : σ → Prop) (I : Addr) (oI : Obj) (s₂ : Shared) : Prop :=
  ∃ (c' : σ) (h' : Heap) (tk : Nat) (m' : Str → Option Value) (news' : Led) (oc : Obj) (v : Option Value), s₂ = { s₁ with heap := h', toks := tk } ∧ Fr h₀ L h' m' ∧ News h₀ L h' news' ∧ (I, oI) ∈ news' ∧ (cc, oc) ∈ news' ∧ oc.data = .cell v ∧ (∀ p ∈ Ld c', p ∈ news') ∧ (∀ p ∈ Ld c', p.1 ≠ I ∧ p.1 ≠ cc) ∧ Agree m' (fm c') ∧ P c'
def CPost {σ : Type} (h₀ : Heap) (L cc : Addr) (s₁ : Shared) (fm : σ → List (Str × Value)) (Ld : σ → Led) (P : σ → Prop) (I : Addr) (oI : Obj) (Q : Flow → Shared → Prop) (f : Flow) (s₂ : Shared) : Prop :=
  match f with
  | .ret v => Q (.ret v) s₂
  | .brk => Q .next s₂
  | _ => CEnd h₀ L cc s₁ fm Ld P I oI s₂
theorem cend {σ : Type} {L : Addr} {s₁ : Shared} {fm : σ → List (Str × Value)} {Ld : σ → Led} {P : σ → Prop} {I : Addr} {oI : Obj} {h' : Heap} {tk : Nat} {m' : Str → Option Value} {news' : Led} {oc : Obj} {v : Option Value} (c' : σ) (F : Fr h₀ L h' m') (N : News h₀ L h' news') (hI : (I, oI) ∈ news') (hc : (cc, oc) ∈ news') (hd : oc.data = .cell v) (hn : ∀ p ∈ Ld c', p ∈ news') (hne : ∀ p ∈ Ld c', p.1 ≠ I ∧ p.1 ≠ cc) (ha : Agree m' (fm c')) (hp : P c') :
    CEnd h₀ L cc s₁ fm Ld P I oI { s₁ with heap := h', toks := tk } := ⟨c', h', tk, m', news', oc, v, rfl, F, N, hI, hc, hd, hn, hne, ha, hp⟩

inductive FInv {σ : Type} (h₀ : Heap) (cc : Addr) (s : Shared) (env : Env) (n : Nat) (a d : Int) (fm : Nat → σ → List (Str × Value)) (Ld : σ → Led) (P : Nat → σ → Prop) (k : Nat) (s' : Shared) : Prop
  | mk (h' : Heap) (tk : Nat) (m' : Str → Option Value) (oc : Obj) (v : Option Value) (c : σ) (i : Nat) (e : s' = { s with heap := h', toks := tk }) (hst : IsRangeIter h' s.heap.objs.size (a + (i : Nat) * d) ((n : Int) - (i : Nat)) d) (F : Fr h₀ env.locals h' m') (N : News h₀ env.locals h' ((cc, oc) :: Ld c)) (hd : oc.data = .cell v) (hoff : ∀ p ∈ Ld c, p.1 ≠ s.heap.objs.size ∧ p.1 ≠ cc) (ha : Agree m' (fm i c)) (hp : P i c) (hi : i ≤ n) (hk : k = n + 1 - i) : FInv h₀ cc s env n a d fm Ld P k s'

theorem for_range_cell {σ : Type} {r : Addr} {a b d : Int} {t1 t2 t3 : Tok} {n : Nat} {m₀ : Str → Option Value} {news₀ : Led} {oc₀ : Obj} {v₀ : Option Value} (hh : A.handled = none) (hr : IsRange s.heap r a b d t1 t2 t3) (hsm : Builtin.Range.small a b d = true) (hsn : Builtin.Range.rangeSize a b d = (n : Int))
    (hk : env.scope.kind = .function) (hx : env.kindOf x = some .cell) (hcl : env.cells.lookup x = some cc)
    (fm : Nat → σ → List (Str × Value)) (Ld : σ → Led) (P : Nat → σ → Prop) (c₀ : σ) (F : Fr h₀ env.locals s.heap m₀) (N : News h₀ env.locals s.heap news₀) (hc : (cc, oc₀) ∈ news₀) (hcd : oc₀.data = .cell v₀) (hn : ∀ p ∈ Ld c₀, p ∈ news₀) (hne : ∀ p ∈ Ld c₀, p.1 ≠ cc) (ha : Agree m₀ (fm 0 c₀)) (hp : P 0 c₀)
    (turn : ∀ (i : Nat) (t : Tok) (c : σ) (u : Str → Option Value) (oc : Obj) (I : Addr) (oI : Obj) h tk, i < n → P i c → oc.data = .cell (some (.int (a + i * d) t)) → I ≠ cc → (∀ p ∈ Ld c, p.1 ≠ I ∧ p.1 ≠ cc) → Fr h₀ env.locals h (ovl (fm i c) u) → News h₀ env.locals h ((I, oI) :: (cc, oc) :: Ld c) →
      wpAny (model prog w) A (execs body env) (CPost h₀ env.locals cc { s with heap := h, toks := tk } (fm (i + 1)) Ld (P (i + 1)) I oI Q) E { s with heap := h, toks := tk })
    (done : ∀ (c : σ) (u : Str → Option Value) (oc : Obj) (v : Option Value) h tk, P n c → oc.data = .cell v → (∀ p ∈ Ld c, p.1 ≠ cc) → Fr h₀ env.locals h (ovl (fm n c) u) → News h₀ env.locals h ((cc, oc) :: Ld c) → Q .next { s with heap := h, toks := tk })
    (hE : PassesOwn (model prog w) A env E := by passes_own) :
    wpAny (model prog w) A (pyIter (.ref r)) (fun it s₂ => codeAny (model prog w) A (.forLoop (.Name x px) it body [] env) (fun r s' => match r with | .ok f => Q f s' | .error e => cameBackBy (model prog w) A env E e s') s₂) E s := by
  refine wpAny_pyIter_range hr hsm ?_
  have W := Walks.range (prog := prog) (w := w) hh s.heap.objs.size a d n
  have hLlt : env.locals < s.heap.objs.size := F.ns.lt
  have hI0 : h₀.get? s.heap.objs.size = none := next_is_new F
  have hcI : cc ≠ s.heap.objs.size := Nat.ne_of_lt (Heap.lt_size (N _ hc).1)
  have hcL : cc ≠ env.locals := (N _ hc).2.1
  have hc0 : h₀.get? cc = none := (N _ hc).2.2
  have hLI : env.locals ≠ s.heap.objs.size := Nat.ne_of_lt hLlt
  have up : ∀ q o, s.heap.get? q = some o → (s.heap.push { cls := .type "range_iterator", data := .fields #[rawInt a, rawInt (Builtin.Range.rangeSize a b d), rawInt d] }).get? q = some o := fun q o e => Heap.get?_push_of_some _ e
  refine codeAny_forLoop
    (FInv h₀ cc s env n a d fm Ld P) ?_ (n + 1)
    (.mk _ s.toks m₀ oc₀ v₀ c₀ 0 rfl ?_ (F.push _) ?_ hcd ?_ ha hp (Nat.zero_le _) rfl)
  · rintro k s' ⟨h', tk, m', oc, v, c, i, rfl, hst, F', N', hd', hoff, ha', hp', hi, rfl⟩
    by_cases hlt : i < n
    · refine W.item i _ _ _ hlt hst fun v' h₁ tk₁ hP hst₁ hk₁ => ?_
      obtain ⟨t, rfl⟩ := hP
      have keep1 : ∀ b o, b ≠ s.heap.objs.size → h'.get? b = some o → h₁.get? b = some o := fun b o hb e => hk₁ b o (by simpa using hb) e
      have zc := N' (cc, oc) (.head _)
      have F₁ : Fr h₀ env.locals h₁ m' := ⟨F'.ns.at' fun o e => keep1 _ o hLI e, fun b o e => keep1 b o (fun q => by rw [q, hI0] at e; cases e) (F'.keep b o e), F'.above⟩
      refine wpAny_assign_Name (wpAny_storeName_cell hk hx hcl ⟨oc, keep1 _ _ hcI zc.1, hd'⟩ fun h₂ hv₂ hs₂ => ?_)
      obtain ⟨oc₂, ho₂, hd₂⟩ := hv₂
      have F₂ : Fr h₀ env.locals h₂ m' := F₁.change hs₂ hcL hc0
      have hst₂ : IsRangeIter h₂ s.heap.objs.size (a + ((i + 1 : Nat) : Int) * d) ((n : Int) - ((i + 1 : Nat) : Int)) d := (hs₂.2 _ hcI.symm).trans hst₁
      obtain ⟨oI, hoI⟩ : ∃ oI, h₂.get? s.heap.objs.size = some oI := ⟨_, hst₂⟩
      have N₂ : News h₀ env.locals h₂ ((s.heap.objs.size, oI) :: (cc, oc₂) :: Ld c) := fun p hp => by
        rcases List.mem_cons.mp hp with rfl | hp
        · exact ⟨hoI, hLI.symm, hI0⟩
        · rcases List.mem_cons.mp hp with rfl | hp
          · exact ⟨ho₂, hcL, hc0⟩
          · have z := N' p (.tail _ hp)
            exact ⟨(hs₂.2 p.1 (hoff p hp).2).trans (keep1 _ _ (hoff p hp).1 z.1), z.2⟩
      refine wpAny_passesOwn hE (wpAny_mono (turn i t c m' oc₂ _ oI h₂ _ hlt hp' hd₂ hcI.symm hoff (by rw [ha'.ovl]; exact F₂) N₂) (fun f s₃ q => ?_) fun _ _ e => e)
      have fin : CEnd h₀ env.locals cc { s with heap := h₂, toks := tk₁ } (fm (i + 1)) Ld (P (i + 1)) s.heap.objs.size oI s₃ → ∃ k, k < n + 1 - i ∧ FInv h₀ cc s env n a d fm Ld P k s₃ := by
        rintro ⟨c', h3, tk3, m3, news3, oc3, v3, rfl, F3, N3, hI3, hc3, hd3, hn3, hne3, ha3, hp3⟩
        refine ⟨n + 1 - (i + 1), by omega, .mk h3 tk3 m3 oc3 v3 c' (i + 1) rfl ?_ F3 (fun p hp => ?_) hd3 hne3 ha3 hp3 hlt rfl⟩
        · have hIo := (N3 _ hI3).1
          have e1 : h₂.get? s.heap.objs.size = some _ := hst₂
          rw [hoI] at e1
          show h3.get? s.heap.objs.size = some _
          rw [hIo, ← Option.some.inj e1]
        · rcases List.mem_cons.mp hp with rfl | hp
          · exact N3 _ hc3
          · exact N3 p (hn3 p hp)
      cases f with
      | ret v => exact q
      | brk => exact q
      | next => exact fin q
      | cont => exact fin q
    · have hin : i = n := by omega
      subst hin
      refine W.done _ _ _ hst fun h₁ tk₁ hk₁ => wpAny_execs_nil ?_
      have keep1 : ∀ b o, b ≠ s.heap.objs.size → h'.get? b = some o → h₁.get? b = some o := fun b o hb e => hk₁ b o (by simpa using hb) e
      refine done c m' oc v h₁ tk₁ hp' hd' (fun p hp => (hoff p hp).2) ?_ fun p hp => ?_
      · rw [ha'.ovl]
        exact ⟨F'.ns.at' fun o e => keep1 _ o hLI e, fun b o e => keep1 b o (fun q => by rw [q, hI0] at e; cases e) (F'.keep b o e), F'.above⟩
      · have z := N' p hp
        refine ⟨keep1 _ _ ?_ z.1, z.2⟩
        rcases List.mem_cons.mp hp with rfl | hp
        · exact hcI
        · exact (hoff p hp).1
  · show IsRangeIter _ _ _ _ _; rw [hsn]; simpa using Heap.get?_push_size _ rfl
  · intro p hp
    rcases List.mem_cons.mp hp with rfl | hp
    · exact ⟨up _ _ (N _ hc).1, (N _ hc).2⟩
    · exact ⟨up _ _ (N p (hn p hp)).1, (N p (hn p hp)).2⟩
  · exact fun p hp => ⟨Nat.ne_of_lt (Heap.lt_size (N p (hn p hp)).1), hne p hp⟩
end
end Mj
end MjLoopC

section MjConXC
theorem Mj.freshMjConXC : True := by (w_top off; trivial)
open PySem PySem.W PyProof.Rows PySem.Spec PySem.Calls
namespace Mj
open PyProof.Rows.TI (Frs SameUp Caller)

theorem code_defXC {prog : Program} {w : World} {A : Around} {s : Shared} {h₀ : Heap} {L : Addr} {m : Str → Option Value} {env : Env} {l : List Env} {news frs : Led} {K : Frag} {p : Program} {loose : List Str} {mean : ExcName → Option Value} {mg mb : Str → Option Value}
    {R : Result → Shared → Prop} {name qual : Str} {params : Arguments} {body : List Stmt} {scope : Scope} {dV kV doc pm cdv ct oc : Value} {an od : Option Addr} {osl : Array (Option Value)} {f : Addr} {args : Args} {binds : List (Str × Value)}
    (Fs : Frs l frs) (F : Fr h₀ L s.heap m) (X₀ : K.In h₀) (N : News h₀ L s.heap (news ++ frs)) (T : Top p loose mean mg mb h₀) (hf : env.frame = some L) (hke : env.scope.kind = .function)
    (ho : K.lookup f = some ⟨oc, od, .func (fnOf name qual params body scope dV kV doc pm an cdv ct), osl⟩) (hcd : codeIn K cdv qual = true) (hroom : A.depth < recursionLimit)
    (hbind : BindsTo s (fnOf name qual params body scope dV kV doc pm an cdv ct) args binds) (hkind : (binds.all fun y => scope.names.lookup y.1 == some .local || scope.names.lookup y.1 == some .cell) = true) (hnd : ((cellsFrom 0 scope.names []).map (·.1)).Nodup)
    (h : ∀ oL L' h₁ tk cells, Caller h₀ L m oL → Frs (env :: l) ((L, oL) :: frs) → L < L' → Fr h₀ L' h₁ (bindL (envOfC qual scope L' f cdv).kindOf binds fun _ => none) → News h₀ L' h₁ (cells ++ (news ++ (L, oL) :: frs)) →
      CellsAre (bindC (envOfC qual scope L' f cdv).kindOf binds fun _ => none) (cellsFrom (L' + 1) scope.names []) cells → (∀ p ∈ news ++ (L, oL) :: frs, p.1 < L') →
      wpAny (model prog w) (A.deeper (envOfC qual scope L' f cdv)) (execs body (envOfC qual scope L' f cdv))
        (fun fl s' => R (.ok (.ret (match fl with | .ret v => v | _ => .none))) s')
        (fun e s' => wpAny (model prog w) (A.deeper (envOfC qual scope L' f cdv)) (leaving (envOfC qual scope L' f cdv) e) (fun _ s'' => R (.error e) s'') (fun e' s'' => R (.error e') s'') s')
        { s with heap := h₁, toks := tk })
    (hco : scope.isCoroutine = false) (hgen : scope.isGenerator = false) (hk : scope.kind = .function) : codeAny (model prog w) A (.call (.ref f) args) R s := by
  have X := X₀.keeps F.keep
  obtain ⟨oL, es, ep, hL, hLd, hLk, hLf⟩ := F.ns
  have hLt := Heap.lt_size hL
  have hkd : env.scope.kind ≠ .module := by rw [hke]; decide
  refine codeAny_call_function hroom (X _ _ ho) rfl hco hgen rfl (codeRec_of X hcd) (hbind _ _ _ _ ?_)
  refine wpAny_newFunctionEnv_cells hk (kindsX hkind _) fun env' he s' x => ?_
  subst he
  refine ⟨(T.nolimit.keeps F.keep).keeps x.toInCall.keep, codeAny_func ?_⟩
  obtain ⟨h₁, tk, rfl, _⟩ := x.done
  have hk₁ := x.toInCall.keep
  obtain ⟨cells, NC, Y⟩ := Cl.news (h₀ := s.heap) (Nat.le_refl _) fun n c hm => ⟨x.cell n c (lookup_of_mem_nodup (cellsFrom_names scope.names 0 (s.heap.objs.size + 1) [] [] rfl ▸ hnd) hm), x.above n c hm⟩
  have old : ∀ p ∈ news ++ frs, h₁.get? p.1 = some p.2 ∧ p.1 ≠ s.heap.objs.size ∧ h₀.get? p.1 = none := fun p hp => ⟨hk₁ _ _ (N p hp).1, Nat.ne_of_lt (Heap.lt_size (N p hp).1), (N p hp).2.2⟩
  have all : ∀ p ∈ news ++ (L, oL) :: frs, (h₁.get? p.1 = some p.2 ∧ p.1 ≠ s.heap.objs.size ∧ h₀.get? p.1 = none) ∧ p.1 < s.heap.objs.size := fun p hp => by
    rcases List.mem_append.mp hp with hp | hp
    · exact ⟨old p (List.mem_append_left _ hp), Heap.lt_size (N p (List.mem_append_left _ hp)).1⟩
    · rcases List.mem_cons.mp hp with rfl | hp
      · exact ⟨⟨hk₁ _ _ hL, Nat.ne_of_lt hLt, Heap.get?_none_of_le F.above⟩, hLt⟩
      · exact ⟨old p (List.mem_append_right _ hp), Heap.lt_size (N p (List.mem_append_right _ hp)).1⟩
  refine h oL s.heap.objs.size h₁ tk cells ⟨fun h' sl e => ⟨_, es, ep, e, hLd, hLk, hLf⟩, ⟨es, ep, hLd⟩, F.above⟩ ⟨hkd, hf, ⟨es, ep, hLd⟩, Fs⟩ hLt ⟨x.toInCall.ns, fun b o e => hk₁ b o (F.keep b o e), Nat.le_trans F.above (Nat.le_of_lt hLt)⟩ (fun p hp => ?_) Y fun p hp => (all p hp).2
  rcases List.mem_append.mp hp with hp | hp
  · refine ⟨(NC p hp).1, (NC p hp).2.1, ?_⟩
    cases q : h₀.get? p.1 with
    | none => rfl
    | some o => have h9 := F.keep _ _ q; rw [(NC p hp).2.2] at h9; cases h9
  · exact (all p hp).1
end Mj
end MjConXC

section MjComp
theorem Mj.freshMjComp : True := by (w_top off; trivial)
open PySem PySem.W PyProof.Rows PySem.Spec PySem.Calls
namespace Mj
open PyProof.Rows.LCg (NsObj ns_obj lst lst_snoc)

def Back (h₀ : Heap) (L : Addr) (m : Str → Option Value) (s : Shared) (all : Led) (s' : Shared) : Prop := ∃ h' tk, s' = { s with heap := h', toks := tk } ∧ Fr h₀ L h' m ∧ News h₀ L h' all
theorem Back.mk {h₀ : Heap} {L : Addr} {m : Str → Option Value} {s : Shared} {all news : Led} {h' : Heap} {tk : Nat} (F : Fr h₀ L h' m) (N : News h₀ L h' news) (sub : ∀ p ∈ all, p ∈ news) : Back h₀ L m s all { s with heap := h', toks := tk } := ⟨h', tk, rfl, F, fun p hp => N p (sub p hp)⟩

def Tests (prog : Program) (w : World) (A : Around) (E : Value → Shared → Prop) (env : Env) : List Expr → (Bool → Shared → Prop) → Shared → Prop
  | [], Q, s => Q true s
  | c :: _, Q, s => wpAny (model prog w) A (isTrue c env (eval c env)) Q E s

def Turn (prog : Program) (w : World) (A : Around) (h₀ : Heap) (L : Addr) (m : Str → Option Value) (env : Env) (elt : Expr) (ts : List Expr) (s : Shared) (I τ D : Addr) (news : Led) (P : Nat → Value → Prop) (TgV : Value → Obj → Prop) (tb : Nat → Bool) (g : Nat → Int) (n : Nat) : Prop :=
  ∀ i v oI oτ ys h tk (E' : Value → Shared → Prop), i < n → P i v → TgV v oτ → Fr h₀ L h m → News h₀ L h ((I, oI) :: (τ, oτ) :: (D, lst ys) :: news) → (∀ p ∈ news, p.1 ≠ I ∧ p.1 ≠ τ ∧ p.1 ≠ D) → (I ≠ τ ∧ I ≠ D ∧ τ ≠ D) →
    Tests prog w A E' env ts (fun b s' => b = tb i ∧ (if b = true then wpAny (model prog w) A (eval elt env) (fun y s'' => (∃ t, y = .int (g i) t) ∧ Back h₀ L m { s with heap := h, toks := tk } ((I, oI) :: (τ, oτ) :: (D, lst ys) :: news) s'') E' s'
      else Back h₀ L m { s with heap := h, toks := tk } ((I, oI) :: (τ, oτ) :: (D, lst ys) :: news) s')) { s with heap := h, toks := tk }

inductive CInv (h₀ : Heap) (L : Addr) (m : Str → Option Value) (s : Shared) (n : Nat) (St : Nat → Heap → Prop) (Tg : Obj → Prop) (τ D : Addr) (news : Led) (tb : Nat → Bool) (g : Nat → Int) (k : Nat) (s' : Shared) : Prop
  | mk (h' : Heap) (tk i : Nat) (ys : List Value) (oτ : Obj) (e : s' = { s with heap := h', toks := tk }) (hi : i ≤ n) (hk : k = n + 1 - i) (hy : ys.length ≤ i) (hst : St i h') (F : Fr h₀ L h' m) (hT : Tg oτ) (N : News h₀ L h' ((τ, oτ) :: (D, lst ys) :: news)) (hys : IntsAre ys (((List.range i).filter tb).map g)) : CInv h₀ L m s n St Tg τ D news tb g k s'

section
variable {prog : Program} {w : World} {A : Around} {E : Value → Shared → Prop} {s : Shared} {h₀ : Heap} {L : Addr} {m : Str → Option Value} {env : Env}

theorem comp_loop {elt iter : Expr} {ts : List Expr} {x : Str} {px : Pos} {scope : Scope} {pos : Pos} {I τ D : Addr} {fp : List Addr} {n : Nat} {P : Nat → Value → Prop} {St : Nat → Heap → Prop} {news : Led} {oτ : Obj} {Tg : Obj → Prop} {TgV : Value → Obj → Prop} {tb : Nat → Bool} {g : Nat → Int} {R : Result → Shared → Prop}
    (W : Walks prog w A I fp [I] n P St) (hts : ts.length ≤ 1) (hsz : n ≤ sizeLine) (hIo : ∀ i h, St i h → ∃ o, h.get? I = some o)
    (hSt : ∀ i h h' o, St i h → h.get? I = some o → h'.get? I = some o → News h₀ L h' news → St i h')
    (hTg : ∀ v o, TgV v o → Tg o)
    (store : ∀ v h tk o (Q : Unit → Shared → Prop) (E : Value → Shared → Prop), h.get? τ = some o → Tg o → (∀ h' tk' o', h'.get? τ = some o' → TgV v o' → Heap.SameBut τ h h' → Q () { s with heap := h', toks := tk' }) → wpAny (model prog w) A (assign (.Name x px) env v) Q E { s with heap := h, toks := tk })
    (hτf : τ ∉ fp) (hDf : D ∉ fp) (hIτ : I ≠ τ) (hID : I ≠ D) (hτD : τ ≠ D) (hIL : L ≠ I) (hI₀ : h₀.get? I = none) (off : ∀ p ∈ news, p.1 ≠ I ∧ p.1 ≠ τ ∧ p.1 ≠ D)
    (F : Fr h₀ L s.heap m) (N : News h₀ L s.heap ((τ, oτ) :: (D, lst []) :: news)) (hT : Tg oτ) (hst : St 0 s.heap)
    (turn : Turn prog w A h₀ L m env elt ts s I τ D news P TgV tb g n)
    (done : ∀ h tk oτ ys, Tg oτ → Fr h₀ L h m → News h₀ L h ((τ, oτ) :: (D, lst ys) :: news) → IntsAre ys (((List.range n).filter tb).map g) → R (.ok .next) { s with heap := h, toks := tk }) :
    codeAny (model prog w) A (.compLoop (.ListComp elt [⟨.Name x px, iter, ts, 0⟩] scope pos) 0 (.ref I) (.ref D) env) R s := by
  have zτ := (N _ (.head _)).2
  have zD := (N _ (.tail _ (.head _))).2
  refine codeAny_compLoop_tests
    (CInv h₀ L m s n St Tg τ D news tb g) ?_ (n + 1)
    (.mk s.heap s.toks 0 [] oτ rfl (Nat.zero_le _) rfl (Nat.le_refl _) hst F hT N (by simpa using IntsAre.nil))
  rintro k s' ⟨h', tk, i, ys, oτ', rfl, hi, rfl, hyl, hst', F', hT', N', hys⟩
  by_cases hlt : i < n
  · refine W.item i _ _ _ hlt hst' fun v h₂ tk₂ hPv hst₂ hk₂ => ?_
    have keep2 : ∀ b o, b ≠ I → h'.get? b = some o → h₂.get? b = some o := fun b o hb e => hk₂ b o (by simpa using hb) e
    have eτ : h₂.get? τ = some oτ' := keep2 _ _ (Ne.symm hIτ) (N' _ (.head _)).1
    dsimp only
    refine store v h₂ tk₂ oτ' _ _ eτ hT' fun h₃ tk₃ o₃ e₃ hV hs₃ => ?_
    have hst₃ : St (i + 1) h₃ := W.frame _ _ _ hst₂ fun b hb o e => hs₃.extBut b o (fun q => hτf (q ▸ hb)) e
    obtain ⟨oI, heI⟩ := hIo _ _ hst₃
    have F₃ : Fr h₀ L h₃ m := (LCg.fr_but F' hk₂ hIL hI₀).change hs₃ zτ.1 zτ.2
    have N₃ : News h₀ L h₃ ((I, oI) :: (τ, o₃) :: (D, lst ys) :: news) := fun p hp => by
      rcases List.mem_cons.mp hp with rfl | hp
      · exact ⟨heI, Ne.symm hIL, hI₀⟩
      · rcases List.mem_cons.mp hp with rfl | hp
        · exact ⟨e₃, zτ⟩
        · have z := N' p (.tail _ hp)
          have hn : p.1 ≠ I ∧ p.1 ≠ τ := by
            rcases List.mem_cons.mp hp with rfl | hp
            · exact ⟨Ne.symm hID, Ne.symm hτD⟩
            · exact ⟨(off p hp).1, (off p hp).2.1⟩
          exact ⟨hs₃.extBut _ _ hn.2 (keep2 _ _ hn.1 z.1), z.2⟩
    have tst : ∀ (Q : Bool → Shared → Prop) (E' : Value → Shared → Prop) (s : Shared), Tests prog w A E' env ts Q s → wpAny (model prog w) A (forIn ts true fun c r => if r = true then do let ok ← isTrue c env (eval c env); pure (ForInStep.yield ok) else pure (ForInStep.yield r)) Q E' s := by
      intro Q E' s ht
      match ts, hts, ht with
      | [], _, ht => exact wpAny_tests_nil ht
      | [c], _, ht => exact wpAny_tests_one ht
    have back : ∀ s₅, Back h₀ L m { s with heap := h₃, toks := tk₃ } ((I, oI) :: (τ, o₃) :: (D, lst ys) :: news) s₅ → ∃ h₅ tk₅, s₅ = { s with heap := h₅, toks := tk₅ } ∧ Fr h₀ L h₅ m ∧ St (i + 1) h₅ ∧ News h₀ L h₅ ((τ, o₃) :: (D, lst ys) :: news) := by
      rintro s₅ ⟨h₅, tk₅, rfl, F₅, N₅⟩
      exact ⟨h₅, tk₅, rfl, F₅, hSt _ _ _ _ hst₃ heI (N₅ _ (.head _)).1 fun p hp => N₅ p (.tail _ (.tail _ (.tail _ hp))), fun p hp => N₅ p (.tail _ hp)⟩
    refine tst _ _ _ ?_
    have hturn := turn i v oI o₃ ys h₃ tk₃ (notedBy (model prog w) A env fun e s' => R (.error e) s') hlt hPv hV F₃ N₃ off ⟨hIτ, hID, hτD⟩
    have body : ∀ b s', (b = tb i ∧ (if b = true then wpAny (model prog w) A (eval elt env) (fun y s'' => (∃ t, y = .int (g i) t) ∧ Back h₀ L m { s with heap := h₃, toks := tk₃ } ((I, oI) :: (τ, o₃) :: (D, lst ys) :: news) s'') (notedBy (model prog w) A env fun e s' => R (.error e) s') s'
        else Back h₀ L m { s with heap := h₃, toks := tk₃ } ((I, oI) :: (τ, o₃) :: (D, lst ys) :: news) s')) →
        if b = true then wpAny (model prog w) A (eval elt env) (fun x s₄ => wpAny (model prog w) A (call (.builtin "list.append") [.ref D, x]) (fun _ s₅ => ∃ m_1, m_1 < n + 1 - i ∧ CInv h₀ L m s n St Tg τ D news tb g m_1 s₅) (notedBy (model prog w) A env fun e s' => R (.error e) s') s₄) (notedBy (model prog w) A env fun e s' => R (.error e) s') s'
        else ∃ m_1, m_1 < n + 1 - i ∧ CInv h₀ L m s n St Tg τ D news tb g m_1 s' := by
      rintro b s' ⟨hb, hif⟩
      cases b with
      | true =>
        simp only [if_true] at hif ⊢
        refine wpAny_mono hif (fun y s₅ h₅ => ?_) fun _ _ e => e
        obtain ⟨⟨t, rfl⟩, hB⟩ := h₅
        obtain ⟨h₅, tk₅, rfl, F₅, hst₅, N₅⟩ := back _ hB
        refine append_at (hsz := by show ys.toArray.size ≤ sizeLine; rw [List.size_toArray]; exact Nat.le_trans (Nat.le_trans hyl hi) hsz) (N₅ _ (.tail _ (.head _))).1 fun h₆ hs₆ hD₆ => ?_
        refine ⟨n + 1 - (i + 1), by omega, .mk h₆ tk₅ (i + 1) (ys ++ [.int (g i) t]) o₃ rfl hlt rfl (by rw [List.length_append, List.length_singleton]; exact Nat.succ_le_succ hyl) (W.frame _ _ _ hst₅ fun b hb o e => hs₆.extBut b o (fun q => hDf (q ▸ hb)) e) (F₅.change hs₆ zD.1 zD.2) (hTg _ _ hV) (fun p hp => ?_) ?_⟩
        · rcases List.mem_cons.mp hp with rfl | hp
          · exact ⟨hs₆.extBut _ _ hτD (N₅ _ (.head _)).1, zτ⟩
          · rcases List.mem_cons.mp hp with rfl | hp
            · exact ⟨hD₆.trans (congrArg some (lst_snoc ys _)), zD⟩
            · have z := N₅ p (.tail _ (.tail _ hp))
              exact ⟨hs₆.extBut _ _ (off p hp).2.2 z.1, z.2⟩
        · rw [List.range_succ, List.filter_append, List.map_append]
          refine hys.append ?_
          simp only [List.filter_cons, ← hb, if_true, List.filter_nil, List.map_cons, List.map_nil]
          exact .cons _ t .nil
      | false =>
        simp only [Bool.false_eq_true, if_false] at hif ⊢
        obtain ⟨h₅, tk₅, rfl, F₅, hst₅, N₅⟩ := back _ hif
        refine ⟨n + 1 - (i + 1), by omega, .mk h₅ tk₅ (i + 1) ys o₃ rfl hlt rfl (Nat.le_succ_of_le hyl) hst₅ F₅ (hTg _ _ hV) N₅ ?_⟩
        rw [List.range_succ, List.filter_append, List.map_append]
        simpa [List.filter_cons, ← hb] using hys
    match ts, hts, hturn with
    | [], _, hturn => exact body _ _ hturn
    | [c], _, hturn => exact wpAny_mono hturn body fun _ _ e => e
  · obtain rfl : i = n := Nat.le_antisymm hi (Nat.not_lt.mp hlt)
    refine W.done _ _ _ hst' fun h₂ tk₂ hk₂ => ?_
    have keep2 : ∀ b o, b ≠ I → h'.get? b = some o → h₂.get? b = some o := fun b o hb e => hk₂ b o (by simpa using hb) e
    refine done h₂ tk₂ oτ' ys hT' (LCg.fr_but F' hk₂ hIL hI₀) (fun p hp => ?_) hys
    have z := N' p hp
    refine ⟨keep2 _ _ ?_ z.1, z.2⟩
    rcases List.mem_cons.mp hp with rfl | hp
    · exact Ne.symm hIτ
    · rcases List.mem_cons.mp hp with rfl | hp
      · exact Ne.symm hID
      · exact (off p hp).1

/-- what a comprehension leaves: the new list, the old ledger -/
def Fini (h₀ : Heap) (L : Addr) (m : Str → Option Value) (s : Shared) (news : Led) (rs : List Int) (RR : Value → Addr → Result → Shared → Prop) : Prop :=
  ∀ D C h tk m' ys, Fr h₀ L h m → News h₀ L h ((D, lst ys) :: news) → (∀ p ∈ news, p.1 < D) → h.Ns C m' → h₀.get? C = none → C ≠ L → C ≠ D → (∀ p ∈ news, p.1 ≠ C) → IntsAre ys rs → RR (.ref D) C (.ok .next) { s with heap := h, toks := tk }

theorem block_L {elt iter : Expr} {ts : List Expr} {x : Str} {px : Pos} {scope : Scope} {cl : List (Str × Addr)} {pos : Pos} {I : Addr} {fp : List Addr} {n : Nat} {P : Nat → Value → Prop} {St : Nat → Heap → Prop} {news : Led} {tb : Nat → Bool} {g : Nat → Int} {RR : Value → Addr → Result → Shared → Prop}
    (W : Walks prog w A I fp [I] n P St) (hts : ts.length ≤ 1) (hsz : n ≤ sizeLine) (hIo : ∀ i h, St i h → ∃ o, h.get? I = some o)
    (hSt : ∀ i h h' o, St i h → h.get? I = some o → h'.get? I = some o → News h₀ L h' news → St i h')
    (hcell : ∀ y ∈ scope.names, y.2 ≠ .cell) (hkind : scope.kind = .function) (hx : scope.names.lookup x = some .local) (hst : St 0 s.heap) (hfp : ∀ b ∈ fp, b < s.heap.objs.size)
    (F : Fr h₀ L s.heap m) (N : News h₀ L s.heap news) (hIL : L ≠ I) (hI₀ : h₀.get? I = none) (off : ∀ p ∈ news, p.1 ≠ I)
    (turn : ∀ C D s', (∃ h tk, s' = { s with heap := h, toks := tk }) → Turn prog w A h₀ L m (compEnvC scope cl C env) elt ts s' I C D news P (fun v o => ∃ m₂, NsObj o m₂ ∧ m₂ x = some v) tb g n)
    (hRR : Fini h₀ L m s news (((List.range n).filter tb).map g) RR) :
    wpAny (model prog w) A (newList []) (fun acc s₃ => wpAny (model prog w) A (newFunctionEnv scope env.globals cl [] env.qual none .none (some env)) (fun cenv s₄ =>
      codeAny (model prog w) A (.compStart (.ListComp elt [⟨.Name x px, iter, ts, 0⟩] scope pos) 0 (.ref I) acc { cenv with scope := relabel scope env }) (RR acc cenv.locals) s₄) E s₃) E s := by
  refine wpAny_newObj_type (wpAny_newFunctionEnv hcell (by intro y hy; simp at hy) (fun h₁ hns₁ hsb₁ => ?_) hkind)
  dsimp only at hns₁ hsb₁ ⊢
  generalize hH2 : s.heap.push { cls := .type "list", dict := none, data := .seq ([] : List Value).toArray } = H2 at hns₁ hsb₁ ⊢
  have hC : H2.objs.size = s.heap.objs.size + 1 := by rw [← hH2, Heap.size_push]
  have hDC : s.heap.objs.size ≠ H2.objs.size := by rw [hC]; exact Nat.ne_of_lt (Nat.lt_succ_self _)
  have below : ∀ b, b < s.heap.objs.size → b ≠ H2.objs.size ∧ b ≠ s.heap.objs.size := fun b hb => ⟨by rw [hC]; exact Nat.ne_of_lt (Nat.lt_succ_of_lt hb), Nat.ne_of_lt hb⟩
  have hDf : s.heap.objs.size ∉ fp := fun hm => Nat.lt_irrefl _ (hfp _ hm)
  have hCf : H2.objs.size ∉ fp := fun hm => by have := hfp _ hm; rw [hC] at this; exact Nat.lt_irrefl _ (Nat.lt_of_succ_lt this)
  have hIlt : I < s.heap.objs.size := hfp I (W.sub I (List.mem_singleton.mpr rfl))
  have old : ∀ b o, s.heap.get? b = some o → h₁.get? b = some o := fun b o e => hsb₁.extBut b o (below b (Heap.lt_size e)).1 (Heap.get?_push_of_some _ (hH2 ▸ Heap.get?_push_of_some _ e))
  have hacc : h₁.get? s.heap.objs.size = some (lst []) := hsb₁.extBut _ _ hDC (Heap.get?_push_of_some _ (hH2 ▸ Heap.get?_push_size _ rfl))
  have fresh₀ : ∀ a, s.heap.objs.size ≤ a → h₀.get? a = none := fun a ha => by
    cases e : h₀.get? a with
    | none => rfl
    | some o' => exact absurd (Heap.lt_size (F.keep a o' e)) (Nat.not_lt.mpr ha)
  have hD₀ : h₀.get? s.heap.objs.size = none := fresh₀ _ (Nat.le_refl _)
  have hC₀ : h₀.get? H2.objs.size = none := fresh₀ _ (by rw [hC]; exact Nat.le_succ _)
  have hLlt : L < s.heap.objs.size := F.ns.lt
  have hDL : s.heap.objs.size ≠ L := Ne.symm (below L hLlt).2
  have hCL : H2.objs.size ≠ L := Ne.symm (below L hLlt).1
  obtain ⟨oC, heC, hoC⟩ := ns_obj hns₁
  have hst₁ : St 0 h₁ := W.frame _ _ _ hst fun b _ o e => old b o e
  have hlt : ∀ p ∈ news, p.1 < s.heap.objs.size := fun p hp => Heap.lt_size (N p hp).1
  have loop : ∀ s₃ : Shared, s₃ = { s with heap := h₁, toks := s.toks + ([] : List (Str × Value)).length } →
      codeAny (model prog w) A (.compLoop (.ListComp elt [⟨.Name x px, iter, ts, 0⟩] scope pos) 0 (.ref I) (.ref s.heap.objs.size) (compEnvC scope cl H2.objs.size env))
        (RR (.ref s.heap.objs.size) H2.objs.size) s₃ := by
    rintro s₃ rfl
    refine comp_loop (τ := H2.objs.size) (oτ := oC) (news := news) (Tg := fun o => ∃ m₂, NsObj o m₂) (TgV := fun v o => ∃ m₂, NsObj o m₂ ∧ m₂ x = some v) (tb := tb) (g := g) W hts hsz hIo hSt (fun v o ⟨m₂, q, _⟩ => ⟨m₂, q⟩) ?_ hCf hDf (below I hIlt).1 (below I hIlt).2 (Ne.symm hDC) hIL hI₀
      (fun p hp => ⟨off p hp, (below _ (hlt p hp)).1, (below _ (hlt p hp)).2⟩) (F.keeps old) (fun p hp => ?_) ⟨_, hoC⟩ hst₁ (turn _ _ _ ⟨_, _, rfl⟩) ?_
    · rintro v h tk o Q E' e ⟨m₂, q⟩ hQ
      refine wpAny_assign_Name (wpAny_storeName_local (lookup_relabel_local hx) (q.ns e) (fun h₃ hn₃ hs₃ => ?_) (by simp [compEnvC, relabel, hkind]))
      obtain ⟨o₃, e₃, q₃⟩ := ns_obj hn₃
      exact hQ h₃ _ o₃ e₃ ⟨_, q₃, by simp⟩ hs₃
    · rcases List.mem_cons.mp hp with rfl | hp
      · exact ⟨heC, hCL, hC₀⟩
      · rcases List.mem_cons.mp hp with rfl | hp
        · exact ⟨hacc, hDL, hD₀⟩
        · exact ⟨old _ _ (N p hp).1, (N p hp).2⟩
    · rintro h tk oC' ys ⟨m₂, q⟩ F' N' hys
      exact hRR _ _ h tk m₂ ys F' (fun p hp => N' p (.tail _ hp)) hlt (q.ns (N' _ (.head _)).1) hC₀ hCL (Ne.symm hDC) (fun p hp => (below _ (hlt p hp)).1) hys
  exact codeAny_compStart_list (loop _ rfl) (W.self 0 _ _ _ hst₁ (loop _ rfl))

theorem newFunctionEnv_cell {M : Model} {scope : Scope} {globals : Addr} {cl : List (Str × Addr)} {qual x : Str} {code : Value} {builtins : Addr} {outer : Env} {Q : Env → Shared → Prop}
    (hcf : ∀ k, cellsFrom k scope.names cl = (x, k) :: cl) (hpc : ∀ h, pushCells h scope.names = h.push { cls := .type "cell", data := .cell none })
    (hQ : Q { scope, locals := s.heap.objs.size, globals, cells := (x, s.heap.objs.size + 1) :: cl, qual, func := none, code := outer.code, frame := outer.frame, builtins := outer.builtins }
      { s with heap := (s.heap.push { cls := .type "dict", data := .dict #[] }).push { cls := .type "cell", data := .cell none } }) :
    wpAny M A (newFunctionEnv scope globals cl [] qual none code (some outer) builtins) Q E s := by
  simp only [newFunctionEnv, Option.isSome_some, if_true]
  refine wpAny_bind (wpAny_alloc ?_)
  refine wpAny_bind (wpAny_layCells _ (fun name kind cells => by cases hkc : kind == NameKind.cell <;> simp [hkc]) _ _ _ _ ?_)
  rw [hpc, hcf]
  rw [show ({ s with heap := s.heap.push { cls := .type "dict", data := .dict #[] } } : Shared).heap.objs.size = s.heap.objs.size + 1 from Heap.size_push ..]
  refine wpAny_bind ?_
  rw [List.forIn_nil]
  exact wpAny_pure (wpAny_pure hQ)

theorem lookup_relabel_cell {env : Env} : ∀ {names : List (Str × NameKind)} {x : Str}, names.lookup x = some .cell →
    (names.map fun (n, k) => if (k == NameKind.free && env.scope.kind == .function && env.kindOf n == some .cell) then (n, NameKind.cell) else (n, k)).lookup x = some .cell
  | [], _, h => by simp at h
  | (n, k) :: r, x, h => by
    have ih := @lookup_relabel_cell env r x
    show List.lookup x ((if (k == NameKind.free && env.scope.kind == .function && env.kindOf n == some .cell) = true then (n, NameKind.cell) else (n, k)) :: _) = _
    cases hx : x == n with
    | true =>
      simp only [List.lookup_cons, hx] at h
      cases h
      simp [List.lookup_cons, hx]
    | false =>
      simp only [List.lookup_cons, hx] at h
      by_cases hc : (k == NameKind.free && env.scope.kind == .function && env.kindOf n == some .cell) = true
      · rw [if_pos hc]; simp only [List.lookup_cons, hx]; exact ih h
      · rw [if_neg hc]; simp only [List.lookup_cons, hx]; exact ih h

theorem block_C {elt iter : Expr} {ts : List Expr} {x : Str} {px : Pos} {scope : Scope} {cl : List (Str × Addr)} {pos : Pos} {I : Addr} {fp : List Addr} {n : Nat} {P : Nat → Value → Prop} {St : Nat → Heap → Prop} {news : Led} {tb : Nat → Bool} {g : Nat → Int} {RR : Value → Addr → Result → Shared → Prop}
    (W : Walks prog w A I fp [I] n P St) (hts : ts.length ≤ 1) (hsz : n ≤ sizeLine) (hIo : ∀ i h, St i h → ∃ o, h.get? I = some o)
    (hSt : ∀ i h h' o, St i h → h.get? I = some o → h'.get? I = some o → News h₀ L h' news → St i h')
    (hcf : ∀ k, cellsFrom k scope.names cl = (x, k) :: cl) (hpc : ∀ h, pushCells h scope.names = h.push { cls := .type "cell", data := .cell none }) (hkind : scope.kind = .function) (hx : scope.names.lookup x = some .cell) (hst : St 0 s.heap) (hfp : ∀ b ∈ fp, b < s.heap.objs.size)
    (F : Fr h₀ L s.heap m) (N : News h₀ L s.heap news) (hIL : L ≠ I) (hI₀ : h₀.get? I = none) (off : ∀ p ∈ news, p.1 ≠ I)
    (turn : ∀ C cc oC D s', (∃ h tk, s' = { s with heap := h, toks := tk }) → Turn prog w A h₀ L m (compEnvC scope ((x, cc) :: cl) C env) elt ts s' I cc D ((C, oC) :: news) P (fun v o => o.data = .cell (some v)) tb g n)
    (hRR : Fini h₀ L m s news (((List.range n).filter tb).map g) RR) :
    wpAny (model prog w) A (newList []) (fun acc s₃ => wpAny (model prog w) A (newFunctionEnv scope env.globals cl [] env.qual none .none (some env)) (fun cenv s₄ =>
      codeAny (model prog w) A (.compStart (.ListComp elt [⟨.Name x px, iter, ts, 0⟩] scope pos) 0 (.ref I) acc { cenv with scope := relabel scope env }) (RR acc cenv.locals) s₄) E s₃) E s := by
  refine wpAny_newObj_type (newFunctionEnv_cell hcf hpc ?_)
  dsimp only
  generalize hH2 : s.heap.push { cls := .type "list", dict := none, data := .seq ([] : List Value).toArray } = H2
  have hC : H2.objs.size = s.heap.objs.size + 1 := by rw [← hH2, Heap.size_push]
  generalize hH3 : H2.push { cls := .type "dict", data := .dict #[] } = H3
  have hc3 : H3.objs.size = H2.objs.size + 1 := by rw [← hH3, Heap.size_push]
  generalize hH4 : H3.push { cls := .type "cell", data := .cell none } = h₁
  have up : ∀ b o, H3.get? b = some o → h₁.get? b = some o := fun b o e => hH4 ▸ Heap.get?_push_of_some _ e
  have up2 : ∀ b o, H2.get? b = some o → h₁.get? b = some o := fun b o e => up b o (hH3 ▸ Heap.get?_push_of_some _ e)
  have hDC : s.heap.objs.size ≠ H2.objs.size := by rw [hC]; exact Nat.ne_of_lt (Nat.lt_succ_self _)
  have below : ∀ b, b < s.heap.objs.size → b ≠ H2.objs.size ∧ b ≠ s.heap.objs.size ∧ b ≠ H2.objs.size + 1 := fun b hb => ⟨by rw [hC]; exact Nat.ne_of_lt (Nat.lt_succ_of_lt hb), Nat.ne_of_lt hb, by rw [hC]; exact Nat.ne_of_lt (Nat.lt_succ_of_lt (Nat.lt_succ_of_lt hb))⟩
  have hDf : s.heap.objs.size ∉ fp := fun hm => Nat.lt_irrefl _ (hfp _ hm)
  have hcf' : H2.objs.size + 1 ∉ fp := fun hm => absurd rfl (below _ (hfp _ hm)).2.2
  have hIlt : I < s.heap.objs.size := hfp I (W.sub I (List.mem_singleton.mpr rfl))
  have old : ∀ b o, s.heap.get? b = some o → h₁.get? b = some o := fun b o e => up2 b o (hH2 ▸ Heap.get?_push_of_some _ e)
  have hacc : h₁.get? s.heap.objs.size = some (lst []) := up2 _ _ (hH2 ▸ Heap.get?_push_size _ rfl)
  have heC : h₁.get? H2.objs.size = some { cls := .type "dict", data := .dict #[] } := up _ _ (hH3 ▸ Heap.get?_push_size _ rfl)
  have hec : h₁.get? (H2.objs.size + 1) = some { cls := .type "cell", data := .cell none } := by rw [← hc3, ← hH4]; exact Heap.get?_push_size _ rfl
  have fresh₀ : ∀ a, s.heap.objs.size ≤ a → h₀.get? a = none := fun a ha => by
    cases e : h₀.get? a with
    | none => rfl
    | some o' => exact absurd (Heap.lt_size (F.keep a o' e)) (Nat.not_lt.mpr ha)
  have hD₀ : h₀.get? s.heap.objs.size = none := fresh₀ _ (Nat.le_refl _)
  have hC₀ : h₀.get? H2.objs.size = none := fresh₀ _ (by rw [hC]; exact Nat.le_succ _)
  have hc₀ : h₀.get? (H2.objs.size + 1) = none := fresh₀ _ (by rw [hC]; exact Nat.le_succ_of_le (Nat.le_succ _))
  have hLlt : L < s.heap.objs.size := F.ns.lt
  have hDL : s.heap.objs.size ≠ L := Ne.symm (below L hLlt).2.1
  have hCL : H2.objs.size ≠ L := Ne.symm (below L hLlt).1
  have hcL : H2.objs.size + 1 ≠ L := Ne.symm (below L hLlt).2.2
  have hDc : s.heap.objs.size ≠ H2.objs.size + 1 := by rw [hC]; exact Nat.ne_of_lt (Nat.lt_succ_of_lt (Nat.lt_succ_self _))
  have hst₁ : St 0 h₁ := W.frame _ _ _ hst fun b _ o e => old b o e
  have hlt : ∀ p ∈ news, p.1 < s.heap.objs.size := fun p hp => Heap.lt_size (N p hp).1
  have nsC : NsObj { cls := .type "dict", data := .dict #[] } (fun _ => none) := ⟨#[], 0, rfl, by intro e he; simp at he, by intro name; rfl⟩
  have loop : ∀ s₃ : Shared, s₃ = { s with heap := h₁ } →
      codeAny (model prog w) A (.compLoop (.ListComp elt [⟨.Name x px, iter, ts, 0⟩] scope pos) 0 (.ref I) (.ref s.heap.objs.size) (compEnvC scope ((x, H2.objs.size + 1) :: cl) H2.objs.size env))
        (RR (.ref s.heap.objs.size) H2.objs.size) s₃ := by
    rintro s₃ rfl
    refine comp_loop (τ := H2.objs.size + 1) (oτ := { cls := .type "cell", data := .cell none }) (news := (H2.objs.size, { cls := .type "dict", data := .dict #[] }) :: news) (Tg := fun o => ∃ v, o.data = .cell v) (TgV := fun v o => o.data = .cell (some v)) (tb := tb) (g := g) W hts hsz hIo (fun i h h' o a b c d => hSt i h h' o a b c fun p hp => d p (.tail _ hp)) (fun v o q => ⟨_, q⟩) ?_ hcf' hDf (below I hIlt).2.2 (below I hIlt).2.1 (Ne.symm hDc) hIL hI₀
      (fun p hp => ?_) (F.keeps old) (fun p hp => ?_) ⟨_, rfl⟩ hst₁ (turn _ _ _ _ _ ⟨_, _, rfl⟩) ?_
    · rintro v h tk o Q E' e ⟨v₀, q⟩ hQ
      refine wpAny_assign_Name (wpAny_storeName_cell (c := H2.objs.size + 1) hkind (lookup_relabel_cell hx) (by simp [compEnvC]) ⟨o, e, q⟩ fun h₃ hv₃ hs₃ => ?_)
      obtain ⟨o₃, e₃, q₃⟩ := hv₃
      exact hQ h₃ _ o₃ e₃ q₃ hs₃
    · rcases List.mem_cons.mp hp with rfl | hp
      · exact ⟨Ne.symm (below I hIlt).1, Nat.ne_of_lt (Nat.lt_succ_self _), Ne.symm hDC⟩
      · exact ⟨off p hp, (below _ (hlt p hp)).2.2, (below _ (hlt p hp)).2.1⟩
    · rcases List.mem_cons.mp hp with rfl | hp
      · exact ⟨hec, hcL, hc₀⟩
      · rcases List.mem_cons.mp hp with rfl | hp
        · exact ⟨hacc, hDL, hD₀⟩
        · rcases List.mem_cons.mp hp with rfl | hp
          · exact ⟨heC, hCL, hC₀⟩
          · exact ⟨old _ _ (N p hp).1, (N p hp).2⟩
    · rintro h tk oC' ys _ F' N' hys
      exact hRR _ _ h tk _ ys F' (fun p hp => by
        rcases List.mem_cons.mp hp with rfl | hp
        · exact N' _ (.tail _ (.head _))
        · exact N' p (.tail _ (.tail _ (.tail _ hp)))) hlt (nsC.ns (N' _ (.tail _ (.tail _ (.head _)))).1) hC₀ hCL (Ne.symm hDC) (fun p hp => (below _ (hlt p hp)).1) hys
  exact codeAny_compStart_list (loop _ rfl) (W.self 0 _ _ _ hst₁ (loop _ rfl))
end
end Mj
end MjComp

section MjComp2
theorem Mj.freshMjComp2 : True := by (w_top off; trivial)
open PySem PySem.W PyProof.Rows PySem.Spec PySem.Calls
namespace Mj
open PyProof.Rows.LCg (NsObj ns_obj lst lst_snoc)

/-- what the source of a comprehension must give -/
def SrcIs (prog : Program) (w : World) (A : Around) (h₀ : Heap) (L : Addr) (m : Str → Option Value) (news : Led) (xv : Value) (s₁ : Shared) (n : Nat) (P : Nat → Value → Prop) : Prop :=
  n ≤ sizeLine ∧ News h₀ L s₁.heap news ∧ ∀ (Q : Value → Shared → Prop) (E : Value → Shared → Prop), (∀ I fp St h₂, Walks prog w A I fp [I] n P St → (∀ i h, St i h → ∃ o, h.get? I = some o) →
    (∀ i h h' o, St i h → h.get? I = some o → h'.get? I = some o → News h₀ L h' news → St i h') → St 0 h₂ → (∀ b ∈ fp, b < h₂.objs.size) → Fr h₀ L h₂ m → News h₀ L h₂ news → L ≠ I → h₀.get? I = none → (∀ p ∈ news, p.1 ≠ I) → Q (.ref I) { s₁ with heap := h₂ }) →
    wpAny (model prog w) A (pyIter xv) Q E s₁

section
variable {prog : Program} {w : World} {A : Around} {E : Value → Shared → Prop} {s : Shared} {h₀ : Heap} {L : Addr} {m : Str → Option Value} {env : Env}

theorem SrcIs.list {news : Led} {ax : Addr} {its : Array Value} {k : Nat} (hh : A.handled = none) (F : Fr h₀ L s.heap m) (N : News h₀ L s.heap news) (hm : (ax, listOf its k) ∈ news) (hsz : its.size ≤ sizeLine) :
    SrcIs prog w A h₀ L m news (.ref ax) s its.size (fun i v => its[i]? = some v) := by
  refine ⟨hsz, N, fun Q E hQ => ?_⟩
  have hl : s.heap.IsList ax its := ⟨_, (N _ hm).1, rfl, _, rfl⟩
  have hlt : ax < s.heap.objs.size := Heap.lt_size (N _ hm).1
  refine wpAny_pyIter_list hl ?_
  have up : ∀ b o, s.heap.get? b = some o → (s.heap.push { cls := .type "list_iterator", data := .fields #[.ref ax, .int 0 0] }).get? b = some o := fun b o e => Heap.get?_push_of_some _ e
  refine hQ _ _ _ _ (Walks.list hh s.heap.objs.size ax (Nat.ne_of_lt hlt) its) (fun i h st => by obtain ⟨o, e, _⟩ := st.1; exact ⟨o, e⟩) (fun i h h' o st e e' N' => ⟨by obtain ⟨o', q, r⟩ := st.1; rw [e] at q; cases q; exact ⟨o, e', r⟩, ⟨_, (N' _ hm).1, rfl, _, rfl⟩⟩)
    ⟨⟨_, Heap.get?_push_size _ rfl, rfl, rfl⟩, hl.at fun o e => up _ o e⟩ (fun b hb => ?_) (F.keeps up) (N.grown up) (Nat.ne_of_lt F.ns.lt) (next_is_new F) (fun p hp => Nat.ne_of_lt (Heap.lt_size (N p hp).1))
  show b < (s.heap.push _).objs.size
  rw [Heap.size_push]
  rcases List.mem_cons.mp hb with rfl | hb
  · exact Nat.lt_succ_self _
  · rw [List.mem_singleton.mp hb]; exact Nat.lt_succ_of_lt hlt

theorem SrcIs.range {news : Led} {r : Addr} {a b d : Int} {t u v : Tok} {n : Nat} (hh : A.handled = none) (F : Fr h₀ L s.heap m) (N : News h₀ L s.heap news) (hr : IsRange s.heap r a b d t u v) (hsm : Builtin.Range.small a b d = true) (hn : Builtin.Range.rangeSize a b d = ((n : Nat) : Int)) (hsz : n ≤ sizeLine) :
    SrcIs prog w A h₀ L m news (.ref r) s n (fun i v => ∃ t, v = .int (a + i * d) t) := by
  refine ⟨hsz, N, fun Q E hQ => ?_⟩
  refine wpAny_pyIter_range hr hsm ?_
  have up : ∀ q o, s.heap.get? q = some o → (s.heap.push { cls := .type "range_iterator", data := .fields #[rawInt a, rawInt (Builtin.Range.rangeSize a b d), rawInt d] }).get? q = some o := fun q o e => Heap.get?_push_of_some _ e
  refine hQ _ _ _ _ (Walks.range (prog := prog) (w := w) hh s.heap.objs.size a d n) (fun i h st => ⟨_, st⟩) (fun i h h' o st e e' _ => ?_) (by show IsRangeIter _ _ _ _ _; rw [hn]; simpa using Heap.get?_push_size _ rfl) (fun b hb => ?_)
    (F.keeps up) (N.grown up) (Nat.ne_of_lt F.ns.lt) (next_is_new F) (fun p hp => Nat.ne_of_lt (Heap.lt_size (N p hp).1))
  · have st' : h.get? _ = some _ := st
    show h'.get? _ = some _
    rw [e', ← e]; exact st'
  · rw [List.mem_singleton.mp hb]
    show s.heap.objs.size < (s.heap.push _).objs.size
    rw [Heap.size_push]; exact Nat.lt_succ_self _

theorem SrcIs.rev {news : Led} {I ax : Addr} {its : Array Value} {k : Nat} {z : Int} (hh : A.handled = none) (F : Fr h₀ L s.heap m) (N : News h₀ L s.heap ((I, revObj ax z) :: news)) (hz : z = (its.size : Int) - 1) (off : ∀ p ∈ news, p.1 ≠ I) (hm : (ax, listOf its k) ∈ news) (hsz : its.size ≤ sizeLine) :
    SrcIs prog w A h₀ L m news (.ref I) s its.size (fun i v => its[its.size - 1 - i]? = some v) := by
  subst hz
  have N' : News h₀ L s.heap news := fun p hp => N p (.tail _ hp)
  refine ⟨hsz, N', fun Q E hQ => ?_⟩
  have zI := N _ (.head _)
  have hl : s.heap.IsList ax its := ⟨_, (N' _ hm).1, rfl, _, rfl⟩
  refine wpAny_pyIter_revIter (l := ax) (i := (its.size : Int) - 1) ⟨_, zI.1, rfl, rfl⟩ ?_
  refine hQ I _ _ s.heap (Walks.listRev hh I ax (off _ hm) its) (fun i h st => by obtain ⟨o, e, _⟩ := st.2.1; exact ⟨o, e⟩) (fun i h h' o st e e' N' => ⟨st.1, by obtain ⟨o', q, r⟩ := st.2.1; rw [e] at q; cases q; exact ⟨o, e', r⟩, ⟨_, (N' _ hm).1, rfl, _, rfl⟩⟩)
    ⟨Nat.zero_le _, ⟨_, zI.1, rfl, by simp [revObj]⟩, hl⟩ (fun b hb => ?_) F N' (Ne.symm zI.2.1) zI.2.2 off
  rcases List.mem_cons.mp hb with rfl | hb
  · exact Heap.lt_size zI.1
  · rw [List.mem_singleton.mp hb]; exact Heap.lt_size (N' _ hm).1

def FinE (h₀ : Heap) (L : Addr) (m : Str → Option Value) (Q : Value → Shared → Prop) (s : Shared) (news : Led) (rs : List Int) : Prop :=
  ∀ D h tk ys, Fr h₀ L h m → News h₀ L h ((D, listOf (List.toArray ys) ys.length) :: news) → (∀ p ∈ news, p.1 < D) → IntsAre ys rs → Q (.ref D) { s with heap := h, toks := tk }
def FinA (h₀ : Heap) (L : Addr) (m : Str → Option Value) (y : Str) (Q : Flow → Shared → Prop) (s : Shared) (news : Led) (rs : List Int) : Prop :=
  ∀ D h tk ys, Fr h₀ L h (fun z => if z = y then some (.ref D) else m z) → News h₀ L h ((D, listOf (List.toArray ys) ys.length) :: news) → (∀ p ∈ news, p.1 < D) → IntsAre ys rs → Q .next { s with heap := h, toks := tk }

/-- the rest of a comprehension once its source is there -/
def GoL (prog : Program) (w : World) (A : Around) (h₀ : Heap) (L : Addr) (m : Str → Option Value) (env : Env) (elt : Expr) (ts : List Expr) (x : Str) (scope : Scope) (cl : List (Str × Addr)) (fin : Shared → Led → List Int → Prop) (xv : Value) (s₁ : Shared) : Prop :=
  ∃ news n P tb g, Fr h₀ L s₁.heap m ∧ SrcIs prog w A h₀ L m news xv s₁ n P ∧ (∀ I C D, Turn prog w A h₀ L m (compEnvC scope cl C env) elt ts s₁ I C D news P (fun v o => ∃ m₂, NsObj o m₂ ∧ m₂ x = some v) tb g n) ∧ fin s₁ news (((List.range n).filter tb).map g)
def GoC (prog : Program) (w : World) (A : Around) (h₀ : Heap) (L : Addr) (m : Str → Option Value) (env : Env) (elt : Expr) (ts : List Expr) (x : Str) (scope : Scope) (cl : List (Str × Addr)) (fin : Shared → Led → List Int → Prop) (xv : Value) (s₁ : Shared) : Prop :=
  ∃ news n P tb g, Fr h₀ L s₁.heap m ∧ SrcIs prog w A h₀ L m news xv s₁ n P ∧ (∀ I C cc oC D, Turn prog w A h₀ L m (compEnvC scope ((x, cc) :: cl) C env) elt ts s₁ I cc D ((C, oC) :: news) P (fun v o => o.data = .cell (some v)) tb g n) ∧ fin s₁ news (((List.range n).filter tb).map g)

theorem fini_E {Q : Value → Shared → Prop} {news : Led} {rs : List Int} {h : Heap} (f : FinE h₀ L m Q s news rs) : Fini h₀ L m { s with heap := h } news rs (fun acc C r s' => compPost (model prog w) A E none Q acc C r s') := by
  intro D C h tk m' ys F' N' hlt hn hC₀ hCL hCD offC hys
  refine ⟨m', hn, fun h'' hs'' => f D h'' tk ys (F'.change hs'' hCL hC₀) (fun p hp => ?_) hlt hys⟩
  refine ⟨hs''.extBut _ _ ?_ (N' p hp).1, (N' p hp).2⟩
  rcases List.mem_cons.mp hp with rfl | hp
  · exact Ne.symm hCD
  · exact offC p hp

theorem fini_A {Q : Flow → Shared → Prop} {news : Led} {rs : List Int} {h : Heap} {y : Str} {py : Pos} (f : FinA h₀ env.locals m y Q s news rs)
    (hy : env.kindOf y = some .local) (hp : (env.scope.kind == .class || (env.scope.kind == .module && env.locals != env.globals)) = false) :
    Fini h₀ env.locals m { s with heap := h } news rs (fun acc C r s' => compPost (model prog w) A E (some (assign (.Name y py) env)) (fun _ s' => Q .next s') acc C r s') := by
  intro D C h tk m' ys F' N' hlt hn hC₀ hCL hCD offC hys
  show wpAny _ A (assign (.Name y py) env (.ref D)) _ _ _
  refine wpAny_assign_Name (wpAny_storeName_local hy F'.ns (fun h₂ hn₂ hs₂ => ?_) hp)
  have hL₀ : h₀.get? env.locals = none := Heap.get?_none_of_le F'.above
  have F₂ : Fr h₀ env.locals h₂ (fun z => if z = y then some (.ref D) else m z) := ⟨hn₂, fun b o e => hs₂.extBut b o (fun q => by rw [q, hL₀] at e; cases e) (F'.keep b o e), F'.above⟩
  refine ⟨m', hn.sameBut hs₂ hCL, fun h'' hs'' => f D h'' _ ys (F₂.change hs'' hCL hC₀) (fun p hp => ?_) hlt hys⟩
  have z : h₂.get? p.1 = some p.2 := hs₂.extBut _ _ (N' p hp).2.1 (N' p hp).1
  refine ⟨hs''.extBut _ _ ?_ z, (N' p hp).2⟩
  rcases List.mem_cons.mp hp with rfl | hp
  · exact Ne.symm hCD
  · exact offC p hp

theorem compL {elt iter : Expr} {ts : List Expr} {x : Str} {px : Pos} {scope : Scope} {cl : List (Str × Addr)} {pos : Pos} {Q : Value → Shared → Prop} (F₀ : Fr h₀ L s.heap m) (hts : ts.length ≤ 1)
    (hclos : closureFor scope env = pure cl) (hcell : ∀ y ∈ scope.names, y.2 ≠ .cell) (hkind : scope.kind = .function)
    (hnames : ∀ y ∈ scope.names, y.2 = .local → scope.names.lookup y.1 = some .local) (hx : scope.names.lookup x = some .local)
    (h : wpAny (model prog w) A (eval iter env) (GoL prog w A h₀ L m env elt ts x scope cl (FinE h₀ L m Q)) E s)
    (hs : ∀ x, foldedSetIterable iter env x = pure x := by intro _; rfl) :
    wpAny (model prog w) A (eval (.ListComp elt [⟨.Name x px, iter, ts, 0⟩] scope pos) env) Q E s := by
  rw [eval_ListComp]
  refine wpAny_comprehension_free (use := none) rfl hs hclos hkind hnames (wpAny_mono h (fun xv s₁ h₁ => ?_) fun _ _ e => e)
  obtain ⟨news, n, P, tb, g, F, ⟨hsz, _, src⟩, turn, fin⟩ := h₁
  exact src _ _ fun I fp St h₂ W a1 a2 a3 a4 F₂ N₂ a5 a6 a7 => block_L W hts hsz a1 a2 hcell hkind hx a3 a4 F₂ N₂ a5 a6 a7 (fun C D s' ⟨_, _, e⟩ => e ▸ turn I C D) (fini_E fin)

theorem compC {elt iter : Expr} {ts : List Expr} {x : Str} {px : Pos} {scope : Scope} {cl : List (Str × Addr)} {pos : Pos} {Q : Value → Shared → Prop} (F₀ : Fr h₀ L s.heap m) (hts : ts.length ≤ 1)
    (hclos : closureFor scope env = pure cl) (hcf : ∀ k, cellsFrom k scope.names cl = (x, k) :: cl) (hpc : ∀ h, pushCells h scope.names = h.push { cls := .type "cell", data := .cell none }) (hkind : scope.kind = .function)
    (hnames : ∀ y ∈ scope.names, y.2 = .local → scope.names.lookup y.1 = some .local) (hx : scope.names.lookup x = some .cell)
    (h : wpAny (model prog w) A (eval iter env) (GoC prog w A h₀ L m env elt ts x scope cl (FinE h₀ L m Q)) E s)
    (hs : ∀ x, foldedSetIterable iter env x = pure x := by intro _; rfl) :
    wpAny (model prog w) A (eval (.ListComp elt [⟨.Name x px, iter, ts, 0⟩] scope pos) env) Q E s := by
  rw [eval_ListComp]
  refine wpAny_comprehension_free (use := none) rfl hs hclos hkind hnames (wpAny_mono h (fun xv s₁ h₁ => ?_) fun _ _ e => e)
  obtain ⟨news, n, P, tb, g, F, ⟨hsz, _, src⟩, turn, fin⟩ := h₁
  exact src _ _ fun I fp St h₂ W a1 a2 a3 a4 F₂ N₂ a5 a6 a7 => block_C W hts hsz a1 a2 hcf hpc hkind hx a3 a4 F₂ N₂ a5 a6 a7 (fun C cc oC D s' ⟨_, _, e⟩ => e ▸ turn I C cc oC D) (fini_E fin)

theorem compLA {elt iter : Expr} {ts : List Expr} {x y : Str} {px py : Pos} {scope : Scope} {cl : List (Str × Addr)} {pos spos : Pos} {Q : Flow → Shared → Prop} (F₀ : Fr h₀ L s.heap m) (hLe : env.locals = L) (hts : ts.length ≤ 1)
    (hsw : swapsWith (.ListComp elt [⟨.Name x px, iter, ts, 0⟩] scope pos) (some (.Name y py)) spos.line env = pure true)
    (hclos : closureFor scope env = pure cl) (hcell : ∀ z ∈ scope.names, z.2 ≠ .cell) (hkind : scope.kind = .function)
    (hnames : ∀ z ∈ scope.names, z.2 = .local → scope.names.lookup z.1 = some .local) (hx : scope.names.lookup x = some .local)
    (hy : env.kindOf y = some .local) (hp : (env.scope.kind == .class || (env.scope.kind == .module && env.locals != env.globals)) = false)
    (h : wpAny (model prog w) A (eval iter env) (GoL prog w A h₀ L m env elt ts x scope cl (FinA h₀ L m y Q)) E s)
    (hs : ∀ x, foldedSetIterable iter env x = pure x := by intro _; rfl) :
    wpAny (model prog w) A (exec (.Assign [.Name y py] (.ListComp elt [⟨.Name x px, iter, ts, 0⟩] scope pos) spos) env) Q E s := by
  subst hLe
  rw [exec_Assign_Name_used _ _ _ _ hsw]
  refine wpAny_bind (wpAny_standAt (wpAny_bind ?_))
  show wpAny _ A (do let _ ← comprehension (.ListComp elt [⟨.Name x px, iter, ts, 0⟩] scope pos) scope env _ (newList []) false (eval iter env) (some (assign (.Name y py) env))) _ _ s
  refine wpAny_bind (wpAny_mono (wpAny_comprehension_free (use := some (assign (.Name y py) env)) (Q := fun _ s' => Q .next s') rfl hs hclos hkind hnames
    (wpAny_mono h (fun xv s₁ h₁ => ?_) fun _ _ e => e)) (fun _ s' hq => wpAny_pure (wpAny_pure hq)) fun _ _ e => e)
  obtain ⟨news, n, P, tb, g, F, ⟨hsz, _, src⟩, turn, fin⟩ := h₁
  exact src _ _ fun I fp St h₂ W a1 a2 a3 a4 F₂ N₂ a5 a6 a7 => block_L W hts hsz a1 a2 hcell hkind hx a3 a4 F₂ N₂ a5 a6 a7 (fun C D s' ⟨_, _, e⟩ => e ▸ turn I C D) (fini_A fin hy hp)

theorem compCA {elt iter : Expr} {ts : List Expr} {x y : Str} {px py : Pos} {scope : Scope} {cl : List (Str × Addr)} {pos spos : Pos} {Q : Flow → Shared → Prop} (F₀ : Fr h₀ L s.heap m) (hLe : env.locals = L) (hts : ts.length ≤ 1)
    (hsw : swapsWith (.ListComp elt [⟨.Name x px, iter, ts, 0⟩] scope pos) (some (.Name y py)) spos.line env = pure true)
    (hclos : closureFor scope env = pure cl) (hcf : ∀ k, cellsFrom k scope.names cl = (x, k) :: cl) (hpc : ∀ h, pushCells h scope.names = h.push { cls := .type "cell", data := .cell none }) (hkind : scope.kind = .function)
    (hnames : ∀ z ∈ scope.names, z.2 = .local → scope.names.lookup z.1 = some .local) (hx : scope.names.lookup x = some .cell)
    (hy : env.kindOf y = some .local) (hp : (env.scope.kind == .class || (env.scope.kind == .module && env.locals != env.globals)) = false)
    (h : wpAny (model prog w) A (eval iter env) (GoC prog w A h₀ L m env elt ts x scope cl (FinA h₀ L m y Q)) E s)
    (hs : ∀ x, foldedSetIterable iter env x = pure x := by intro _; rfl) :
    wpAny (model prog w) A (exec (.Assign [.Name y py] (.ListComp elt [⟨.Name x px, iter, ts, 0⟩] scope pos) spos) env) Q E s := by
  subst hLe
  rw [exec_Assign_Name_used _ _ _ _ hsw]
  refine wpAny_bind (wpAny_standAt (wpAny_bind ?_))
  show wpAny _ A (do let _ ← comprehension (.ListComp elt [⟨.Name x px, iter, ts, 0⟩] scope pos) scope env _ (newList []) false (eval iter env) (some (assign (.Name y py) env))) _ _ s
  refine wpAny_bind (wpAny_mono (wpAny_comprehension_free (use := some (assign (.Name y py) env)) (Q := fun _ s' => Q .next s') rfl hs hclos hkind hnames
    (wpAny_mono h (fun xv s₁ h₁ => ?_) fun _ _ e => e)) (fun _ s' hq => wpAny_pure (wpAny_pure hq)) fun _ _ e => e)
  obtain ⟨news, n, P, tb, g, F, ⟨hsz, _, src⟩, turn, fin⟩ := h₁
  exact src _ _ fun I fp St h₂ W a1 a2 a3 a4 F₂ N₂ a5 a6 a7 => block_C W hts hsz a1 a2 hcf hpc hkind hx a3 a4 F₂ N₂ a5 a6 a7 (fun C cc oC D s' ⟨_, _, e⟩ => e ▸ turn I C cc oC D) (fini_A fin hy hp)

theorem GoL.mk {elt : Expr} {ts : List Expr} {x : Str} {scope : Scope} {cl : List (Str × Addr)} {fin : Shared → Led → List Int → Prop} {xv : Value} {news : Led} {n : Nat} {P : Nat → Value → Prop} (tb : Nat → Bool) (g : Nat → Int) (F : Fr h₀ L s.heap m) (S : SrcIs prog w A h₀ L m news xv s n P)
    (t : ∀ I C D, Turn prog w A h₀ L m (compEnvC scope cl C env) elt ts s I C D news P (fun v o => ∃ m₂, NsObj o m₂ ∧ m₂ x = some v) tb g n) (f : fin s news (((List.range n).filter tb).map g)) : GoL prog w A h₀ L m env elt ts x scope cl fin xv s := ⟨news, n, P, tb, g, F, S, t, f⟩
theorem GoC.mk {elt : Expr} {ts : List Expr} {x : Str} {scope : Scope} {cl : List (Str × Addr)} {fin : Shared → Led → List Int → Prop} {xv : Value} {news : Led} {n : Nat} {P : Nat → Value → Prop} (tb : Nat → Bool) (g : Nat → Int) (F : Fr h₀ L s.heap m) (S : SrcIs prog w A h₀ L m news xv s n P)
    (t : ∀ I C cc oC D, Turn prog w A h₀ L m (compEnvC scope ((x, cc) :: cl) C env) elt ts s I cc D ((C, oC) :: news) P (fun v o => o.data = .cell (some v)) tb g n) (f : fin s news (((List.range n).filter tb).map g)) : GoC prog w A h₀ L m env elt ts x scope cl fin xv s := ⟨news, n, P, tb, g, F, S, t, f⟩
end
end Mj

namespace Mj
theorem rsz_up {a b : Int} {n : Nat} (h : b - a = n) : Builtin.Range.rangeSize a b 1 = (n : Int) := by rw [rangeSize_nat]; omega
theorem rsz_dn {a b : Int} {n : Nat} (h : a - b = n) : Builtin.Range.rangeSize a b (-1) = (n : Int) := by
  rw [rangeSize_down]
  split <;> omega
theorem SrcIs.up {prog : Program} {w : World} {A : Around} {s : Shared} {h₀ : Heap} {L : Addr} {m : Str → Option Value} {news : Led} {r : Addr} {b : Int} {t u v : Tok} (n : Nat) (hh : A.handled = none) (F : Fr h₀ L s.heap m) (N : News h₀ L s.heap news) (hr : IsRange s.heap r 0 b 1 t u v) (hb : b = n) (hn : n < 1000) :
    SrcIs prog w A h₀ L m news (.ref r) s n (fun i v => ∃ t, v = .int (i : Int) t) := by
  have := SrcIs.range (prog := prog) (w := w) (n := n) hh F N hr (small_one (by omega) (by omega) (by omega) (by omega)) (rsz_up (by omega)) (by rw [sizeLine_eq]; omega)
  simpa using this
theorem SrcIs.down {prog : Program} {w : World} {A : Around} {s : Shared} {h₀ : Heap} {L : Addr} {m : Str → Option Value} {news : Led} {r : Addr} {a b : Int} {t u v : Tok} (n : Nat) (hh : A.handled = none) (F : Fr h₀ L s.heap m) (N : News h₀ L s.heap news) (hr : IsRange s.heap r a b (-1) t u v) (ha : a = (n : Int) - 1) (hb : b = -1) (hn : n < 1000) :
    SrcIs prog w A h₀ L m news (.ref r) s n (fun i v => ∃ t, v = .int ((n : Int) - 1 - i) t) := by
  have := SrcIs.range (prog := prog) (w := w) (n := n) hh F N hr (small_down (by omega) (by omega) (by omega) (by omega)) (rsz_dn (by omega)) (by rw [sizeLine_eq]; omega)
  have e : ∀ i : Nat, a + (i : Int) * (-1) = (n : Int) - 1 - i := fun i => by omega
  simpa only [e] using this
end Mj

namespace Mj
theorem led_storeC {M : Model} {A : Around} {E : Value → Shared → Prop} {s : Shared} {h₀ : Heap} {L : Addr} {m : Str → Option Value} {env : Env} {x : Str} {cc : Addr} {o : Obj} {v₀ : Option Value} {v : Value} {news : Led} {Q : Unit → Shared → Prop} (rest : Led)
    (hk : env.scope.kind = .function) (hx : env.kindOf x = some .cell) (hcl : env.cells.lookup x = some cc) (F : Fr h₀ L s.heap m) (N : News h₀ L s.heap news) (hm : (cc, o) ∈ news) (hd : o.data = .cell v₀) (hr : ∀ p ∈ rest, p ∈ news ∧ p.1 ≠ cc)
    (h : ∀ h' o', o'.data = .cell (some v) → Fr h₀ L h' m → News h₀ L h' ((cc, o') :: rest) → Q () { s with heap := h' }) : wpAny M A (storeName env x v) Q E s := by
  have z := N _ hm
  refine wpAny_storeName_cell hk hx hcl ⟨o, z.1, hd⟩ fun h₂ hv₂ hs₂ => ?_
  obtain ⟨o₂, ho₂, hd₂⟩ := hv₂
  refine h h₂ o₂ hd₂ (F.change hs₂ z.2.1 z.2.2) fun p hp => ?_
  rcases List.mem_cons.mp hp with rfl | hp
  · exact ⟨ho₂, z.2⟩
  · have y := N p (hr p hp).1
    exact ⟨(hs₂.2 p.1 (hr p hp).2).trans y.1, y.2⟩
end Mj
end MjComp2

section MjToldP
theorem Mj.freshMjToldP : True := by (w_top off; trivial)
namespace Mj
def rung (xs : List Int) (k : Nat) : Int := xs.getD k 0 + k
def lowerL (xs : List Int) (k : Nat) : List Int := (List.range k).map fun i => rung xs k - rung xs (k - 1 - i)
def upFrom (a : Int) (n : Nat) : List Int := (List.range n).map fun (i : Nat) => a + (i : Int)
def told1 (xs : List Int) (k : Nat) : List Int × List Int :=
  ((upFrom 1 (rung xs k).toNat).filter (fun x => !(lowerL xs k).contains x), (lowerL xs k).filter (fun x => !(upFrom 1 (rung xs k).toNat).contains x))

theorem up_asc (a : Int) (n : Nat) : (upFrom a n).Pairwise (· < ·) := by
  unfold upFrom
  rw [List.pairwise_map]
  refine List.pairwise_lt_range.imp ?_
  intro i j h; omega
theorem getD_le {xs : List Int} (hs : xs.Pairwise (· ≤ ·)) {i j : Nat} (hij : i < j) (hj : j < xs.length) : xs.getD i 0 ≤ xs.getD j 0 := by
  have := List.pairwise_iff_getElem.mp hs i j (by omega) hj hij
  simpa [List.getD_eq_getElem?_getD, List.getElem?_eq_getElem, hj, (show i < xs.length by omega)] using this
theorem rung_lt {xs : List Int} (hs : xs.Pairwise (· ≤ ·)) {i j : Nat} (hij : i < j) (hj : j < xs.length) : rung xs i < rung xs j := by
  have := getD_le hs hij hj
  unfold rung; omega
theorem lower_asc {xs : List Int} (hs : xs.Pairwise (· ≤ ·)) {k : Nat} (hk : k < xs.length) : (lowerL xs k).Pairwise (· < ·) := by
  unfold lowerL
  rw [List.pairwise_map]
  refine List.Pairwise.imp_of_mem ?_ (List.pairwise_lt_range (n := k))
  intro i j hi hj h
  have hj' := List.mem_range.mp hj
  have := rung_lt hs (i := k - 1 - j) (j := k - 1 - i) (by omega) (by omega)
  omega
def rungs (xs : List Int) : List Int := (List.range xs.length).map (rung xs)
theorem rungs_length (xs : List Int) : (rungs xs).length = xs.length := by simp [rungs]
theorem rungs_getD {xs : List Int} {k : Nat} (h : k < xs.length) : (rungs xs).getD k 0 = rung xs k := by simp [rungs, List.getD_eq_getElem?_getD, h]
theorem filter_true (l : List Nat) : l.filter (fun _ => true) = l := List.filter_eq_self.mpr fun _ _ => rfl
end Mj
end MjToldP

section MjListRange
theorem Mj.freshMjListRange : True := by (w_top off; trivial)
open PySem PySem.W PyProof.Rows PySem.Spec PySem.Calls
namespace Mj
theorem ints_of_items : ∀ (ys : List Value) (f : Nat → Int), (∀ (j : Nat) (v : Value), ys[j]? = some v → ∃ t, v = Value.int (f j) t) → IntsAre ys ((List.range ys.length).map f)
  | [], _, _ => .nil
  | y :: ys, f, h => by
    obtain ⟨t, rfl⟩ := h 0 y rfl
    rw [List.length_cons, List.range_succ_eq_map, List.map_cons, List.map_map]
    exact .cons _ t (ints_of_items ys (f ∘ Nat.succ) fun j v e => h (j + 1) v e)

theorem led_listrange {prog : Program} {w : World} {A : Around} {E : Value → Shared → Prop} {s : Shared} {h₀ : Heap} {L : Addr} {m : Str → Option Value} {Q : Value → Shared → Prop} {r : Addr} {a b : Int} {t u v : Tok} {news : Led} (n : Nat) (hh : A.handled = none) (F : Fr h₀ L s.heap m) (N : News h₀ L s.heap news)
    (hr : IsRange s.heap r a b 1 t u v) (hb : b - a = n) (hn : n < 1000) (ha : -1000 < a) (ha' : a < 1000)
    (h : ∀ D h' tk ys e, Fr h₀ L h' m → News h₀ L h' ((D, listOf (List.toArray ys) e) :: news) → (∀ p ∈ news, p.1 < D) → IntsAre ys (upFrom a n) → Q (.ref D) { s with heap := h', toks := tk }) :
    wpAny (model prog w) A (call (.type "list") [.ref r]) Q E s := by
  refine call_list_range hh hr (small_one (by omega) (by omega) (by omega) (by omega)) (rsz_up hb) (by omega) fun h' tk acc' c' hk hS' hacc => ?_
  refine h _ h' tk acc'.toList c' (F.keeps hk) (fun p hp => ?_) (fun p hp => Heap.lt_size (N p hp).1) ?_
  · rcases List.mem_cons.mp hp with rfl | hp
    · exact ⟨by simpa using hS', Ne.symm (Nat.ne_of_lt F.ns.lt), next_is_new F⟩
    · exact ⟨hk _ _ (N p hp).1, (N p hp).2⟩
  · have := ints_of_items acc'.toList (fun j => a + (j : Int)) (fun j v hv => by
      have hv' : acc'[j]? = some v := by simpa using hv
      obtain ⟨t, rfl⟩ := hacc.2 j v hv'
      exact ⟨t, by rw [Int.mul_one]⟩)
    rw [Array.length_toList, hacc.1] at this
    exact this
end Mj

namespace Mj
theorem led_app {prog : Program} {w : World} {A : Around} {E : Value → Shared → Prop} {s : Shared} {h₀ : Heap} {L : Addr} {m : Str → Option Value} {Q : Value → Shared → Prop} {l : Addr} {vs : List Value} {n : Nat} {x : Value} {news : Led} (rest : Led) (F : Fr h₀ L s.heap m) (N : News h₀ L s.heap news)
    (hm : (l, listOf vs.toArray n) ∈ news) (hr : ∀ p ∈ rest, p ∈ news ∧ p.1 ≠ l) (hz : vs.length < 2 ^ 20)
    (h : ∀ h', Fr h₀ L h' m → News h₀ L h' ((l, listOf (vs ++ [x]).toArray (n + 1)) :: rest) → Q .none { s with heap := h' }) : wpAny (model prog w) A (call (.builtin "list.append") [.ref l, x]) Q E s := by
  have z := N _ hm
  refine append_at (hsz := by rw [List.size_toArray, sizeLine_eq]; omega) z.1 fun h' hs hD => ?_
  refine h h' (F.change hs z.2.1 z.2.2) fun p hp => ?_
  rcases List.mem_cons.mp hp with rfl | hp
  · exact ⟨by rw [← List.push_toArray]; exact hD, z.2⟩
  · have y := N p (hr p hp).1
    exact ⟨(hs.2 p.1 (hr p hp).2).trans y.1, y.2⟩
end Mj
end MjListRange

section SharedB
open PySem PySem.W PyProof.Rows Mj
local macro_rules | `(tactic| k_mem) => `(tactic| first | exact List.Mem.head _ | assumption | (refine' List.Mem.tail _ ?_; k_mem))
local macro_rules | `(tactic| walk_at "call ref") => `(tactic| with_reducible refine Stop.mk ?_)
local macro_rules | `(tactic| walk_at "pyIter ref") => `(tactic| with_reducible refine Stop.mk ?_)
local macro_rules | `(tactic| walk_at "eval ListComp") => `(tactic| with_reducible refine Stop.mk ?_)
local macro_rules | `(tactic| walk_at "newList") => `(tactic| (k_here; k_dflt (refine' newList_K ?k1 ?k2 ?_; (case k1 => k_asm); (case k2 => k_asm); k_whole); intro l' h' F' N' l1; (try k_sweep)))
local macro_rules | `(tactic| walk_at "call builtin:len") => `(tactic| (k_here; k_dflt (refine' led_len ?k1 ?k2 ?k3 ?_; (case k1 => k_asm); (case k2 => k_mem); (case k3 => omega); k_whole); intro t' tk'))
local macro_rules | `(tactic| walk_at "subscriptTail Name Name ref int") => `(tactic| (k_here; k_dflt (refine' ints_sub ?k1 ?k2 ?k3 ?k4 ?k5 ?k6 ?_; (case k1 => k_asm); (case k2 => k_mem); (case k3 => assumption); (case k4 => omega); (case k5 => omega); (case k6 => omega); k_whole); intro t'))

section MjTold
theorem Mj.freshMjTold : True := by (w_top off; trivial)
open PySem PySem.W PyProof.Rows
namespace Mj
open PyProof.Rows.TI (Frs SameUp Caller)
open PyProof.Rows.LCg (NsObj ns_obj lst lst_snoc)

local macro_rules | `(tactic| walk_at "call type:list") => `(tactic| with_reducible refine Stop.mk ?_)
local macro_rules | `(tactic| walk_at "call builtin:list.append") => `(tactic| with_reducible refine Stop.mk ?_)
local macro_rules | `(tactic| walk_at "exec Assign cons ListComp") => `(tactic| ((with_reducible show wpAny _ _ (exec (Stmt.Assign [Expr.Name (Str.ofString "lower") _] _ _) _) _ _ _); with_reducible refine Stop.mk ?_))
local macro_rules | `(tactic| walk_at "exec For") => `(tactic| with_reducible refine Stop.mk ?_)

theorem ad3 {a b : Nat} (h : a < b) : a ≠ b + 1 ∧ a ≠ b + 1 + 1 ∧ a ≠ b + 1 + 1 + 1 := by omega
theorem ad4 (b : Nat) : b + 1 + 1 ≠ b + 1 + 1 + 1 ∧ b + 1 ≠ b + 1 + 1 + 1 ∧ b + 1 ≠ b + 1 + 1 := by omega
def PairAt (more : Led) (v : Value) (q : List Int × List Int) : Prop := ∃ lt lm lu n1 n2 ms us, v = .ref lt ∧ (lt, tupOf [.ref lm, .ref lu]) ∈ more ∧ (lm, listOf (List.toArray ms) n1) ∈ more ∧ (lu, listOf (List.toArray us) n2) ∈ more ∧ IntsAre ms q.1 ∧ IntsAre us q.2
def PairsAre (more : Led) : List Value → List (List Int × List Int) → Prop
  | [], [] => True
  | v :: vs, q :: qs => PairAt more v q ∧ PairsAre more vs qs
  | _, _ => False
theorem PairAt.mono {a b : Led} (h : ∀ p ∈ a, p ∈ b) {v : Value} {q : List Int × List Int} : PairAt a v q → PairAt b v q
  | ⟨lt, lm, lu, n1, n2, ms, us, e, h1, h2, h3, r⟩ => ⟨lt, lm, lu, n1, n2, ms, us, e, h _ h1, h _ h2, h _ h3, r⟩
theorem PairsAre.mono {a b : Led} (h : ∀ p ∈ a, p ∈ b) : ∀ {vs : List Value} {qs : List (List Int × List Int)}, PairsAre a vs qs → PairsAre b vs qs
  | [], [], _ => trivial
  | [], _ :: _, x => False.elim x
  | _ :: _, [], x => False.elim x
  | _ :: _, _ :: _, x => ⟨x.1.mono h, PairsAre.mono h x.2⟩
theorem PairsAre.snoc {a : Led} {v : Value} {q : List Int × List Int} (hv : PairAt a v q) : ∀ {vs : List Value} {qs : List (List Int × List Int)}, PairsAre a vs qs → PairsAre a (vs ++ [v]) (qs ++ [q])
  | [], [], _ => ⟨hv, trivial⟩
  | [], _ :: _, x => False.elim x
  | _ :: _, [], x => False.elim x
  | _ :: _, _ :: _, x => ⟨x.1, PairsAre.snoc hv x.2⟩
theorem perm9 {α : Type} {a b c d e f g h i j k p : α} {m n fr : List α} (hp : p ∈ f :: g :: i :: j :: k :: ((a :: b :: c :: m) ++ (n ++ fr))) : p ∈ (a :: b :: c :: d :: e :: f :: g :: h :: i :: j :: k :: (m ++ n)) ++ fr := by
  simp only [List.cons_append, List.mem_cons, List.mem_append] at hp ⊢; grind
structure TSt where
  items : List Value
  e : Nat
  more : Led
  frs : Led

set_option maxRecDepth 100000 in
set_option maxHeartbeats 8000000 in
theorem c_told (prog : Program) (w : World) (ll : Addr) (vs : List Value) (xs : List Int) (e1 : Nat) (news : Led) (hm : (ll, listOf vs.toArray e1) ∈ news) (hi : IntsAre vs xs) (hlen : xs.length < 100) (hx : ∀ x ∈ xs, 0 ≤ x ∧ x < 100) (hs : xs.Pairwise (· ≤ ·)) :
    ConX prog w 61 5 500 [.ref ll] news (fun r news' => ∃ lp e items more, r = .ref lp ∧ news' = (lp, listOf (List.toArray items) e) :: (more ++ news) ∧ (∀ p ∈ news, p.1 < lp) ∧ (∀ p ∈ more, lp < p.1) ∧ PairsAre more items ((List.range xs.length).map (told1 xs))) := by
  intro dp un gd cn cs a ccd cl l frs h₀ L m s mean mg mb Q E Fs F X N hap T hk hdp hun hret
  have hvl := hi.length
  have hiK : Keep (IntsAre vs xs) := ⟨hi⟩
  clear hi
  refine wpAny_call ?_
  refine code_defXC (env := envX cn cs L a ccd cl) (binds := [(Str.ofString "lengths", .ref ll)]) Fs F X N T rfl hk (by k_is) (by k_is) (by ktr_room) (BindsTo.of_eq rfl) (by exact rfl) (by decide +kernel) ?_ rfl rfl rfl
  intro oL L' h' tk' cells C Fs' hLL F' N' CA hlt'
  dsimp only
  k_fold
  obtain ⟨o1, o2, o3, hE, d1, d2, d3⟩ := CellsAre.three CA
  subst hE
  clear CA
  replace d1 : o1.data = .cell none := d1
  replace d2 : o2.data = .cell none := d2
  replace d3 : o3.data = .cell (some (.ref ll)) := d3
  replace F' : Fr h₀ L' h' (fun _ => none) := F'
  simp only [List.cons_append, List.nil_append] at N'
  repeat' (first | (k_unfold; (try dsimp only)) | walk1 | (dsimp only; walk1) | (leave1; (try dsimp only)))
  have hmA : (ll, listOf vs.toArray e1) ∈ news ++ (L, oL) :: frs := List.mem_append_left _ hm
  refine Stop.out ?_
  refine compL (by assumption) (by decide) (by with_unfolding_all rfl) (by decide) rfl (by decide) rfl ?_
  try k_fold
  repeat' (first | (k_unfold; (try dsimp only)) | walk1 | (dsimp only; walk1) | (leave1; (try dsimp only)))
  refine GoL.mk (fun _ => true) (fun i => xs.getD i 0 + i) (by assumption) (SrcIs.up vs.length rfl (by assumption) (by assumption) (by assumption) rfl (by omega)) ?_ ?_
  · intro I C D i v oI oC ys h tk E' hi hP hT F2 N2 off ne
    obtain ⟨t, rfl⟩ := hP
    obtain ⟨m₂, hC, hxk⟩ := hT
    refine ⟨rfl, ?_⟩
    simp only [if_true]
    try k_fold
    repeat' (first | (k_unfold; (try dsimp only)) | walk1 | (dsimp only; walk1) | (leave1; (try dsimp only)))
    exact Back.mk F2 N2 fun _ hp => hp
  · intro D h tk ys F2 N2 hlt2 hys
    dsimp only
    try k_fold
    repeat' (first | (k_unfold; (try dsimp only)) | walk1 | (dsimp only; walk1) | (leave1; (try dsimp only)))
    have hysK : Keep (IntsAre ys (rungs xs)) := ⟨by
      have hy := hys
      rw [filter_true, hvl] at hy
      exact hy⟩
    have hrl := rungs_length xs
    have hyl := hysK.out.length
    clear hys
    have hbig : ∀ p ∈ news ++ (L, oL) :: frs, p.1 < L' := hlt'
    have hD3 : L' + 1 + 1 + 1 < D := hlt2 _ (.head _)
    have a4 := ad4 L'
    with_unfolding_all refine led_storeC (cc := L' + 1 + 1 + 1) ((D, listOf ys.toArray ys.length) :: (L' + 1 + 1, o2) :: (L' + 1, o3) :: (news ++ (L, oL) :: frs)) rfl rfl rfl F2 N2 (.tail _ (.head _)) d1 ?_ ?_
    · intro p hp
      rcases List.mem_cons.mp hp with rfl | hp
      · exact ⟨.head _, Nat.ne_of_gt hD3⟩
      · refine ⟨.tail _ (.tail _ hp), ?_⟩
        rcases List.mem_cons.mp hp with rfl | hp
        · exact a4.1
        · rcases List.mem_cons.mp hp with rfl | hp
          · exact a4.2.1
          · exact (ad3 (hbig p hp)).2.2
    intro h3 o1' d1' F3 N3
    try k_fold
    repeat' (first | (k_unfold; (try dsimp only)) | walk1 | (dsimp only; walk1) | (leave1; (try dsimp only)))
    rename_i tk3 lp h4 hlp h5 F5 N5
    refine Stop.out ?_
    refine wpAny_For ?_
    try k_fold
    repeat' (first | (k_unfold; (try dsimp only)) | walk1 | (dsimp only; walk1) | (leave1; (try dsimp only)))
    rename_i t6 tk6 h6 tk7 t7 t8 t9 R6 F6 N6 up6
    refine Stop.out ?_
    with_unfolding_all refine for_range_cell (σ := TSt) (cc := L' + 1 + 1) (a := 0) (b := (vs.length : Int)) (d := 1) (n := vs.length) rfl R6 (small_one (by omega) (by omega) (by omega) (by omega)) (rsz_up (by omega)) ?hk ?hx ?hcl (fun _ _ => [(Str.ofString "pairs", .ref lp)]) (fun c => (lp, listOf c.items.toArray c.e) :: (L' + 1 + 1 + 1, o1') :: (D, listOf ys.toArray ys.length) :: (L' + 1, o3) :: (c.more ++ (news ++ c.frs))) (fun i c => SameUp ((L, oL) :: frs) c.frs ∧ PairsAre c.more c.items ((List.range i).map (told1 xs)) ∧ (∀ p ∈ c.more, lp < p.1) ∧ c.items.length = i) ⟨[], 0, [], (L, oL) :: frs⟩ F6 N6 (.tail _ (.tail _ (.tail _ (.head _)))) d2 ?_ ?_ ⟨rfl, trivial⟩ ⟨SameUp.refl _, trivial, (by intro p hp; cases hp), rfl⟩ ?_ ?_
    case hk => rfl
    case hx => rfl
    case hcl => rfl
    · intro p hp
      dsimp only at hp
      rcases List.mem_cons.mp hp with rfl | hp
      · exact .head _
      rcases List.mem_cons.mp hp with rfl | hp
      · exact .tail _ (.head _)
      rcases List.mem_cons.mp hp with rfl | hp
      · exact .tail _ (.tail _ (.head _))
      · exact .tail _ (.tail _ (.tail _ (.tail _ hp)))
    · intro p hp
      dsimp only at hp
      rcases List.mem_cons.mp hp with rfl | hp
      · exact Nat.ne_of_gt (hlp (L' + 1 + 1, o2) (.tail _ (.tail _ (.head _))))
      rcases List.mem_cons.mp hp with rfl | hp
      · exact Ne.symm a4.1
      rcases List.mem_cons.mp hp with rfl | hp
      · exact Nat.ne_of_gt (hlt2 (L' + 1 + 1, o2) (.tail _ (.head _)))
      rcases List.mem_cons.mp hp with rfl | hp
      · exact a4.2.2
      · exact (ad3 (hbig p hp)).2.1
    · intro i t c u oc I oI h tk hi hP hoc hIc hne F7 N7
      obtain ⟨items, e, more, fr⟩ := c
      obtain ⟨P1, P2, P3, P4⟩ := hP
      dsimp only at P1 P2 P3 P4 hne F7 N7
      replace F7 : Fr h₀ L' h (ovl [(Str.ofString "pairs", Value.ref lp)] u) := F7
      replace N7 : News h₀ L' h ((I, oI) :: (L' + 1 + 1, oc) :: (lp, listOf items.toArray e) :: (L' + 1 + 1 + 1, o1') :: (D, listOf ys.toArray ys.length) :: (L' + 1, o3) :: (more ++ (news ++ fr))) := N7
      rw [show (0 : Int) + (i : Int) * 1 = (i : Int) by omega] at hoc
      try k_fold
      repeat' (first | (k_unfold; (try dsimp only)) | walk1 | (dsimp only; walk1) | (leave1; (try dsimp only)))
      refine Stop.out ?_
      refine compLA (by assumption) (by rfl) (by decide) (by with_unfolding_all rfl) (by with_unfolding_all rfl) (by decide) (by rfl) (by decide) (by rfl) (by rfl) (by rfl) ?_
      try k_fold
      repeat' (first | (k_unfold; (try dsimp only)) | walk1 | (dsimp only; walk1) | (leave1; (try dsimp only)))
      refine GoL.mk (fun _ => true) (fun j => rung xs i - rung xs (i - 1 - j)) (by assumption) (SrcIs.down i rfl (by assumption) (by assumption) (by assumption) rfl rfl (by omega)) ?_ ?_
      · intro I2 C2 D2 j v oI2 oC2 ys2 h8 tk8 E' hj hP hT F8 N8 off ne
        obtain ⟨t8, rfl⟩ := hP
        obtain ⟨m₂, hC, hxk⟩ := hT
        refine ⟨rfl, ?_⟩
        simp only [if_true]
        try k_fold
        repeat' (first | (k_unfold; (try dsimp only)) | walk1 | (dsimp only; walk1) | (leave1; (try dsimp only)))
        any_goals exact Back.mk F8 N8 fun _ hp => hp
        rw [show (i : Int).toNat = i from rfl, show ((i : Int) - 1 - (j : Int)).toNat = i - 1 - j by omega, rungs_getD (by omega), rungs_getD (by omega)]
      · intro Dl h8 tk8 lys F8 N8 hlt8 hlys
        dsimp only
        try k_fold
        repeat' (first | (k_unfold; (try dsimp only)) | walk1 | (dsimp only; walk1) | (leave1; (try dsimp only)))
        rename_i t9 h9 tk9 t91 t92 t93 R9 F9 N9 up9
        refine Stop.out ?_
        have hri : rung xs i = xs.getD i 0 + i := rfl
        have hxi : 0 ≤ xs.getD i 0 ∧ xs.getD i 0 < 100 := by
          rw [List.getD_eq_getElem?_getD, List.getElem?_eq_getElem (show i < xs.length by omega)]
          exact hx _ (List.getElem_mem _)
        have hrg : (rungs xs).getD (i : Int).toNat 0 = rung xs i := rungs_getD (by omega)
        rw [hrg] at R9
        refine led_listrange (rung xs i).toNat rfl F9 N9 R9 (by omega) (by omega) (by omega) (by omega) ?_
        intro Dr hA tkA rys eA FA NA hltA hrys
        dsimp only
        try k_fold
        repeat' (first | (k_unfold; (try dsimp only)) | walk1 | (dsimp only; walk1) | (leave1; (try dsimp only)))
        refine Stop.out ?_
        have hlo : IntsAre lys (lowerL xs i) := by rw [filter_true] at hlys; exact hlys
        have hll : (lowerL xs i).length = i := by simp [lowerL]
        have hrl2 : (upFrom 1 (rung xs i).toNat).length = (rung xs i).toNat := by simp [upFrom]
        have hfr : fr.map (·.1) = ((L, oL) :: frs).map (·.1) := sameUp_addr P1
        have hfa : ∀ b ∈ fr.map (·.1), b < L' := by
          intro b hb
          rw [hfr] at hb
          obtain ⟨q, hq, rfl⟩ := List.mem_map.mp hb
          exact hbig q (List.mem_append_right _ hq)
        have hgt : ∀ b : Addr, L' < b → b ∉ fr.map (·.1) := fun b hb hq => Nat.lt_irrefl _ (Nat.lt_trans hb (hfa b hq))
        have hLlp : L' < lp := Nat.lt_trans (Nat.lt_succ_self _) (hlp (L' + 1, o3) (by grind))
        have hLD : L' < D := Nat.lt_trans (Nat.lt_succ_self _) (hlt2 (L' + 1, o3) (by grind))
        have hLDl : L' < Dl := Nat.lt_trans (Nat.lt_succ_self _) (hlt8 (L' + 1, o3) (by grind))
        have hLDr : L' < Dr := Nat.lt_trans hLDl (hltA _ (.head _))
        with_unfolding_all refine (c_diff prog w Dr Dl rys lys (upFrom 1 (rung xs i).toNat) (lowerL xs i) eA lys.length ((Dr, listOf rys.toArray eA) :: (Dl, listOf lys.toArray lys.length) :: (I, oI) :: (L' + 1 + 1, oc) :: (lp, listOf items.toArray e) :: (L' + 1 + 1 + 1, o1') :: (D, listOf ys.toArray ys.length) :: (L' + 1, o3) :: (more ++ news)) (.head _) (.tail _ (.head _)) hrys hlo (by omega) (by omega) (up_asc _ _) (lower_asc hs (by omega))).use (frs := fr) ?fs FA X ?nn ?ap T rfl ?dd ?uu ?_
        case fs => exact frs_up Fs' P1
        case nn => exact fun p hp => NA p (by grind)
        case ap =>
          intro p hp
          rcases List.mem_cons.mp hp with rfl | hp
          · exact hgt _ hLDr
          rcases List.mem_cons.mp hp with rfl | hp
          · exact hgt _ hLDl
          rcases List.mem_cons.mp hp with rfl | hp
          · intro hq
            obtain ⟨q, hq, e⟩ := List.mem_map.mp hq
            exact (hne q (by grind)).1 e
          rcases List.mem_cons.mp hp with rfl | hp
          · exact hgt _ (Nat.lt_succ_of_lt (Nat.lt_succ_self _))
          rcases List.mem_cons.mp hp with rfl | hp
          · exact hgt _ hLlp
          rcases List.mem_cons.mp hp with rfl | hp
          · exact hgt _ (Nat.lt_succ_of_lt (Nat.lt_succ_of_lt (Nat.lt_succ_self _)))
          rcases List.mem_cons.mp hp with rfl | hp
          · exact hgt _ hLD
          rcases List.mem_cons.mp hp with rfl | hp
          · exact hgt _ (Nat.lt_succ_self _)
          rcases List.mem_append.mp hp with hp | hp
          · exact hgt _ (Nat.lt_trans hLlp (P3 p hp))
          · rw [hfr]
            intro hq
            rcases List.mem_cons.mp hq with q | q
            · exact (N p (List.mem_append_left _ hp)).2.1 q
            · exact hap p hp q
        case dd => ktr_room
        case uu => ktr_units
        rintro r9 news9 frB hB tkB SU9 FB NB ⟨lt, lm, lu, n1, n2, ms, us, rfl, rfl, hb1, hb2, hb3, hb4, hb5⟩
        dsimp only
        try k_fold
        repeat' (first | (k_unfold; (try dsimp only)) | walk1 | (dsimp only; walk1) | (leave1; (try dsimp only)))
        refine Stop.out ?_
        have hlpl : lp < lm := hb1 (lp, listOf items.toArray e) (by grind)
        have hlpu : lp < lu := Nat.lt_trans hlpl hb2
        have hlpt : lp < lt := Nat.lt_trans hlpu hb3
        have hfB : ∀ q ∈ frB, q.1 ∈ fr.map (·.1) := fun q hq => by rw [← sameUp_addr SU9]; exact List.mem_map_of_mem hq
        have hold : ∀ p ∈ news ++ frB, p.1 < L' := fun p hp => by
          rcases List.mem_append.mp hp with hp | hp
          · exact hbig p (List.mem_append_left _ hp)
          · exact hfa _ (hfB p hp)
        have hneN : ∀ p ∈ news, p.1 ≠ I := fun p hp => (hne p (by grind)).1
        have hneM : ∀ p ∈ more, p.1 ≠ I ∧ p.1 ≠ L' + 1 + 1 := fun p hp => hne p (by grind)
        have hneF : ∀ p ∈ frB, p.1 ≠ I := fun p hp => by
          obtain ⟨q, hq, e⟩ := List.mem_map.mp (hfB p hp)
          rw [← e]; exact (hne q (by grind)).1
        have hIlm : I < lm := hb1 (I, oI) (by grind)
        have hclm : L' + 1 + 1 < lm := hb1 (L' + 1 + 1, oc) (by grind)
        refine led_app (vs := items) (n := e) ((I, oI) :: (L' + 1 + 1, oc) :: (L' + 1 + 1 + 1, o1') :: (D, listOf ys.toArray ys.length) :: (L' + 1, o3) :: (((lt, tupOf [.ref lm, .ref lu]) :: (lu, listOf (List.toArray us) n2) :: (lm, listOf (List.toArray ms) n1) :: more) ++ (news ++ frB))) FB NB (List.mem_append_left _ (.tail _ (.tail _ (.tail _ (.tail _ (.tail _ (.tail _ (.tail _ (.head _))))))))) ?_ (by omega) ?_
        · intro p hp
          refine ⟨perm9 hp, ?_⟩
          rcases List.mem_cons.mp hp with rfl | hp
          · exact fun q => (hne (lp, listOf items.toArray e) (.head _)).1 q.symm
          rcases List.mem_cons.mp hp with rfl | hp
          · exact fun q => (hne (lp, listOf items.toArray e) (.head _)).2 q.symm
          rcases List.mem_cons.mp hp with rfl | hp
          · exact Nat.ne_of_lt (hlp _ (.head _))
          rcases List.mem_cons.mp hp with rfl | hp
          · exact Nat.ne_of_lt (hlp _ (.tail _ (.head _)))
          rcases List.mem_cons.mp hp with rfl | hp
          · exact Nat.ne_of_lt (hlp (L' + 1, o3) (by grind))
          rcases List.mem_cons.mp hp with rfl | hp
          · exact Nat.ne_of_gt hlpt
          rcases List.mem_cons.mp hp with rfl | hp
          · exact Nat.ne_of_gt hlpu
          rcases List.mem_cons.mp hp with rfl | hp
          · exact Nat.ne_of_gt hlpl
          rcases List.mem_append.mp hp with hp | hp
          · exact Nat.ne_of_gt (P3 p hp)
          · exact Nat.ne_of_lt (Nat.lt_trans (hold p hp) hLlp)
        intro hC FC NC
        dsimp only
        try k_fold
        repeat' (first | (k_unfold; (try dsimp only)) | walk1 | (dsimp only; walk1) | (leave1; (try dsimp only)))
        refine cend (⟨items ++ [.ref lt], e + 1, (lt, tupOf [.ref lm, .ref lu]) :: (lu, listOf (List.toArray us) n2) :: (lm, listOf (List.toArray ms) n1) :: more, frB⟩ : TSt) FC NC (.tail _ (.head _)) (.tail _ (.tail _ (.head _))) hoc (fun p hp => (List.mem_cons.mp hp).elim (fun e => e ▸ .head _) fun hp => .tail _ (.tail _ (.tail _ hp))) ?_ ⟨rfl, trivial⟩ ⟨P1.trans SU9, ?_, ?_, ?_⟩
        · intro p hp
          dsimp only at hp
          rcases List.mem_cons.mp hp with rfl | hp
          · exact hne (lp, listOf items.toArray e) (.head _)
          rcases List.mem_cons.mp hp with rfl | hp
          · exact hne _ (.tail _ (.head _))
          rcases List.mem_cons.mp hp with rfl | hp
          · exact hne _ (.tail _ (.tail _ (.head _)))
          rcases List.mem_cons.mp hp with rfl | hp
          · exact hne _ (.tail _ (.tail _ (.tail _ (.head _))))
          rcases List.mem_cons.mp hp with rfl | hp
          · exact ⟨Nat.ne_of_gt (Nat.lt_trans hIlm (Nat.lt_trans hb2 hb3)), Nat.ne_of_gt (Nat.lt_trans hclm (Nat.lt_trans hb2 hb3))⟩
          rcases List.mem_cons.mp hp with rfl | hp
          · exact ⟨Nat.ne_of_gt (Nat.lt_trans hIlm hb2), Nat.ne_of_gt (Nat.lt_trans hclm hb2)⟩
          rcases List.mem_cons.mp hp with rfl | hp
          · exact ⟨Nat.ne_of_gt hIlm, Nat.ne_of_gt hclm⟩
          rcases List.mem_append.mp hp with hp | hp
          · exact hneM p hp
          · refine ⟨?_, (ad3 (hold p hp)).2.1⟩
            rcases List.mem_append.mp hp with hp | hp
            · exact hneN p hp
            · exact hneF p hp
        · rw [List.range_succ, List.map_append]
          refine PairsAre.snoc ⟨lt, lm, lu, n1, n2, ms, us, rfl, .head _, .tail _ (.tail _ (.head _)), .tail _ (.head _), hb4, hb5⟩ (P2.mono fun p hp => .tail _ (.tail _ (.tail _ hp)))
        · intro p hp
          rcases List.mem_cons.mp hp with rfl | hp
          · exact hlpt
          rcases List.mem_cons.mp hp with rfl | hp
          · exact hlpu
          rcases List.mem_cons.mp hp with rfl | hp
          · exact hlpl
          · exact P3 p hp
        · show (items ++ [Value.ref lt]).length = i + 1
          rw [List.length_append, List.length_singleton, P4]
    · intro c u oc v h tk hP hoc hne F7 N7
      obtain ⟨items, e, more, fr⟩ := c
      obtain ⟨P1, P2, P3, P4⟩ := hP
      dsimp only at P1 P2 P3 P4 hne F7 N7
      replace F7 : Fr h₀ L' h (ovl [(Str.ofString "pairs", Value.ref lp)] u) := F7
      replace N7 : News h₀ L' h ((L' + 1 + 1, oc) :: (lp, listOf items.toArray e) :: (L' + 1 + 1 + 1, o1') :: (D, listOf ys.toArray ys.length) :: (L' + 1, o3) :: (more ++ (news ++ fr))) := N7
      dsimp only
      try k_fold
      repeat' (first | (k_unfold; (try dsimp only)) | walk1 | (dsimp only; walk1) | (leave1; (try dsimp only)))
      show Q (.ref lp) _
      have hLL' : L < lp := Nat.lt_trans hLL (Nat.lt_trans (Nat.lt_succ_self _) (hlp (L' + 1, o3) (by grind)))
      obtain ⟨frs9, SU9, F10, N10⟩ := back_in (new := (lp, listOf items.toArray e) :: (more ++ news)) C P1 F7 (fun p hp => N7 p (by
        rcases List.mem_append.mp hp with hp | hp
        · rcases List.mem_cons.mp hp with rfl | hp
          · exact .tail _ (.head _)
          · refine .tail _ (.tail _ (.tail _ (.tail _ (.tail _ ?_))))
            rcases List.mem_append.mp hp with hp | hp
            · exact List.mem_append_left _ hp
            · exact List.mem_append_right _ (List.mem_append_left _ hp)
        · exact .tail _ (.tail _ (.tail _ (.tail _ (.tail _ (List.mem_append_right _ (List.mem_append_right _ hp)))))))) (fun p hp => by
          rcases List.mem_cons.mp hp with rfl | hp
          · exact Nat.ne_of_gt hLL'
          rcases List.mem_append.mp hp with hp | hp
          · exact Nat.ne_of_gt (Nat.lt_trans hLL' (P3 p hp))
          · exact (N p (List.mem_append_left _ hp)).2.1) (fun p hp => (N p (List.mem_append_right _ hp)).2.1)
      refine hret _ _ _ _ _ SU9 F10 N10 ⟨lp, e, items, more, rfl, rfl, fun p hp => hlp p (.tail _ (.tail _ (.tail _ (.tail _ (List.mem_append_left _ hp))))), P3, ?_⟩
      rw [hvl] at P2
      exact P2
end Mj
end MjTold

section MjHooks
theorem Mj.freshMjHooks : True := by (w_top off; trivial)
open PySem PySem.W PyProof.Rows
namespace Mj
open PyProof.Rows.TI (Frs SameUp Caller)
open PyProof.Rows.LCg (NsObj ns_obj lst lst_snoc)

local macro_rules | `(tactic| walk_at "call builtin:list.append") => `(tactic| with_reducible refine Stop.mk ?_)
local macro_rules | `(tactic| walk_at "exec For") => `(tactic| ((with_reducible show wpAny _ _ (exec (Stmt.For (Expr.Name (Str.ofString "c") _) _ _ _ _) _) _ _ _); with_reducible refine Stop.mk ?_))

def above (xs : List Int) (k : Nat) (c : Int) : List Int := ((List.range k).filter fun j => decide (xs.getD j 0 > c)).map fun (j : Nat) => (j : Int)
def hook (xs : List Int) (k i : Nat) : Int := xs.getD k 0 - (xs.getD k 0 - 1 - (i : Int)) + (above xs k (xs.getD k 0 - 1 - (i : Int))).length
def hooks1 (xs : List Int) (k : Nat) : List Int × List Int := ((List.range (xs.getD k 0).toNat).map (hook xs k), [])
structure HSt where
  items : List Value
  e : Nat
  more : Led
  oc : Obj
structure HSt2 where
  hs : List Value
  e : Nat

set_option maxRecDepth 100000 in
set_option maxHeartbeats 8000000 in
theorem c_hooks (prog : Program) (w : World) (ll : Addr) (vs : List Value) (xs : List Int) (e1 : Nat) (news : Led) (hm : (ll, listOf vs.toArray e1) ∈ news) (hi : IntsAre vs xs) (hlen : xs.length < 100) (hx : ∀ x ∈ xs, 0 ≤ x ∧ x < 100) :
    ConX prog w 66 5 500 [.ref ll] news (fun r news' => ∃ lp e items more, r = .ref lp ∧ news' = (lp, listOf (List.toArray items) e) :: (more ++ news) ∧ (∀ p ∈ news, p.1 < lp) ∧ (∀ p ∈ more, lp < p.1) ∧ PairsAre more items ((List.range xs.length).map (hooks1 xs))) := by
  intro dp un gd cn cs a ccd cl l frs h₀ L m s mean mg mb Q E Fs F X N hap T hk hdp hun hret
  have hvl := hi.length
  have hiK : Keep (IntsAre vs xs) := ⟨hi⟩
  clear hi
  refine wpAny_call ?_
  refine code_defXC (env := envX cn cs L a ccd cl) (binds := [(Str.ofString "lengths", .ref ll)]) Fs F X N T rfl hk (by k_is) (by k_is) (by ktr_room) (BindsTo.of_eq rfl) (by exact rfl) (by decide +kernel) ?_ rfl rfl rfl
  intro oL L' h' tk' cells C Fs' hLL F' N' CA hlt'
  dsimp only
  k_fold
  obtain ⟨o1, o2, hE, d1, d2⟩ := CellsAre.two CA
  subst hE
  clear CA
  replace d1 : o1.data = .cell none := d1
  replace d2 : o2.data = .cell (some (.ref ll)) := d2
  replace F' : Fr h₀ L' h' (fun _ => none) := F'
  simp only [List.cons_append, List.nil_append] at N'
  have hmA : (ll, listOf vs.toArray e1) ∈ news ++ (L, oL) :: frs := List.mem_append_left _ hm
  have hbig : ∀ p ∈ news ++ (L, oL) :: frs, p.1 < L' := hlt'
  repeat' (first | (k_unfold; (try dsimp only)) | walk1 | (dsimp only; walk1) | (leave1; (try dsimp only)))
  rename_i lp h3 hlp h4 F4 N4 t5 tk5 h5 tk6 t7 t8 t9 R5 F5 N5 up5
  refine Stop.out ?_
  have hc2 : L' + 1 + 1 < lp := hlp _ (.head _)
  have hc1 : L' + 1 < lp := hlp _ (.tail _ (.head _))
  have hLlp : L' < lp := Nat.lt_trans (Nat.lt_succ_self _) hc1
  with_unfolding_all refine for_range (σ := HSt) (a := 0) (b := (vs.length : Int)) (d := 1) (n := vs.length) rfl R5 (small_one (by omega) (by omega) (by omega) (by omega)) (rsz_up (by omega)) (fun _ _ => [(Str.ofString "pairs", .ref lp)]) (fun c => (lp, listOf c.items.toArray c.e) :: (L' + 1 + 1, c.oc) :: (L' + 1, o2) :: (c.more ++ (news ++ (L, oL) :: frs))) (fun i c => PairsAre c.more c.items ((List.range i).map (hooks1 xs)) ∧ (∀ p ∈ c.more, lp < p.1) ∧ c.items.length = i ∧ (∃ v, c.oc.data = .cell v)) ⟨[], 0, [], o1⟩ F5 N5 (fun _ hp => hp) ⟨rfl, trivial⟩ ⟨trivial, (by intro p hp; cases hp), rfl, _, d1⟩ ?_ ?_
  · intro i t c u I oI h tk hi hP hne F7 N7
    obtain ⟨items, e, more, oc⟩ := c
    obtain ⟨P1, P2, P3, ⟨v0, P4⟩⟩ := hP
    dsimp only at P1 P2 P3 P4 hne F7 N7
    rw [show (0 : Int) + (i : Int) * 1 = (i : Int) by omega] at F7
    replace F7 : Fr h₀ L' h (ovl [(Str.ofString "k", Value.int (i : Int) t), (Str.ofString "pairs", Value.ref lp)] u) := F7
    replace N7 : News h₀ L' h ((I, oI) :: (lp, listOf items.toArray e) :: (L' + 1 + 1, oc) :: (L' + 1, o2) :: (more ++ (news ++ (L, oL) :: frs))) := N7
    have hmB : (ll, listOf vs.toArray e1) ∈ more ++ (news ++ (L, oL) :: frs) := List.mem_append_right _ hmA
    have hxi : 0 ≤ xs.getD i 0 ∧ xs.getD i 0 < 100 := by
      rw [List.getD_eq_getElem?_getD, List.getElem?_eq_getElem (show i < xs.length by omega)]
      exact hx _ (List.getElem_mem _)
    try k_fold
    repeat' (first | (k_unfold; (try dsimp only)) | walk1 | (dsimp only; walk1) | (leave1; (try dsimp only)))
    rename_i lh h8 hlh h9 F9 N9
    refine Stop.out ?_
    refine wpAny_For ?_
    try k_fold
    repeat' (first | (k_unfold; (try dsimp only)) | walk1 | (dsimp only; walk1) | (leave1; (try dsimp only)))
    rename_i ta hA tka tb tc td RA FA NA upA
    refine Stop.out ?_
    rw [show (i : Int).toNat = i from rfl] at RA
    with_unfolding_all refine for_range_cell (σ := HSt2) (cc := L' + 1 + 1) (a := xs.getD i 0 - 1) (b := -1) (d := -1) (n := (xs.getD i 0).toNat) rfl RA (small_down (by omega) (by omega) (by omega) (by omega)) (rsz_dn (by omega)) ?hk ?hx ?hcl (fun _ _ => [(Str.ofString "hooks", .ref lh), (Str.ofString "k", .int (i : Int) t), (Str.ofString "pairs", .ref lp)]) (fun c => (lh, listOf c.hs.toArray c.e) :: (I, oI) :: (lp, listOf items.toArray e) :: (L' + 1, o2) :: (more ++ (news ++ (L, oL) :: frs))) (fun j c => IntsAre c.hs ((List.range j).map (hook xs i))) ⟨[], 0⟩ FA NA (.tail _ (.tail _ (.tail _ (.head _)))) P4 ?_ ?_ ⟨rfl, rfl, rfl, trivial⟩ .nil ?_ ?_
    case hk => rfl
    case hx => rfl
    case hcl => rfl
    · intro p hp
      dsimp only at hp
      rcases List.mem_cons.mp hp with rfl | hp
      · exact .head _
      rcases List.mem_cons.mp hp with rfl | hp
      · exact .tail _ (.head _)
      rcases List.mem_cons.mp hp with rfl | hp
      · exact .tail _ (.tail _ (.head _))
      · exact .tail _ (.tail _ (.tail _ (.tail _ hp)))
    · intro p hp
      dsimp only at hp
      have hclh : L' + 1 + 1 < lh := hlh (L' + 1 + 1, oc) (.tail _ (.tail _ (.head _)))
      rcases List.mem_cons.mp hp with rfl | hp
      · exact Nat.ne_of_gt hclh
      rcases List.mem_cons.mp hp with rfl | hp
      · exact Ne.symm (hne _ (.tail _ (.head _)))
      rcases List.mem_cons.mp hp with rfl | hp
      · exact Nat.ne_of_gt hc2
      rcases List.mem_cons.mp hp with rfl | hp
      · exact (ad4 L').2.2
      rcases List.mem_append.mp hp with hp | hp
      · exact Nat.ne_of_gt (Nat.lt_trans hc2 (P2 p hp))
      · exact (ad3 (hbig p hp)).2.1
    · intro j t2 c u2 oc2 I2 oI2 hB tkB hj hP hoc hIc hne2 FB NB
      obtain ⟨hs, e2⟩ := c
      dsimp only at hP hne2 FB NB
      rw [show xs.getD i 0 - 1 + (j : Int) * -1 = xs.getD i 0 - 1 - (j : Int) by omega] at hoc
      replace FB : Fr h₀ L' hB (ovl [(Str.ofString "hooks", .ref lh), (Str.ofString "k", .int (i : Int) t), (Str.ofString "pairs", .ref lp)] u2) := FB
      replace NB : News h₀ L' hB ((I2, oI2) :: (L' + 1 + 1, oc2) :: (lh, listOf hs.toArray e2) :: (I, oI) :: (lp, listOf items.toArray e) :: (L' + 1, o2) :: (more ++ (news ++ (L, oL) :: frs))) := NB
      try k_fold
      repeat' (first | (k_unfold; (try dsimp only)) | walk1 | (dsimp only; walk1) | (leave1; (try dsimp only)))
      refine Stop.out ?_
      refine compL (by assumption) (by decide) (by with_unfolding_all rfl) (by decide) rfl (by decide) rfl ?_
      try k_fold
      repeat' (first | (k_unfold; (try dsimp only)) | walk1 | (dsimp only; walk1) | (leave1; (try dsimp only)))
      refine GoL.mk (fun j' => decide (xs.getD j' 0 > xs.getD i 0 - 1 - (j : Int))) (fun j' => (j' : Int)) (by assumption) (SrcIs.up i rfl (by assumption) (by assumption) (by assumption) rfl (by omega)) ?_ ?_
      · intro I3 C3 D3 q v oI3 oC3 ys3 h8 tk8 E' hq hP3 hT F8 N8 off ne
        obtain ⟨t8, rfl⟩ := hP3
        obtain ⟨m₂, hC, hxk⟩ := hT
        dsimp only [Tests]
        try k_fold
        repeat' (first | (k_unfold; (try dsimp only)) | walk1 | (dsimp only; walk1) | (leave1; (try dsimp only)))
        all_goals exact Back.mk F8 N8 fun _ hp => hp
      · intro Dl h8 tk8 lys F8 N8 hlt8 hlys
        dsimp only
        have hll : lys.length ≤ i := by
          have := hlys.length
          rw [this, List.length_map]
          exact Nat.le_trans (List.length_filter_le _ _) (by simp)
        try k_fold
        repeat' (first | (k_unfold; (try dsimp only)) | walk1 | (dsimp only; walk1) | (leave1; (try dsimp only)))
        rename_i tq tkq
        refine Stop.out ?_
        refine led_app (vs := hs) (n := e2) ((I2, oI2) :: (L' + 1 + 1, oc2) :: (I, oI) :: (lp, listOf items.toArray e) :: (L' + 1, o2) :: (more ++ (news ++ (L, oL) :: frs))) F8 N8 (.tail _ (.tail _ (.tail _ (.head _)))) ?_ ?hz ?_
        case hz =>
          have := hP.length
          rw [List.length_map, List.length_range] at this
          omega
        · intro p hp
          rcases List.mem_cons.mp hp with rfl | hp
          · exact ⟨.tail _ (.head _), fun q => (hne2 _ (.head _)).1 q.symm⟩
          rcases List.mem_cons.mp hp with rfl | hp
          · exact ⟨.tail _ (.tail _ (.head _)), fun q => (hne2 _ (.head _)).2 q.symm⟩
          · refine ⟨.tail _ (.tail _ (.tail _ (.tail _ hp))), Nat.ne_of_lt (hlh p ?_)⟩
            rcases List.mem_cons.mp hp with rfl | hp
            · exact .head _
            rcases List.mem_cons.mp hp with rfl | hp
            · exact .tail _ (.head _)
            · exact .tail _ (.tail _ (.tail _ hp))
        intro hC FC NC
        dsimp only
        try k_fold
        repeat' (first | (k_unfold; (try dsimp only)) | walk1 | (dsimp only; walk1) | (leave1; (try dsimp only)))
        refine cend (⟨hs ++ [.int (xs.getD (i : Int).toNat 0 - (xs.getD i 0 - 1 - (j : Int)) + (lys.length : Int)) tkq], e2 + 1⟩ : HSt2) FC NC (.tail _ (.head _)) (.tail _ (.tail _ (.head _))) hoc (fun p hp => (List.mem_cons.mp hp).elim (fun e => e ▸ .head _) fun hp => .tail _ (.tail _ (.tail _ hp))) ?_ ⟨rfl, rfl, rfl, trivial⟩ ?_
        · intro p hp
          dsimp only at hp
          rcases List.mem_cons.mp hp with rfl | hp
          · exact hne2 (lh, listOf hs.toArray e2) (.head _)
          · exact hne2 _ (.tail _ hp)
        · dsimp only
          rw [List.range_succ, List.map_append]
          refine hP.append ?_
          have hv : xs.getD (i : Int).toNat 0 - (xs.getD i 0 - 1 - (j : Int)) + (lys.length : Int) = hook xs i j := by
            rw [hlys.length]; rfl
          rw [hv]
          exact .cons _ _ .nil
    · intro c u2 oc2 v2 hB tkB hP hoc hne2 FB NB
      obtain ⟨hs, e2⟩ := c
      dsimp only at hP hne2 FB NB
      replace FB : Fr h₀ L' hB (ovl [(Str.ofString "hooks", .ref lh), (Str.ofString "k", .int (i : Int) t), (Str.ofString "pairs", .ref lp)] u2) := FB
      replace NB : News h₀ L' hB ((L' + 1 + 1, oc2) :: (lh, listOf hs.toArray e2) :: (I, oI) :: (lp, listOf items.toArray e) :: (L' + 1, o2) :: (more ++ (news ++ (L, oL) :: frs))) := NB
      dsimp only
      try k_fold
      repeat' (first | (k_unfold; (try dsimp only)) | walk1 | (dsimp only; walk1) | (leave1; (try dsimp only)))
      rename_i le hC hle lt hD FD ND hltt
      refine Stop.out ?_
      have b1 : lp < lh := hlh (lp, listOf items.toArray e) (.tail _ (.head _))
      have b2 : lp < le := hle (lp, listOf items.toArray e) (.tail _ (.tail _ (.tail _ (.head _))))
      have b3 : lp < lt := hltt.2.2.2.2.1
      have c1 : I < lh := hlh (I, oI) (.head _)
      have c2 : I < le := hle (I, oI) (.tail _ (.tail _ (.head _)))
      have c3 : I < lt := hltt.2.2.2.1
      refine led_app (vs := items) (n := e) ((I, oI) :: (L' + 1 + 1, oc2) :: (L' + 1, o2) :: (((lt, tupOf [.ref lh, .ref le]) :: (le, listOf (List.toArray []) 0) :: (lh, listOf hs.toArray e2) :: more) ++ (news ++ (L, oL) :: frs))) FD ND (.tail _ (.tail _ (.tail _ (.tail _ (.tail _ (.head _)))))) ?_ (by omega) ?_
      · intro p hp
        rcases List.mem_cons.mp hp with rfl | hp
        · exact ⟨.tail _ (.tail _ (.tail _ (.tail _ (.head _)))), fun q => hne _ (.head _) q.symm⟩
        rcases List.mem_cons.mp hp with rfl | hp
        · exact ⟨.tail _ (.tail _ (.head _)), Nat.ne_of_lt hc2⟩
        rcases List.mem_cons.mp hp with rfl | hp
        · exact ⟨.tail _ (.tail _ (.tail _ (.tail _ (.tail _ (.tail _ (.head _)))))), Nat.ne_of_lt hc1⟩
        rcases List.mem_cons.mp hp with rfl | hp
        · exact ⟨.head _, Nat.ne_of_gt b3⟩
        rcases List.mem_cons.mp hp with rfl | hp
        · exact ⟨.tail _ (.head _), Nat.ne_of_gt b2⟩
        rcases List.mem_cons.mp hp with rfl | hp
        · exact ⟨.tail _ (.tail _ (.tail _ (.head _))), Nat.ne_of_gt b1⟩
        refine ⟨.tail _ (.tail _ (.tail _ (.tail _ (.tail _ (.tail _ (.tail _ hp)))))), ?_⟩
        rcases List.mem_append.mp hp with hp | hp
        · exact Nat.ne_of_gt (P2 p hp)
        · exact Nat.ne_of_lt (Nat.lt_trans (hbig p hp) hLlp)
      intro hG FG NG
      dsimp only
      try k_fold
      repeat' (first | (k_unfold; (try dsimp only)) | walk1 | (dsimp only; walk1) | (leave1; (try dsimp only)))
      refine fend (⟨items ++ [.ref lt], e + 1, (lt, tupOf [.ref lh, .ref le]) :: (le, listOf (List.toArray []) 0) :: (lh, listOf hs.toArray e2) :: more, oc2⟩ : HSt) FG NG ?_ ?_ ?_ ⟨rfl, trivial⟩ ⟨?_, ?_, ?_, v2, hoc⟩
      · intro p hp
        rw [List.mem_singleton.mp hp]
        exact .tail _ (.head _)
      · intro p hp
        dsimp only at hp
        rcases List.mem_cons.mp hp with rfl | hp
        · exact .head _
        · exact .tail _ (.tail _ hp)
      · intro p hp
        dsimp only at hp
        rcases List.mem_cons.mp hp with rfl | hp
        · exact hne (lp, listOf items.toArray e) (.head _)
        rcases List.mem_cons.mp hp with rfl | hp
        · exact hne (L' + 1 + 1, oc) (.tail _ (.head _))
        rcases List.mem_cons.mp hp with rfl | hp
        · exact hne _ (.tail _ (.tail _ (.head _)))
        rcases List.mem_cons.mp hp with rfl | hp
        · exact Nat.ne_of_gt c3
        rcases List.mem_cons.mp hp with rfl | hp
        · exact Nat.ne_of_gt c2
        rcases List.mem_cons.mp hp with rfl | hp
        · exact Nat.ne_of_gt c1
        · exact hne _ (.tail _ (.tail _ (.tail _ hp)))
      · dsimp only
        rw [List.range_succ, List.map_append]
        refine PairsAre.snoc ⟨lt, lh, le, e2, 0, hs, [], rfl, .head _, .tail _ (.tail _ (.head _)), .tail _ (.head _), hP, .nil⟩ (P1.mono fun p hp => .tail _ (.tail _ (.tail _ hp)))
      · intro p hp
        rcases List.mem_cons.mp hp with rfl | hp
        · exact b3
        rcases List.mem_cons.mp hp with rfl | hp
        · exact b2
        rcases List.mem_cons.mp hp with rfl | hp
        · exact b1
        · exact P2 p hp
      · show (items ++ [Value.ref lt]).length = i + 1
        rw [List.length_append, List.length_singleton, P3]
  · intro c u h tk hP F7 N7
    obtain ⟨items, e, more, oc⟩ := c
    obtain ⟨P1, P2, P3, ⟨v0, P4⟩⟩ := hP
    dsimp only at P1 P2 P3 P4 F7 N7
    replace F7 : Fr h₀ L' h (ovl [(Str.ofString "pairs", Value.ref lp)] u) := F7
    replace N7 : News h₀ L' h ((lp, listOf items.toArray e) :: (L' + 1 + 1, oc) :: (L' + 1, o2) :: (more ++ (news ++ (L, oL) :: frs))) := N7
    dsimp only
    try k_fold
    repeat' (first | (k_unfold; (try dsimp only)) | walk1 | (dsimp only; walk1) | (leave1; (try dsimp only)))
    show Q (.ref lp) _
    have hLL' : L < lp := Nat.lt_trans hLL hLlp
    obtain ⟨frs9, SU9, F10, N10⟩ := back_in (new := (lp, listOf items.toArray e) :: (more ++ news)) C (SameUp.refl _) F7 (fun p hp => N7 p (by
      rcases List.mem_append.mp hp with hp | hp
      · rcases List.mem_cons.mp hp with rfl | hp
        · exact .head _
        · refine .tail _ (.tail _ (.tail _ ?_))
          rcases List.mem_append.mp hp with hp | hp
          · exact List.mem_append_left _ hp
          · exact List.mem_append_right _ (List.mem_append_left _ hp)
      · exact .tail _ (.tail _ (.tail _ (List.mem_append_right _ (List.mem_append_right _ hp)))))) (fun p hp => by
        rcases List.mem_cons.mp hp with rfl | hp
        · exact Nat.ne_of_gt hLL'
        rcases List.mem_append.mp hp with hp | hp
        · exact Nat.ne_of_gt (Nat.lt_trans hLL' (P2 p hp))
        · exact (N p (List.mem_append_left _ hp)).2.1) (fun p hp => (N p (List.mem_append_right _ hp)).2.1)
    refine hret _ _ _ _ _ SU9 F10 N10 ⟨lp, e, items, more, rfl, rfl, fun p hp => hlp p (.tail _ (.tail _ (List.mem_append_left _ hp))), P2, ?_⟩
    rw [hvl] at P1
    exact P1
end Mj
end MjHooks

section MjSim
theorem Mj.freshMjSim : True := by (w_top off; trivial)
namespace Mj
def ins (x : List Int) : List (List Int) → List (List Int)
  | [] => [x]
  | y :: S => if lexLt y x = true then y :: ins x S else x :: y :: S
def gather (gone : List Int) : Int → List (List Int) → Int × List (List Int)
  | w, [] => (w, [])
  | w, y :: S => if y.dropLast = gone then gather gone (w + y.getLastD 0) S else (w, y :: S)
def leftOf (xs gone : List Int) (k : Nat) : Int := xs.getD k 0 - gone.getD k 0
def up1 (gone : List Int) (ways : Int) (k : Nat) : List Int := gone.take k ++ [gone.getD k 0 + 1] ++ gone.drop (k + 1) ++ [ways]
def mayGo (xs gone : List Int) (k : Nat) : Bool := decide (leftOf xs gone k > (if k = 0 then 0 else leftOf xs gone (k - 1)))
def pushK (xs gone : List Int) (ways : Int) : Nat → List (List Int) → List (List Int)
  | 0, S => S
  | k + 1, S => if mayGo xs gone k = true then ins (up1 gone ways k) (pushK xs gone ways k S) else pushK xs gone ways k S
def sim (xs : List Int) : Nat → List (List Int) → Option Int
  | 0, _ => none
  | _ + 1, [] => none
  | f + 1, x :: S => if 500 < S.length then none else
    if x.dropLast = xs then some (gather x.dropLast (x.getLastD 0) S).1 else
    sim xs f (pushK xs x.dropLast (gather x.dropLast (x.getLastD 0) S).1 xs.length (gather x.dropLast (x.getLastD 0) S).2)

def prodL (l : List Int) : Int := l.foldl (· * ·) 1
def prodTold (xs : List Int) : Int := (List.range xs.length).foldl (fun a k => (told1 xs k).1.foldl (· * ·) a) 1
def factZ (n : Nat) : Int := (List.range n).foldl (fun (a : Int) (i : Nat) => a * ((i : Int) + 1)) 1
def wayOk (xs : List Int) : Bool := match sim xs 300 [List.replicate xs.length 0 ++ [1]] with
  | none => false
  | some w => (List.range xs.length).foldl (fun a k => (told1 xs k).1.foldl (· * ·) a) w == factZ (xs.foldl (· + ·) 0).toNat
def allAsc : Nat → Nat → List (List Int)
  | 0, _ => [[]]
  | n + 1, lo => (List.range (4 - lo)).flatMap fun d => (allAsc n (lo + d)).map (((lo + d : Nat) : Int) :: ·)
theorem all_split {α : Type} {p : α → Bool} {l : List α} (k : Nat) (h1 : (l.take k).all p = true) (h2 : (l.drop k).all p = true) : l.all p = true := by
  rw [← List.take_append_drop k l, List.all_append, h1, h2]; rfl
set_option maxRecDepth 100000 in
theorem few3 : (allAsc 3 0).all wayOk = true := by decide +kernel
set_option maxRecDepth 100000 in
theorem few4a : ((allAsc 4 0).take 20).all wayOk = true := by decide +kernel
set_option maxRecDepth 100000 in
theorem few4b : ((allAsc 4 0).drop 20).all wayOk = true := by decide +kernel
theorem few4 : (allAsc 4 0).all wayOk = true := all_split 20 few4a few4b
set_option maxRecDepth 100000 in
theorem few5p0 : (((allAsc 5 0).drop 0).take 14).all wayOk = true := by decide +kernel
set_option maxRecDepth 100000 in
theorem few5p14 : (((allAsc 5 0).drop 14).take 10).all wayOk = true := by decide +kernel
set_option maxRecDepth 100000 in
theorem few5p24 : (((allAsc 5 0).drop 24).take 7).all wayOk = true := by decide +kernel
set_option maxRecDepth 100000 in
theorem few5p31 : (((allAsc 5 0).drop 31).take 6).all wayOk = true := by decide +kernel
set_option maxRecDepth 100000 in
theorem few5p37 : (((allAsc 5 0).drop 37).take 4).all wayOk = true := by decide +kernel
set_option maxRecDepth 100000 in
theorem few5p41 : (((allAsc 5 0).drop 41).take 4).all wayOk = true := by decide +kernel
set_option maxRecDepth 100000 in
theorem few5p45 : (((allAsc 5 0).drop 45).take 3).all wayOk = true := by decide +kernel
set_option maxRecDepth 100000 in
theorem few5p48 : (((allAsc 5 0).drop 48).take 2).all wayOk = true := by decide +kernel
set_option maxRecDepth 100000 in
theorem few5p50 : (((allAsc 5 0).drop 50).take 2).all wayOk = true := by decide +kernel
set_option maxRecDepth 100000 in
theorem few5p52 : (((allAsc 5 0).drop 52).take 2).all wayOk = true := by decide +kernel
set_option maxRecDepth 100000 in
theorem few5p54 : (((allAsc 5 0).drop 54).take 2).all wayOk = true := by decide +kernel
theorem drop_more {α : Type} {l : List α} {a k : Nat} {p : α → Bool} (h1 : ((l.drop a).take k).all p = true) (h2 : (l.drop (a + k)).all p = true) : (l.drop a).all p = true := all_split k h1 (by rw [List.drop_drop]; exact h2)
theorem few5 : (allAsc 5 0).all wayOk = true := by
  have h : ((allAsc 5 0).drop 0).all wayOk = true := (drop_more few5p0 (drop_more few5p14 (drop_more few5p24 (drop_more few5p31 (drop_more few5p37 (drop_more few5p41 (drop_more few5p45 (drop_more few5p48 (drop_more few5p50 (drop_more few5p52 (drop_more few5p54 (by decide +kernel))))))))))))
  exact h
end Mj
end MjSim

section MjSim2
theorem Mj.freshMjSim2 : True := by (w_top off; trivial)
namespace Mj
theorem mem_allAsc : ∀ (n lo : Nat) (xs : List Int), xs.length = n → xs.Pairwise (· ≤ ·) → (∀ x ∈ xs, (lo : Int) ≤ x ∧ x ≤ 3) → xs ∈ allAsc n lo
  | 0, _, [], _, _, _ => List.mem_singleton.mpr rfl
  | n + 1, lo, x :: xs, hl, hs, hx => by
    have h1 := hx x (.head _)
    have h2 := List.pairwise_cons.mp hs
    unfold allAsc
    rw [List.mem_flatMap]
    refine ⟨(x - lo).toNat, List.mem_range.mpr (by omega), ?_⟩
    rw [List.mem_map]
    have e : ((lo + (x - (lo : Int)).toNat : Nat) : Int) = x := by omega
    refine ⟨xs, mem_allAsc n _ xs (by simpa using hl) h2.2 fun y hy => ⟨by rw [e]; exact h2.1 y hy, (hx y (.tail _ hy)).2⟩, by rw [e]⟩
theorem few_ok {xs : List Int} (h3 : 3 ≤ xs.length) (h5 : xs.length ≤ 5) (hs : xs.Pairwise (· ≤ ·)) (hx : ∀ x ∈ xs, 0 ≤ x ∧ x ≤ 3) : wayOk xs = true := by
  have hm := mem_allAsc xs.length 0 xs rfl hs (fun x h => by simpa using hx x h)
  have : xs.length = 3 ∨ xs.length = 4 ∨ xs.length = 5 := by omega
  rcases this with e | e | e <;> rw [e] at hm
  · exact List.all_eq_true.mp few3 xs hm
  · exact List.all_eq_true.mp few4 xs hm
  · exact List.all_eq_true.mp few5 xs hm

theorem ins_perm (x : List Int) : ∀ S, (ins x S).Perm (x :: S)
  | [] => .refl _
  | y :: S => by
    unfold ins
    split
    · exact ((ins_perm x S).cons y).trans (.swap x y S)
    · exact .refl _
theorem ins_sorted (x : List Int) : ∀ S : List (List Int), S.Pairwise le → (ins x S).Pairwise le
  | [], _ => List.pairwise_singleton ..
  | y :: S, h => by
    have h' := List.pairwise_cons.mp h
    unfold ins
    split
    · rename_i hlt
      refine List.pairwise_cons.mpr ⟨fun z hz => ?_, ins_sorted x S h'.2⟩
      rcases List.mem_cons.mp ((ins_perm x S).mem_iff.mp hz) with rfl | hz
      · exact le_of_lt hlt
      · exact h'.1 z hz
    · rename_i hlt
      have hxy : le x y := by unfold le; simpa using hlt
      refine List.pairwise_cons.mpr ⟨fun z hz => ?_, h⟩
      rcases List.mem_cons.mp hz with rfl | hz
      · exact hxy
      · exact le_trans hxy (h'.1 z hz)

/-- a heap of pairs stands for a sorted list of their ints -/
def Sim (ps : List P) (S : List (List Int)) : Prop := HeapInv ps ∧ (ps.map (·.2)).Perm S ∧ S.Pairwise le
theorem Sim.length {ps : List P} {S : List (List Int)} (h : Sim ps S) : ps.length = S.length := by
  have := h.2.1.length_eq; rwa [List.length_map] at this
theorem min_head {ps : List P} {x : List Int} {S : List (List Int)} (hp : (ps.map (·.2)).Perm (x :: S)) (hs : (x :: S).Pairwise le) {q : P} (hq : q ∈ ps) (hmin : ∀ r ∈ ps, le q.2 r.2) : q.2 = x := by
  have h1 := List.pairwise_cons.mp hs
  have hx : x ∈ ps.map (·.2) := hp.mem_iff.mpr (.head _)
  obtain ⟨r, hr, rfl⟩ := List.mem_map.mp hx
  have hqm : q.2 ∈ r.2 :: S := hp.mem_iff.mp (List.mem_map_of_mem hq)
  rcases List.mem_cons.mp hqm with e | e
  · exact e
  · exact le_antisymm (hmin r hr) (h1.1 _ e)
theorem Sim.pop {ps : List P} {x : List Int} {S : List (List Int)} (h : Sim ps (x :: S)) : (hpopR ps).2 = x ∧ hpopR ps ∈ ps ∧ (∀ q ∈ hpopL ps, q ∈ ps) ∧ Sim (hpopL ps) S := by
  have hl := h.length
  have h0 : 0 < ps.length := by rw [hl, List.length_cons]; omega
  obtain ⟨a, b, c⟩ := hpop_perm h0 h.1
  have hm : hpopR ps ∈ ps := b.mem_iff.mpr (.head _)
  have e : (hpopR ps).2 = x := min_head h.2.1 h.2.2 hm fun r hr => by
    rcases List.mem_cons.mp (b.mem_iff.mp hr) with rfl | hr
    · exact le_refl _
    · exact c r hr
  refine ⟨e, hm, fun q hq => b.mem_iff.mpr (.tail _ hq), a, ?_, (List.pairwise_cons.mp h.2.2).2⟩
  have p2 := (b.map (·.2)).symm.trans h.2.1
  rw [List.map_cons, e] at p2
  exact (List.perm_cons _).mp p2
theorem Sim.top {ps : List P} {x : List Int} {S : List (List Int)} (h : Sim ps (x :: S)) : (gp ps 0).2 = x := by
  have hl := h.length
  have h0 : 0 < ps.length := by rw [hl, List.length_cons]; omega
  refine min_head h.2.1 h.2.2 (gp_mem h0) fun r hr => ?_
  obtain ⟨i, hi, rfl⟩ := List.mem_iff_getElem.mp hr
  have := heap_root h.1 i hi
  rwa [gp_get hi] at this
theorem Sim.push {ps : List P} {S : List (List Int)} (h : Sim ps S) (q : P) : Sim (hpush ps q) (ins q.2 S) :=
  ⟨hpush_heap h.1, (List.Perm.map (fun p : P => p.2) (hpush_perm ps q)).trans ((h.2.1.cons q.2).trans (ins_perm q.2 S).symm), ins_sorted _ _ h.2.2⟩
theorem Sim.one (q : P) : Sim [q] [q.2] := ⟨fun i h1 h2 => by simp at h2; omega, .refl _, List.pairwise_singleton ..⟩
end Mj
end MjSim2

section MjWRules
theorem Mj.freshMjWRules : True := by (w_top off; trivial)
open PySem PySem.W PyProof.Rows PySem.Spec PySem.Calls
namespace Mj
section
variable {prog : Program} {w : World} {A : Around} {E : Value → Shared → Prop} {s : Shared} {h₀ : Heap} {L a b : Addr} {m : Str → Option Value} {news : Led} {vs us : List Value} {ns ms : List Int} {n1 n2 : Nat} {Q : Value → Shared → Prop}
theorem ints_eq (N : News h₀ L s.heap news) (ha : (a, listOf vs.toArray n1) ∈ news) (hb : (b, listOf us.toArray n2) ∈ news) (hi : Keep (IntsAre vs ns)) (hj : Keep (IntsAre us ms)) (hu : A.units + 64 < cLine) (h : Q (.bool (decide (ns = ms))) s) :
    wpAny (model prog w) A (compareOp .Eq (.ref a) (.ref b)) Q E s := ke_eq_ints (PySem.IsL.isList (n := n1) (N _ ha).1) (PySem.IsL.isList (n := n2) (N _ hb).1) hi.out hj.out hu h
theorem ints_ne (N : News h₀ L s.heap news) (ha : (a, listOf vs.toArray n1) ∈ news) (hb : (b, listOf us.toArray n2) ∈ news) (hi : Keep (IntsAre vs ns)) (hj : Keep (IntsAre us ms)) (hu : A.units + 64 < cLine) (h : Q (.bool (!decide (ns = ms))) s) :
    wpAny (model prog w) A (compareOp .NotEq (.ref a) (.ref b)) Q E s := ke_ne_ints (PySem.IsL.isList (n := n1) (N _ ha).1) (PySem.IsL.isList (n := n2) (N _ hb).1) hi.out hj.out hu h
theorem ints_add (F : Fr h₀ L s.heap m) (N : News h₀ L s.heap news) (ha : (a, listOf vs.toArray n1) ∈ news) (hb : (b, listOf us.toArray n2) ∈ news) (hi : Keep (IntsAre vs ns)) (hj : Keep (IntsAre us ms)) (hz : ns.length + ms.length < 1000)
    (h : ∀ D zs h', Fr h₀ L h' m → News h₀ L h' ((D, listOf (List.toArray zs) 0) :: news) → (∀ p ∈ news, p.1 < D) → Keep (IntsAre zs (ns ++ ms)) → Q (.ref D) { s with heap := h' }) : wpAny (model prog w) A (binaryOp .Add (.ref a) (.ref b)) Q E s :=
  kmk_add_ints F N (PySem.IsL.isList (n := n1) (N _ ha).1) (PySem.IsL.isList (n := n2) (N _ hb).1) hi.out hj.out (fun D zs h' F' N' l1 hk => h D zs h' F' N' l1 ⟨hk⟩) (by rw [sizeLine_eq]; omega)
theorem ints_back {value slice : PySem.Expr} {k : Int} {u : Tok} (N : News h₀ L s.heap news) (hm : (a, listOf vs.toArray n1) ∈ news) (hi : Keep (IntsAre vs ns)) (h0 : k < 0) (h1 : -(ns.length : Int) ≤ k) (hfit : -(2 ^ 63) ≤ k) (h : ∀ t, Q (.int (ns.getD (k + (ns.length : Int)).toNat 0) t) s)
    (hs : subscripted slice false (.ref a) (.int k u) = operate [.ref a, .int k u] (getItem (.ref a) (.int k u)) := by with_unfolding_all rfl) :
    wpAny (model prog w) A (subscriptTail value slice (.ref a) (.int k u)) Q E s := by
  have hl := hi.out.length
  refine kba_turn (value' := PySem.Expr.Name (PySem.Str.ofString "_") ⟨0, 0, 0, 0⟩) (fun _ => rfl) ?_
  have hlt : (k + (ns.length : Int)).toNat < vs.length := by omega
  obtain ⟨y, t, e, hk⟩ := IntsAre.at hi.out (k + (ns.length : Int)).toNat _ (List.getElem?_eq_getElem hlt)
  refine kim_back (x := vs[(k + (ns.length : Int)).toNat]) N hm rfl rfl h0 (by rw [hl]; exact h1) hfit (by rw [hl]; exact List.getElem?_eq_getElem hlt) ?_ hs (fun _ => rfl)
  rw [e]
  have := h t
  rw [List.getD_eq_getElem?_getD, hk] at this
  exact this
theorem ints_subA {value slice : PySem.Expr} {k : Int} {u : Tok} (N : News h₀ L s.heap news) (hm : (a, listOf vs.toArray n1) ∈ news) (hi : Keep (IntsAre vs ns)) (h0 : 0 ≤ k) (h1 : k < ns.length) (hfit : k < 2 ^ 63) (h : ∀ t, Q (.int (ns.getD k.toNat 0) t) s)
    (hs : subscripted slice false (.ref a) (.int k u) = operate [.ref a, .int k u] (getItem (.ref a) (.int k u)) := by with_unfolding_all rfl) :
    wpAny (model prog w) A (subscriptTail value slice (.ref a) (.int k u)) Q E s := ksa_sub N hm hi.out h0 h1 hfit h hs

section
variable {value slice : PySem.Expr} {vl vu : Value}
theorem slice_any {lo hi : Option Int} (F : Fr h₀ L s.heap m) (N : News h₀ L s.heap news) (hm : (a, listOf vs.toArray n1) ∈ news) (pl : IsPart vl lo) (pu : IsPart vu hi) (hz : vs.length < 2 ^ 20)
    (h : ∀ D h', Fr h₀ L h' m → News h₀ L h' ((D, listOf (kms_pick vs lo hi).toArray 0) :: news) → (∀ p ∈ news, p.1 < D) → Q (.ref D) { s with heap := h' })
    (hs : subscripted slice false (.ref a) (.ref s.heap.objs.size) = operate [.ref s.heap.objs.size, .ref a] (getItem (.ref a) (.ref s.heap.objs.size))) :
    wpAny (model prog w) A (subscriptTail value slice (.ref a) (.ref s.heap.objs.size)) Q E { s with heap := s.heap.push { cls := .type "slice", data := .fields #[vl, vu, .none] } } :=
  kba_turn (value' := PySem.Expr.Name (PySem.Str.ofString "_") ⟨0, 0, 0, 0⟩) (fun _ => rfl) (led_slice F N hm pl pu hz h hs (fun _ => rfl))
theorem slice_butlast (F : Fr h₀ L s.heap m) (N : News h₀ L s.heap news) (hm : (a, listOf vs.toArray n1) ∈ news) (hi : Keep (IntsAre vs ns)) (pl : IsPart vl none) (pu : IsPart vu (some (-1))) (hz : ns.length < 1000)
    (h : ∀ D zs h', Fr h₀ L h' m → News h₀ L h' ((D, listOf (List.toArray zs) 0) :: news) → (∀ p ∈ news, p.1 < D) → Keep (IntsAre zs ns.dropLast) → Q (.ref D) { s with heap := h' })
    (hs : subscripted slice false (.ref a) (.ref s.heap.objs.size) = operate [.ref s.heap.objs.size, .ref a] (getItem (.ref a) (.ref s.heap.objs.size)) := by with_unfolding_all rfl) :
    wpAny (model prog w) A (subscriptTail value slice (.ref a) (.ref s.heap.objs.size)) Q E { s with heap := s.heap.push { cls := .type "slice", data := .fields #[vl, vu, .none] } } :=
  slice_any F N hm pl pu (by have := hi.out.length; omega) (fun D h' F' N' l1 => by
    rw [pick_but_last] at N'
    refine h D _ h' F' N' l1 ⟨?_⟩
    rw [List.dropLast_eq_take, List.dropLast_eq_take, hi.out.length]
    exact hi.out.take _) hs
theorem slice_upto {y : Int} (F : Fr h₀ L s.heap m) (N : News h₀ L s.heap news) (hm : (a, listOf vs.toArray n1) ∈ news) (hi : Keep (IntsAre vs ns)) (pl : IsPart vl none) (pu : IsPart vu (some y)) (hy : 0 ≤ y) (hz : ns.length < 1000)
    (h : ∀ D zs h', Fr h₀ L h' m → News h₀ L h' ((D, listOf (List.toArray zs) 0) :: news) → (∀ p ∈ news, p.1 < D) → Keep (IntsAre zs (ns.take y.toNat)) → Q (.ref D) { s with heap := h' })
    (hs : subscripted slice false (.ref a) (.ref s.heap.objs.size) = operate [.ref s.heap.objs.size, .ref a] (getItem (.ref a) (.ref s.heap.objs.size)) := by with_unfolding_all rfl) :
    wpAny (model prog w) A (subscriptTail value slice (.ref a) (.ref s.heap.objs.size)) Q E { s with heap := s.heap.push { cls := .type "slice", data := .fields #[vl, vu, .none] } } :=
  slice_any F N hm pl pu (by have := hi.out.length; omega) (fun D h' F' N' l1 => by
    rw [pick_upto _ hy] at N'
    exact h D _ h' F' N' l1 ⟨hi.out.take _⟩) hs
theorem slice_from {x : Int} (F : Fr h₀ L s.heap m) (N : News h₀ L s.heap news) (hm : (a, listOf vs.toArray n1) ∈ news) (hi : Keep (IntsAre vs ns)) (pl : IsPart vl (some x)) (pu : IsPart vu none) (hx : 0 ≤ x) (hz : ns.length < 1000)
    (h : ∀ D zs h', Fr h₀ L h' m → News h₀ L h' ((D, listOf (List.toArray zs) 0) :: news) → (∀ p ∈ news, p.1 < D) → Keep (IntsAre zs (ns.drop x.toNat)) → Q (.ref D) { s with heap := h' })
    (hs : subscripted slice false (.ref a) (.ref s.heap.objs.size) = operate [.ref s.heap.objs.size, .ref a] (getItem (.ref a) (.ref s.heap.objs.size)) := by with_unfolding_all rfl) :
    wpAny (model prog w) A (subscriptTail value slice (.ref a) (.ref s.heap.objs.size)) Q E { s with heap := s.heap.push { cls := .type "slice", data := .fields #[vl, vu, .none] } } :=
  slice_any F N hm pl pu (by have := hi.out.length; omega) (fun D h' F' N' l1 => by
    rw [pick_from _ hx] at N'
    exact h D _ h' F' N' l1 ⟨hi.out.drop _⟩) hs
end
end
end Mj
end MjWRules

section MjWays
theorem Mj.freshMjWays : True := by (w_top off; trivial)
open PySem PySem.W PyProof.Rows
namespace Mj
open PyProof.Rows.LCg (NsObj ns_obj lst lst_snoc)

local macro_rules | `(tactic| walk_at "exec Assign cons ListComp") => `(tactic| with_reducible refine Stop.mk ?_)
local macro_rules | `(tactic| walk_at "exec While") => `(tactic| with_reducible refine Stop.mk ?_)
local macro_rules | `(tactic| walk_at "binaryOp Add ref ref") => `(tactic| (k_here; k_dflt (refine' ints_add ?k1 ?k2 ?k3 ?k4 ?k5 ?k6 ?k7 ?_; (case k1 => k_asm); (case k2 => k_asm); (case k3 => k_mem); (case k4 => k_mem); (case k5 => first | assumption | exact ⟨.cons _ _ .nil⟩); (case k6 => first | assumption | exact ⟨.cons _ _ .nil⟩); (case k7 => first | omega | (simp only [List.length_append, List.length_cons, List.length_nil, List.length_take, List.length_drop]; omega)); k_whole); intro D' zs' h' F' N' l1 hk'))
local macro_rules | `(tactic| walk_at "compareOp NotEq ref ref") => `(tactic| with_reducible refine Stop.mk ?_)
local macro_rules | `(tactic| walk_at "compareOp Eq ref ref") => `(tactic| (k_here; k_dflt (refine' ints_eq ?k1 ?k2 ?k3 ?k4 ?k5 ?k6 ?_; (case k1 => k_asm); (case k2 => k_mem); (case k3 => k_mem); (case k4 => assumption); (case k5 => assumption); (case k6 => ktr_units); k_whole)))
local macro_rules | `(tactic| walk_at "subscriptTail Name Constant ref int") => `(tactic| with_reducible refine Stop.mk ?_)
local macro_rules | `(tactic| walk_at "subscriptTail Subscript") => `(tactic| (k_here; k_dflt (refine' slice_butlast ?k1 ?k2 ?k3 ?k4 ?k5 ?k6 ?k7 ?_; (case k1 => k_asm); (case k2 => k_asm); (case k3 => k_mem); (case k4 => assumption); (case k5 => kmk_part); (case k6 => kmk_part); (case k7 => omega); k_whole); intro D' zs' h' F' N' l1 hk'))
local macro_rules | `(tactic| walk_at "subscriptTail Call") => `(tactic| (k_here; k_dflt (refine' ints_back ?k1 ?k2 ?k3 ?k4 ?k5 ?k6 ?_; (case k1 => k_asm); (case k2 => k_mem); (case k3 => assumption); (case k4 => omega); (case k5 => omega); (case k6 => omega); k_whole); intro t'))
local macro_rules | `(tactic| walk_at "subscriptTail Name UnaryOp ref int") => `(tactic| (k_here; k_dflt (refine' ints_back ?k1 ?k2 ?k3 ?k4 ?k5 ?k6 ?_; (case k1 => k_asm); (case k2 => k_mem); (case k3 => assumption); (case k4 => omega); (case k5 => omega); (case k6 => omega); k_whole); intro t'))
local macro_rules | `(tactic| walk_at "subscriptTail Name Slice ref ref") => `(tactic| (k_here; k_dflt (refine' slice_butlast ?k1 ?k2 ?k3 ?k4 ?k5 ?k6 ?k7 ?_; (case k1 => k_asm); (case k2 => k_asm); (case k3 => k_mem); (case k4 => assumption); (case k5 => kmk_part); (case k6 => kmk_part); (case k7 => omega); k_whole); intro D' zs' h' F' N' l1 hk'))
local macro_rules | `(tactic| walk_at "subscriptTail Name Slice ref ref") => `(tactic| (k_here; k_dflt (refine' slice_upto ?k1 ?k2 ?k3 ?k4 ?k5 ?k6 ?k7 ?k8 ?_; (case k1 => k_asm); (case k2 => k_asm); (case k3 => k_mem); (case k4 => assumption); (case k5 => kmk_part); (case k6 => kmk_part); (case k7 => omega); (case k8 => omega); k_whole); intro D' zs' h' F' N' l1 hk'))
local macro_rules | `(tactic| walk_at "subscriptTail Name Slice ref ref") => `(tactic| (k_here; k_dflt (refine' slice_from ?k1 ?k2 ?k3 ?k4 ?k5 ?k6 ?k7 ?k8 ?_; (case k1 => k_asm); (case k2 => k_asm); (case k3 => k_mem); (case k4 => assumption); (case k5 => kmk_part); (case k6 => kmk_part); (case k7 => omega); (case k8 => omega); k_whole); intro D' zs' h' F' N' l1 hk'))
local macro_rules | `(tactic| walk_at "subscriptTail BinOp Name ref int") => `(tactic| (k_here; k_dflt (refine' ints_subA ?k1 ?k2 ?k3 ?k4 ?k5 ?k6 ?_; (case k1 => k_asm); (case k2 => k_mem); (case k3 => assumption); (case k4 => omega); (case k5 => first | omega | (simp only [List.length_append, List.length_cons, List.length_nil]; omega)); (case k6 => omega); k_whole); intro t'))
local macro_rules | `(tactic| walk_at "storeName") => `(tactic| ((with_reducible show wpAny _ _ (storeName _ (Str.ofString "gone") _) _ _ _); with_reducible refine Stop.mk ?_))

theorem den_mono {k : Bool} {a b : Led} (h : ∀ p ∈ a, p ∈ b) {v : Value} {d : List Int} (x : Den k a v d) : Den k b v d := by
  unfold Den at x ⊢
  split
  · rename_i e; rw [if_pos e] at x; exact x
  · rename_i e
    rw [if_neg e] at x
    obtain ⟨q, vs, n, e1, e2, e3⟩ := x
    exact ⟨q, vs, n, e1, h _ e2, e3⟩
theorem den_list {a : Led} {v : Value} {d : List Int} (x : Den false a v d) : ∃ q vs n, v = .ref q ∧ (q, listOf (List.toArray vs) n) ∈ a ∧ IntsAre vs d := x
theorem it_ne_nil {prog : Program} {w : World} {A : Around} {E : Value → Shared → Prop} {s : Shared} {h₀ : Heap} {L l l0 : Addr} {news : Led} {ps : List P} {n n0 : Nat} {Q : Value → Shared → Prop} (N : News h₀ L s.heap news) (hm : (l, listOf (vals ps).toArray n) ∈ news) (hm0 : (l0, listOf (List.toArray []) n0) ∈ news) (hr : A.units < cLine) (h : Q (.bool (decide (0 < ps.length))) s) :
    wpAny (model prog w) A (compareOp .NotEq (.ref l) (.ref l0)) Q E s := led_ne_nil N hm hm0 hr (by rw [vals_length]; exact h)
theorem it_top {prog : Program} {w : World} {A : Around} {E : Value → Shared → Prop} {s : Shared} {h₀ : Heap} {L l q : Addr} {news : Led} {ps : List P} {n : Nat} {Q : Value → Shared → Prop} {value slice : PySem.Expr} {u : Tok} {k : Int} (N : News h₀ L s.heap news) (hm : (l, listOf (vals ps).toArray n) ∈ news) (hk : k = 0) (h1 : 0 < ps.length) (hq : (gp ps 0).1 = .ref q) (h : Q (.ref q) s)
    (hs : subscripted slice false (.ref l) (.int k u) = operate [.ref l, .int k u] (getItem (.ref l) (.int k u)) := by with_unfolding_all rfl) (hg : ∀ r, letTemporaryGo value (.ref l) r = pure () := by intro _; with_unfolding_all rfl) :
    wpAny (model prog w) A (subscriptTail value slice (.ref l) (.int k u)) Q E s := it_get N hm (by omega) (by omega) (by omega) (by rw [hk, show ((0 : Int).toNat) = 0 from rfl, hq]; exact h) hs hg
theorem last_at {x : List Int} {n : Nat} (h : x.length = n + 1) : x.getD ((-1 : Int) + (x.length : Int)).toNat 0 = x.getLastD 0 := by
  have e : ((-1 : Int) + (x.length : Int)).toNat = x.length - 1 := by omega
  rw [e, List.getLastD_eq_getLast?, List.getLast?_eq_getElem?, List.getD_eq_getElem?_getD]
section
variable {prog : Program} {w : World} {A : Around} {E : Value → Shared → Prop} {s : Shared} {env : Env} {h₀ : Heap} {L : Addr} {Q : Flow → Shared → Prop}
def WDone {σ : Type} (h₀ : Heap) (L : Addr) (s : Shared) (fm : σ → List (Str × Value)) (Ld : σ → Led) (P : σ → Prop) (s₂ : Shared) : Prop :=
  ∃ (c' : σ) (h' : Heap) (tk : Nat) (m' : Str → Option Value) (news' : Led), s₂ = { s with heap := h', toks := tk } ∧ Fr h₀ L h' m' ∧ News h₀ L h' news' ∧ (∀ p ∈ Ld c', p ∈ news') ∧ Agree m' (fm c') ∧ P c'
theorem wdone {σ : Type} {fm : σ → List (Str × Value)} {Ld : σ → Led} {P : σ → Prop} {h' : Heap} {tk : Nat} {m' : Str → Option Value} {news' : Led} (c' : σ) (F : Fr h₀ L h' m') (N : News h₀ L h' news') (hn : ∀ p ∈ Ld c', p ∈ news') (ha : Agree m' (fm c')) (hp : P c') :
    WDone h₀ L s fm Ld P { s with heap := h', toks := tk } := ⟨c', h', tk, m', news', rfl, F, N, hn, ha, hp⟩
theorem my_whileM {σ : Type} {test : PySem.Expr} {body : List Stmt} {pos : Pos} {m₀ : Str → Option Value} {news₀ : Led} (fm : σ → List (Str × Value)) (Ld : σ → Led) (P Pd : σ → Prop) (μ : σ → Nat) (c₀ : σ)
    (F : Fr h₀ L s.heap m₀) (N : News h₀ L s.heap news₀) (hn : ∀ p ∈ Ld c₀, p ∈ news₀) (ha : Agree m₀ (fm c₀)) (hp : P c₀)
    (turn : ∀ (c : σ) (u : Str → Option Value) h tk, P c → Fr h₀ L h (ovl (fm c) u) → News h₀ L h (Ld c) →
      wpAny (model prog w) A (isTrue test env (eval test env)) (fun b s₂ =>
        if b = true then wpAny (model prog w) A (execs body env) (WPost h₀ L s fm Ld P μ (fun f s' => f = Flow.next ∧ WDone h₀ L s fm Ld Pd s') c) E s₂ else WDone h₀ L s fm Ld Pd s₂) E { s with heap := h, toks := tk })
    (cont : ∀ (c : σ) (u : Str → Option Value) h tk, Pd c → Fr h₀ L h (ovl (fm c) u) → News h₀ L h (Ld c) → Q .next { s with heap := h, toks := tk })
    (hE : PassesOwn (model prog w) A env E := by passes_own) :
    wpAny (model prog w) A (exec (.While test body [] pos) env) Q E s := by
  refine wpAny_mono (my_while (Q := fun f s' => f = Flow.next ∧ WDone h₀ L s fm Ld Pd s') fm Ld P μ c₀ F N hn ha hp (fun c u h tk a b d => wpAny_mono (turn c u h tk a b d) (fun q s₂ hq => by cases q <;> simp only [Bool.false_eq_true, if_false, if_true] at hq ⊢; exact ⟨trivial, hq⟩; exact hq) fun _ _ e => e) hE) (fun f s' hq => ?_) fun _ _ e => e
  obtain ⟨rfl, c, h', tk, m', news', rfl, F', N', hn', ha', hp'⟩ := hq
  exact cont c m' h' tk hp' (by rw [ha'.ovl]; exact F') fun p hp => N' p (hn' p hp)
end
theorem may_iff {xs gone : List Int} {i : Nat} (hi : i < xs.length) : (([0] ++ (List.range xs.length).map (leftOf xs gone)).getD (i : Int).toNat 0 < ((List.range xs.length).map (leftOf xs gone)).getD (i : Int).toNat 0) ↔ mayGo xs gone i = true := by
  rw [show (i : Int).toNat = i from rfl]
  unfold mayGo
  rw [decide_eq_true_eq]
  have e1 : ∀ j, j < xs.length → ((List.range xs.length).map (leftOf xs gone)).getD j 0 = leftOf xs gone j := fun j hj => by simp [List.getD_eq_getElem?_getD, hj]
  rw [e1 i hi]
  cases i with
  | zero => rfl
  | succ j =>
    have e2 : ([0] ++ (List.range xs.length).map (leftOf xs gone)).getD (j + 1) 0 = ((List.range xs.length).map (leftOf xs gone)).getD j 0 := rfl
    rw [e2, e1 j (by omega)]
    exact Iff.rfl
structure WSt2 where
  ps : List P
  e : Nat
  ways : Int
  t : Tok
  S : List (List Int)
structure WSt3 where
  ps : List P
  e : Nat
  rest : Led
  S : List (List Int)
structure WSt where
  ps : List P
  e : Nat
  rest : Led
  oc : Obj
  S : List (List Int)
  f : Nat

set_option maxRecDepth 100000 in
set_option maxHeartbeats 8000000 in
theorem c_ways (prog : Program) (w : World) (ll : Addr) (vs : List Value) (xs : List Int) (e1 : Nat) (news : Led) (fuel : Nat) (W : Int) (hm : (ll, listOf vs.toArray e1) ∈ news) (hi : IntsAre vs xs) (hlen : xs.length < 100) (hsim : sim xs fuel [List.replicate xs.length 0 ++ [1]] = some W) :
    Con prog w 71 9 600 [.ref ll] news (fun r news' => ∃ t, r = .int W t ∧ news' = news) := by
  intro dp un gd cn cs a ccd cl outer A₀ base h₀ L m s mean mg mb Q E B F X N T hk hdp hun hret
  have hvl := hi.length
  have hiK : Keep (IntsAre vs xs) := ⟨hi⟩
  clear hi
  refine wpAny_call ?_
  refine code_defC (binds := [(Str.ofString "lengths", .ref ll)]) B F X N T rfl rfl hk (by k_is) (by k_is) (by ktr_room) (BindsTo.of_eq rfl) (by exact rfl) (by decide +kernel) ?_ rfl rfl rfl
  intro g L' h' tk' cells FG F' N' CA B' X' T' hlt'
  dsimp only
  k_fold
  obtain ⟨o1, o2, hE, d1, d2⟩ := CellsAre.two CA
  subst hE
  clear CA
  replace d1 : o1.data = .cell none := d1
  replace d2 : o2.data = .cell (some (.ref ll)) := d2
  replace F' : Fr g L' h' (fun _ => none) := F'
  simp only [List.cons_append, List.nil_append] at N'
  have hbig : ∀ p ∈ news, p.1 < L' := hlt'
  repeat' (first | (k_unfold; (try dsimp only)) | walk1 | (dsimp only; walk1) | (leave1; (try dsimp only)))
  refine Stop.out ?_
  refine compL (by assumption) (by decide) (by with_unfolding_all rfl) (by decide) rfl (by decide) rfl ?_
  repeat' (first | (k_unfold; (try dsimp only)) | walk1 | (dsimp only; walk1) | (leave1; (try dsimp only)))
  refine GoL.mk (fun _ => true) (fun _ => 0) (by assumption) (SrcIs.list (its := vs.toArray) (k := e1) rfl (by assumption) (by assumption) (.tail _ (.tail _ hm)) (by rw [List.size_toArray, sizeLine_eq]; omega)) ?_ ?_
  · intro I2 C2 D2 j v oI2 oC2 ys2 h8 tk8 E' hj hP hT F8 N8 off ne
    refine ⟨rfl, ?_⟩
    simp only [if_true]
    repeat' (first | (k_unfold; (try dsimp only)) | walk1 | (dsimp only; walk1) | (leave1; (try dsimp only)))
    any_goals exact Back.mk F8 N8 fun _ hp => hp
  · intro Dz hz tkz zs Fz Nz hltz hzs
    dsimp only
    have hzK : Keep (IntsAre zs (List.replicate xs.length 0)) := ⟨by
      have hy := hzs
      rw [filter_true, List.size_toArray, hvl] at hy
      have e : List.map (fun _ => (0 : Int)) (List.range xs.length) = List.replicate xs.length 0 := by
        rw [List.eq_replicate_iff]; simp
      rw [e] at hy
      exact hy⟩
    clear hzs
    have hzl : (List.replicate xs.length (0 : Int)).length = xs.length := List.length_replicate ..
    repeat' (first | (k_unfold; (try dsimp only)) | walk1 | (dsimp only; walk1) | (leave1; (try dsimp only)))
    rename_i l1 h1 lt1 D1 zs1 h2 lt2 hk1 lh h3 lt3 h4 F4 N4
    refine Stop.out ?_
    have g1 : L' + 1 + 1 < D1 := lt2 (L' + 1 + 1, o1) (.tail _ (.tail _ (.head _)))
    have g2 : D1 < lh := lt3 _ (.head _)
    have g3 : L' + 1 + 1 < lh := Nat.lt_trans g1 g2
    obtain ⟨wP, hwP⟩ : ∃ wP : WSt → Prop, ∀ c, wP c ↔ (Sim c.ps c.S ∧ sim xs c.f c.S = some W ∧ (∀ p ∈ c.ps, Den false c.rest p.1 p.2) ∧ (∀ p ∈ c.rest, p.1 ≠ lh ∧ L' + 1 + 1 < p.1) ∧ (∀ x ∈ c.S, x.length = xs.length + 1) ∧ (∃ v, c.oc.data = .cell v)) := ⟨_, fun _ => Iff.rfl⟩
    with_unfolding_all refine my_while (σ := WSt) (fun _ => [(Str.ofString "heap", .ref lh)]) (fun c => (lh, listOf (vals c.ps).toArray c.e) :: (L' + 1 + 1, c.oc) :: (L' + 1, o2) :: (c.rest ++ news)) wP (fun c => c.f) ⟨[(.ref D1, List.replicate xs.length 0 ++ [1])], 0, [(D1, listOf zs1.toArray 0)], o1, [List.replicate xs.length 0 ++ [1]], fuel⟩ F4 N4 ?_ ⟨rfl, trivial⟩ ((hwP _).mpr ⟨Sim.one _, hsim, ?_, ?_, ?_, _, d1⟩) ?_
    · intro p hp
      dsimp only at hp
      rcases List.mem_cons.mp hp with rfl | hp
      · exact .head _
      rcases List.mem_cons.mp hp with rfl | hp
      · exact .tail _ (.tail _ (.tail _ (.tail _ (.head _))))
      rcases List.mem_cons.mp hp with rfl | hp
      · exact .tail _ (.tail _ (.tail _ (.tail _ (.tail _ (.head _)))))
      rcases List.mem_cons.mp hp with rfl | hp
      · exact .tail _ (.head _)
      · exact .tail _ (.tail _ (.tail _ (.tail _ (.tail _ (.tail _ hp)))))
    · intro p hp
      dsimp only at hp ⊢
      rw [List.mem_singleton.mp hp]
      exact ⟨D1, zs1, 0, rfl, .head _, hk1.out⟩
    · intro p hp
      dsimp only at hp
      rw [List.mem_singleton.mp hp]
      exact ⟨Nat.ne_of_lt g2, g1⟩
    · intro z hz
      dsimp only at hz
      rw [List.mem_singleton.mp hz, List.length_append, List.length_replicate]; rfl
    · rintro ⟨ps, e, rest, oc, S, f⟩ u h tk hP0 F5 N5
      obtain ⟨P1, P2, P3, P4, P5, ⟨v0, P6⟩⟩ := (hwP _).mp hP0
      clear hP0
      dsimp only at P1 P2 P3 P4 P5 P6 F5 N5
      obtain ⟨f', x, S', rfl, rfl⟩ : ∃ f' x S', f = f' + 1 ∧ S = x :: S' := by
        cases f with
        | zero => simp [sim] at P2
        | succ f' =>
          cases S with
          | nil => simp [sim] at P2
          | cons x S' => exact ⟨f', x, S', rfl, rfl⟩
      unfold sim at P2
      split at P2
      · cases P2
      rename_i hS5
      have hpl := P1.length
      rw [List.length_cons] at hpl
      obtain ⟨q1, q2, q3, q4⟩ := P1.pop
      have hx1 := P5 x (.head _)
      obtain ⟨ha, hvs, hn, e1', e2', e3'⟩ := den_list (P3 _ q2)
      rw [q1] at e3'
      have hK : Keep (IntsAre hvs x) := ⟨e3'⟩
      have hml : (ha, listOf hvs.toArray hn) ∈ rest ++ news := List.mem_append_left _ e2'
      repeat' (first | (k_unfold; (try dsimp only)) | walk1 | (dsimp only; walk1) | (leave1; (try dsimp only)))
      refine Stop.out ?_
      have hLlh : L' < lh := Nat.lt_trans (Nat.lt_succ_of_lt (Nat.lt_succ_self _)) g3
      have hne9 : ∀ p ∈ (L' + 1 + 1, oc) :: (L' + 1, o2) :: (rest ++ news), p.1 ≠ lh := by
        intro p hp
        rcases List.mem_cons.mp hp with rfl | hp
        · exact Nat.ne_of_lt g3
        rcases List.mem_cons.mp hp with rfl | hp
        · exact Nat.ne_of_lt (Nat.lt_trans (Nat.lt_succ_self _) g3)
        rcases List.mem_append.mp hp with hp | hp
        · exact (P4 p hp).1
        · exact Nat.ne_of_lt (Nat.lt_trans (hbig p hp) hLlh)
      refine (c_heappop prog w false lh ((L' + 1 + 1, oc) :: (L' + 1, o2) :: (rest ++ news)) ps e (by omega) (by omega) hne9 (fun p hp => den_mono (fun q hq => .tail _ (.tail _ (List.mem_append_left _ hq))) (P3 p hp))).use B' F5 X' N5 T' rfl (by ktr_room) (by ktr_units) ?_
      rintro r9 news9 h9 tk9 F9 N9 ⟨rfl, rfl⟩
      rw [e1']
      dsimp only
      repeat' (first | (k_unfold; (try dsimp only)) | walk1 | (dsimp only; walk1) | (leave1; (try dsimp only)))
      rename_i hA FA NA Dg gs hB FB NB ltg hgK
      refine Stop.out ?_
      have hcg : L' + 1 + 1 < Dg := ltg (L' + 1 + 1, oc) (.tail _ (.head _))
      with_unfolding_all refine led_storeC (cc := L' + 1 + 1) ((lh, listOf (vals (hpopL ps)).toArray (e + 1)) :: (Dg, listOf gs.toArray 0) :: (L' + 1, o2) :: (rest ++ news)) rfl rfl rfl FB NB (.tail _ (.tail _ (.head _))) P6 ?_ ?_
      · intro p hp
        rcases List.mem_cons.mp hp with rfl | hp
        · exact ⟨.tail _ (.head _), Nat.ne_of_gt g3⟩
        rcases List.mem_cons.mp hp with rfl | hp
        · exact ⟨.head _, Nat.ne_of_gt hcg⟩
        rcases List.mem_cons.mp hp with rfl | hp
        · exact ⟨.tail _ (.tail _ (.tail _ (.head _))), (ad4 L').2.2⟩
        refine ⟨.tail _ (.tail _ (.tail _ (.tail _ hp))), ?_⟩
        rcases List.mem_append.mp hp with hp | hp
        · exact Nat.ne_of_gt (P4 p hp).2
        · exact (ad3 (hbig p hp)).2.1
      intro hC oc' d1' FC NC
      repeat' (first | (k_unfold; (try dsimp only)) | walk1 | (dsimp only; walk1) | (leave1; (try dsimp only)))
      rename_i tw hD FD ND
      refine Stop.out ?_
      have hmR : (ll, listOf vs.toArray e1) ∈ rest ++ news := List.mem_append_right _ hm
      obtain ⟨wI, hwI⟩ : ∃ wI : WSt2 → Prop, ∀ c, wI c ↔ (Sim c.ps c.S ∧ gather x.dropLast c.ways c.S = gather x.dropLast (x.getLastD 0) S' ∧ (∀ p ∈ c.ps, Den false rest p.1 p.2) ∧ (∀ y ∈ c.S, y.length = xs.length + 1) ∧ c.S.length ≤ 500) := ⟨_, fun _ => Iff.rfl⟩
      obtain ⟨wD, hwD⟩ : ∃ wD : WSt2 → Prop, ∀ c, wD c ↔ (Sim c.ps c.S ∧ (c.ways, c.S) = gather x.dropLast (x.getLastD 0) S' ∧ (∀ p ∈ c.ps, Den false rest p.1 p.2) ∧ (∀ y ∈ c.S, y.length = xs.length + 1) ∧ c.S.length ≤ 500) := ⟨_, fun _ => Iff.rfl⟩
      with_unfolding_all refine my_whileM (σ := WSt2) (fun c => [(Str.ofString "ways", .int c.ways c.t), (Str.ofString "heap", .ref lh)]) (fun c => (lh, listOf (vals c.ps).toArray c.e) :: (L' + 1 + 1, oc') :: (Dg, listOf gs.toArray 0) :: (L' + 1, o2) :: (rest ++ news)) wI wD (fun c => c.S.length) ⟨hpopL ps, e + 1, x.getD ((-1 : Int) + (x.length : Int)).toNat 0, tw, S'⟩ FD ND ?_ ⟨rfl, rfl, trivial⟩ ((hwI _).mpr ⟨q4, ?_, fun p hp => P3 p (q3 p hp), fun y hy => P5 y (.tail _ hy), ?_⟩) ?_ ?_
      · intro p hp
        dsimp only at hp
        rcases List.mem_cons.mp hp with rfl | hp
        · exact .tail _ (.head _)
        rcases List.mem_cons.mp hp with rfl | hp
        · exact .head _
        · exact .tail _ (.tail _ hp)
      · dsimp only
        rw [last_at hx1]
      · dsimp only
        omega
      · rintro ⟨ps2, e2, ways, tw2, S2⟩ u2 hE tkE hP0 FE NE
        obtain ⟨R1, R2, R3, R4, R5⟩ := (hwI _).mp hP0
        clear hP0
        dsimp only at R1 R2 R3 R4 R5 FE NE
        have hpl2 := R1.length
        cases S2 with
        | nil =>
          have hp0 : ps2 = [] := List.length_eq_zero_iff.mp hpl2
          subst hp0
          repeat' (first | (k_unfold; (try dsimp only)) | walk1 | (dsimp only; walk1) | (leave1; (try dsimp only)))
          refine Stop.out ?_
          refine' it_ne_nil ?k1 ?k2 ?k3 ?k4 ?_
          case k1 => k_asm
          case k2 => k_mem
          case k3 => k_mem
          case k4 => ktr_units
          repeat' (first | (k_unfold; (try dsimp only)) | walk1 | (dsimp only; walk1) | (leave1; (try dsimp only)))
          rename_i l7 h7 F7 N7 l17
          refine wdone (⟨[], e2, ways, tw2, []⟩ : WSt2) F7 N7 (fun p hp => .tail _ hp) ⟨rfl, rfl, trivial⟩ ((hwD _).mpr ⟨R1, ?_, R3, R4, R5⟩)
          dsimp only
          rw [← R2]; rfl
        | cons y S3 =>
          rw [List.length_cons] at hpl2 R5
          have hy1 := R4 y (.head _)
          obtain ⟨z1, z2, z3, z4⟩ := R1.pop
          obtain ⟨qa, qvs, qn, f1, f2, f3⟩ := den_list (R3 _ z2)
          have f1' : (gp ps2 0).1 = .ref qa := f1
          rw [z1] at f3
          have hqK : Keep (IntsAre qvs y) := ⟨f3⟩
          have hqm : (qa, listOf qvs.toArray qn) ∈ rest ++ news := List.mem_append_left _ f2
          repeat' (first | (k_unfold; (try dsimp only)) | walk1 | (dsimp only; walk1) | (leave1; (try dsimp only)))
          refine Stop.out ?_
          refine' it_ne_nil ?k1 ?k2 ?k3 ?k4 ?_
          case k1 => k_asm
          case k2 => k_mem
          case k3 => k_mem
          case k4 => ktr_units
          simp only [show 0 < ps2.length by omega, decide_true]
          repeat' (first | (k_unfold; (try dsimp only)) | walk1 | (dsimp only; walk1) | (leave1; (try dsimp only)))
          refine Stop.out ?_
          refine' it_top (ps := ps2) (n := e2) ?k1 ?k2 rfl (by omega) f1' ?_
          case k1 => k_asm
          case k2 => k_mem
          repeat' (first | (k_unfold; (try dsimp only)) | walk1 | (dsimp only; walk1) | (leave1; (try dsimp only)))
          · rename_i l7 h7 D7 zs7 h8 F7 N7 l17 hk7 hyx
            refine Stop.out ?_
            have hneA : ∀ p ∈ (L' + 1 + 1, oc') :: (Dg, listOf gs.toArray 0) :: (L' + 1, o2) :: (rest ++ news), p.1 ≠ lh := by
              intro p hp
              rcases List.mem_cons.mp hp with rfl | hp
              · exact Nat.ne_of_lt g3
              rcases List.mem_cons.mp hp with rfl | hp
              · exact Nat.ne_of_gt (ltg _ (.head _))
              · exact hne9 p (.tail _ hp)
            refine (c_heappop prog w false lh ((L' + 1 + 1, oc') :: (Dg, listOf gs.toArray 0) :: (L' + 1, o2) :: (rest ++ news)) ps2 e2 (by omega) (by omega) hneA (fun p hp => den_mono (fun q hq => .tail _ (.tail _ (.tail _ (List.mem_append_left _ hq)))) (R3 p hp))).use B' F7 X' (fun p hp => N7 p (.tail _ (.tail _ hp))) T' rfl (by ktr_room) (by ktr_units) ?_
            rintro r9 news9 hF tkF FF NF ⟨rfl, rfl⟩
            rw [f1]
            dsimp only
            repeat' (first | (k_unfold; (try dsimp only)) | walk1 | (dsimp only; walk1) | (leave1; (try dsimp only)))
            rename_i tG hG FG NG
            refine wend (⟨hpopL ps2, e2 + 1, ways + y.getD (-1 + (y.length : Int)).toNat 0, _, S3⟩ : WSt2) FG NG (fun _ hp => hp) ⟨rfl, rfl, trivial⟩ ((hwI _).mpr ⟨z4, ?_, fun p hp => R3 p (z3 p hp), fun y hy => R4 y (.tail _ hy), ?_⟩) ?_
            · dsimp only
              rw [← R2, last_at hy1]
              conv => rhs; unfold gather
              rw [if_pos hyx]
            · dsimp only; omega
            · dsimp only; rw [List.length_cons]; exact Nat.lt_succ_self _
          · rename_i l7 h7 D7 zs7 h8 F7 N7 l17 hk7 hyx
            refine wdone (⟨ps2, e2, ways, tw2, y :: S3⟩ : WSt2) F7 N7 (fun p hp => .tail _ (.tail _ hp)) ⟨rfl, rfl, trivial⟩ ((hwD _).mpr ⟨R1, ?_, R3, R4, R5⟩)
            dsimp only
            rw [← R2]
            unfold gather
            rw [if_neg hyx]
      · rintro ⟨ps2, e2, ways, tw2, S2⟩ u2 hE tkE hP0 FE NE
        obtain ⟨R1, R2, R3, R4, R5⟩ := (hwD _).mp hP0
        clear hP0
        dsimp only at R1 R2 R3 R4 R5 FE NE
        repeat' (first | (k_unfold; (try dsimp only)) | walk1 | (dsimp only; walk1) | (leave1; (try dsimp only)))
        · rename_i hxx
          rw [if_pos hxx] at P2
          have hW : ways = W := by
            have := Option.some.inj P2
            rw [← R2] at this; exact this
          unfold WPost
          dsimp only
          repeat' (first | (k_unfold; (try dsimp only)) | walk1 | (dsimp only; walk1) | (leave1; (try dsimp only)))
          rename_i kF kN kT kX
          rw [hW]
          exact hret _ _ _ _ kF (fun p hp => kN p (.tail _ (.tail _ (.tail _ (.tail _ (List.mem_append_right _ hp)))))) ⟨_, rfl, rfl⟩
        · rename_i hxx
          rw [if_neg hxx, ← R2] at P2
          dsimp only at P2
          refine Stop.out ?_
          have hgl : x.dropLast.length = xs.length := by rw [List.length_dropLast]; omega
          refine compLA (by assumption) (by rfl) (by decide) (by with_unfolding_all rfl) (by with_unfolding_all rfl) (by decide) (by rfl) (by decide) (by rfl) (by rfl) (by rfl) ?_
          repeat' (first | (k_unfold; (try dsimp only)) | walk1 | (dsimp only; walk1) | (leave1; (try dsimp only)))
          refine GoL.mk (fun _ => true) (fun i => leftOf xs x.dropLast i) (by assumption) (SrcIs.up vs.length rfl (by assumption) (by assumption) (by assumption) rfl (by omega)) ?_ ?_
          · intro I2 C2 D2 j v oI2 oC2 ys2 h8 tk8 E' hj hP hT F8 N8 off ne
            obtain ⟨t8, rfl⟩ := hP
            obtain ⟨m₂, hC, hxk⟩ := hT
            refine ⟨rfl, ?_⟩
            simp only [if_true]
            repeat' (first | (k_unfold; (try dsimp only)) | walk1 | (dsimp only; walk1) | (leave1; (try dsimp only)))
            exact Back.mk F8 N8 fun _ hp => hp
          · intro Dl hl tkl lys Fl Nl hltl hlys
            dsimp only
            have hlK : Keep (IntsAre lys ((List.range xs.length).map (leftOf xs x.dropLast))) := ⟨by
              have hy := hlys
              rw [filter_true, hvl] at hy
              exact hy⟩
            clear hlys
            have hll : ((List.range xs.length).map (leftOf xs x.dropLast)).length = xs.length := by simp
            have hgg : ([0] ++ (List.range xs.length).map (leftOf xs x.dropLast)).length = xs.length + 1 := by simp
            repeat' (first | (k_unfold; (try dsimp only)) | walk1 | (dsimp only; walk1) | (leave1; (try dsimp only)))
            rename_i t6 tk6 h6 tk7 t7 t8 t9 R6 F6 N6 up6
            refine Stop.out ?_
            obtain ⟨wF, hwF⟩ : ∃ wF : Nat → WSt3 → Prop, ∀ i c, wF i c ↔ (Sim c.ps c.S ∧ c.S = pushK xs x.dropLast ways i S2 ∧ (∀ p ∈ c.ps, Den false c.rest p.1 p.2) ∧ (∀ p ∈ c.rest, p.1 ≠ lh ∧ L' + 1 + 1 < p.1) ∧ (∀ y ∈ c.S, y.length = xs.length + 1) ∧ c.S.length ≤ 500 + i) := ⟨_, fun _ _ => Iff.rfl⟩
            with_unfolding_all refine for_range (σ := WSt3) (a := 0) (b := (vs.length : Int)) (d := 1) (n := vs.length) rfl R6 (small_one (by omega) (by omega) (by omega) (by omega)) (rsz_up (by omega)) (fun _ _ => [(Str.ofString "left", .ref Dl), (Str.ofString "ways", .int ways tw2), (Str.ofString "heap", .ref lh)]) (fun c => (lh, listOf (vals c.ps).toArray c.e) :: (Dl, listOf lys.toArray lys.length) :: (L' + 1 + 1, oc') :: (Dg, listOf gs.toArray 0) :: (L' + 1, o2) :: (c.rest ++ news)) wF ⟨ps2, e2, rest, S2⟩ F6 N6 ?_ ⟨rfl, rfl, rfl, trivial⟩ ((hwF _ _).mpr ⟨R1, rfl, R3, P4, R4, R5⟩) ?_ ?_
            · intro p hp
              dsimp only at hp
              rcases List.mem_cons.mp hp with rfl | hp
              · exact .tail _ (.head _)
              rcases List.mem_cons.mp hp with rfl | hp
              · exact .head _
              · exact .tail _ (.tail _ hp)
            · intro i t c u I oI h tk hi hP hne F7 N7
              obtain ⟨ps3, e3, rest3, S3⟩ := c
              obtain ⟨T1, T2, T3, T4, T5, T6⟩ := (hwF _ _).mp hP
              clear hP
              dsimp only at T1 T2 T3 T4 T5 T6 hne F7 N7
              rw [show (0 : Int) + (i : Int) * 1 = (i : Int) by omega] at F7
              replace F7 : Fr g L' h (ovl [(Str.ofString "k", Value.int (i : Int) t), (Str.ofString "left", .ref Dl), (Str.ofString "ways", .int ways tw2), (Str.ofString "heap", .ref lh)] u) := F7
              replace N7 : News g L' h ((I, oI) :: (lh, listOf (vals ps3).toArray e3) :: (Dl, listOf lys.toArray lys.length) :: (L' + 1 + 1, oc') :: (Dg, listOf gs.toArray 0) :: (L' + 1, o2) :: (rest3 ++ news)) := N7
              have hpl3 := T1.length
              have hmR3 : (ll, listOf vs.toArray e1) ∈ rest3 ++ news := List.mem_append_right _ hm
              have m1 : (x.dropLast.take (i : Int).toNat).length = i := by rw [List.length_take]; omega
              have m2 : (x.dropLast.take (i : Int).toNat ++ [x.dropLast.getD (i : Int).toNat 0 + 1]).length = i + 1 := by rw [List.length_append, m1]; rfl
              have m3 : (x.dropLast.drop ((i : Int) + 1).toNat).length = xs.length - (i + 1) := by rw [List.length_drop]; omega
              have m4 : (x.dropLast.take (i : Int).toNat ++ [x.dropLast.getD (i : Int).toNat 0 + 1] ++ x.dropLast.drop ((i : Int) + 1).toNat).length = xs.length := by rw [List.length_append, m2, m3]; omega
              have m5 : [x.dropLast.getD (i : Int).toNat 0 + 1].length = 1 := rfl
              have m6 : [ways].length = 1 := rfl
              repeat' (first | (k_unfold; (try dsimp only)) | walk1 | (dsimp only; walk1) | (leave1; (try dsimp only)))
              · have hgt : ([0] ++ (List.range xs.length).map (leftOf xs x.dropLast)).getD (i : Int).toNat 0 < ((List.range xs.length).map (leftOf xs x.dropLast)).getD (i : Int).toNat 0 := by assumption
                rw [may_iff (by omega)] at hgt
                rename_i Dn zsn hhn FN NN ln hkn
                refine Stop.out ?_
                have b0 : lh < Dn := ln (lh, listOf (vals ps3).toArray e3) (.tail _ (.tail _ (.tail _ (.tail _ (.tail _ (.tail _ (.tail _ (.tail _ (.tail _ (.head _))))))))))
                have b1 : I < Dn := ln (I, oI) (.tail _ (.tail _ (.tail _ (.tail _ (.tail _ (.tail _ (.tail _ (.tail _ (.head _)))))))))
                have hneB : ∀ p ∈ (Dn, listOf zsn.toArray 0) :: (I, oI) :: (Dl, listOf lys.toArray lys.length) :: (L' + 1 + 1, oc') :: (Dg, listOf gs.toArray 0) :: (L' + 1, o2) :: (rest3 ++ news), p.1 ≠ lh := by
                  intro p hp
                  rcases List.mem_cons.mp hp with rfl | hp
                  · exact Nat.ne_of_gt b0
                  rcases List.mem_cons.mp hp with rfl | hp
                  · exact fun q => hne _ (.head _) q.symm
                  rcases List.mem_cons.mp hp with rfl | hp
                  · exact Nat.ne_of_gt (hltl _ (.head _))
                  rcases List.mem_cons.mp hp with rfl | hp
                  · exact Nat.ne_of_lt g3
                  rcases List.mem_cons.mp hp with rfl | hp
                  · exact Nat.ne_of_gt (ltg _ (.head _))
                  rcases List.mem_cons.mp hp with rfl | hp
                  · exact Nat.ne_of_lt (Nat.lt_trans (Nat.lt_succ_self _) g3)
                  rcases List.mem_append.mp hp with hp | hp
                  · exact (T4 p hp).1
                  · exact Nat.ne_of_lt (Nat.lt_trans (hbig p hp) hLlh)
                refine (c_heappush prog w false lh ((Dn, listOf zsn.toArray 0) :: (I, oI) :: (Dl, listOf lys.toArray lys.length) :: (L' + 1 + 1, oc') :: (Dg, listOf gs.toArray 0) :: (L' + 1, o2) :: (rest3 ++ news)) ps3 e3 (.ref Dn, up1 x.dropLast ways i) (by omega) hneB (fun p hp => den_mono (fun q hq => .tail _ (.tail _ (.tail _ (.tail _ (.tail _ (.tail _ (List.mem_append_left _ hq))))))) (T3 p hp)) ⟨Dn, zsn, 0, rfl, .head _, hkn.out⟩).use B' FN X' (fun p hp => NN p ?_) T' rfl (by ktr_room) (by ktr_units) ?_
                · rcases List.mem_cons.mp hp with rfl | hp
                  · exact .tail _ (.tail _ (.tail _ (.tail _ (.tail _ (.tail _ (.tail _ (.tail _ (.tail _ (.tail _ (.head _))))))))))
                  rcases List.mem_cons.mp hp with rfl | hp
                  · exact .head _
                  rcases List.mem_cons.mp hp with rfl | hp
                  · exact .tail _ (.tail _ (.tail _ (.tail _ (.tail _ (.tail _ (.tail _ (.tail _ (.tail _ (.head _)))))))))
                  · exact .tail _ (.tail _ (.tail _ (.tail _ (.tail _ (.tail _ (.tail _ (.tail _ (.tail _ (.tail _ (.tail _ hp))))))))))
                rintro r9 news9 hF tkF FF NF ⟨rfl, rfl⟩
                dsimp only
                repeat' (first | (k_unfold; (try dsimp only)) | walk1 | (dsimp only; walk1) | (leave1; (try dsimp only)))
                refine fend (⟨hpush ps3 (.ref Dn, up1 x.dropLast ways i), e3 + 1, (Dn, listOf zsn.toArray 0) :: rest3, ins (up1 x.dropLast ways i) S3⟩ : WSt3) FF NF ?_ ?_ ?_ ⟨rfl, rfl, rfl, trivial⟩ ((hwF _ _).mpr ⟨T1.push _, ?_, ?_, ?_, ?_, ?_⟩)
                · intro p hp; rw [List.mem_singleton.mp hp]; exact .tail _ (.tail _ (.head _))
                · intro p hp
                  dsimp only at hp
                  rcases List.mem_cons.mp hp with rfl | hp
                  · exact .head _
                  rcases List.mem_cons.mp hp with rfl | hp
                  · exact .tail _ (.tail _ (.tail _ (.head _)))
                  rcases List.mem_cons.mp hp with rfl | hp
                  · exact .tail _ (.tail _ (.tail _ (.tail _ (.head _))))
                  rcases List.mem_cons.mp hp with rfl | hp
                  · exact .tail _ (.tail _ (.tail _ (.tail _ (.tail _ (.head _)))))
                  rcases List.mem_cons.mp hp with rfl | hp
                  · exact .tail _ (.tail _ (.tail _ (.tail _ (.tail _ (.tail _ (.head _))))))
                  rcases List.mem_cons.mp hp with rfl | hp
                  · exact .tail _ (.head _)
                  · exact .tail _ (.tail _ (.tail _ (.tail _ (.tail _ (.tail _ (.tail _ hp))))))
                · intro p hp
                  dsimp only at hp
                  rcases List.mem_cons.mp hp with rfl | hp
                  · exact hne (lh, listOf (vals ps3).toArray e3) (.head _)
                  rcases List.mem_cons.mp hp with rfl | hp
                  · exact hne _ (.tail _ (.head _))
                  rcases List.mem_cons.mp hp with rfl | hp
                  · exact hne _ (.tail _ (.tail _ (.head _)))
                  rcases List.mem_cons.mp hp with rfl | hp
                  · exact hne _ (.tail _ (.tail _ (.tail _ (.head _))))
                  rcases List.mem_cons.mp hp with rfl | hp
                  · exact hne _ (.tail _ (.tail _ (.tail _ (.tail _ (.head _)))))
                  rcases List.mem_cons.mp hp with rfl | hp
                  · exact Nat.ne_of_gt b1
                  · exact hne _ (.tail _ (.tail _ (.tail _ (.tail _ (.tail _ hp)))))
                · dsimp only
                  unfold pushK
                  rw [if_pos hgt, ← T2]
                · intro p hp
                  dsimp only at hp ⊢
                  rcases List.mem_cons.mp ((hpush_perm _ _).mem_iff.mp hp) with rfl | hp
                  · exact ⟨Dn, zsn, 0, rfl, .head _, hkn.out⟩
                  · exact den_mono (fun q hq => .tail _ hq) (T3 p hp)
                · intro p hp
                  dsimp only at hp
                  rcases List.mem_cons.mp hp with rfl | hp
                  · exact ⟨Nat.ne_of_gt b0, Nat.lt_trans g3 b0⟩
                  · exact T4 p hp
                · intro y hy
                  dsimp only at hy
                  rcases List.mem_cons.mp ((ins_perm _ _).mem_iff.mp hy) with rfl | hy
                  · show (x.dropLast.take (i : Int).toNat ++ [x.dropLast.getD (i : Int).toNat 0 + 1] ++ x.dropLast.drop ((i : Int) + 1).toNat ++ [ways]).length = _
                    rw [List.length_append, m4]; rfl
                  · exact T5 y hy
                · dsimp only
                  rw [(ins_perm _ _).length_eq, List.length_cons]
                  omega
              · have hgt : ¬ ([0] ++ (List.range xs.length).map (leftOf xs x.dropLast)).getD (i : Int).toNat 0 < ((List.range xs.length).map (leftOf xs x.dropLast)).getD (i : Int).toNat 0 := by assumption
                rw [may_iff (by omega)] at hgt
                (rename Fr _ _ _ _ => FN); (rename News _ _ _ _ => NN)
                refine fend (⟨ps3, e3, rest3, S3⟩ : WSt3) FN NN ?_ (fun p hp => .tail _ (.tail _ (.tail _ hp))) hne ⟨rfl, rfl, rfl, trivial⟩ ((hwF _ _).mpr ⟨T1, ?_, T3, T4, T5, ?_⟩)
                · intro p hp; rw [List.mem_singleton.mp hp]; exact .tail _ (.tail _ (.head _))
                · dsimp only
                  unfold pushK
                  rw [if_neg hgt, ← T2]
                · dsimp only
                  omega
            · intro c u h tk hP F7 N7
              obtain ⟨ps3, e3, rest3, S3⟩ := c
              obtain ⟨T1, T2, T3, T4, T5, T6⟩ := (hwF _ _).mp hP
              clear hP
              dsimp only at T1 T2 T3 T4 T5 T6 F7 N7
              dsimp only
              repeat' (first | (k_unfold; (try dsimp only)) | walk1 | (dsimp only; walk1) | (leave1; (try dsimp only)))
              refine wend (⟨ps3, e3, rest3, oc', S3, f'⟩ : WSt) F7 N7 ?_ ⟨rfl, trivial⟩ ((hwP _).mpr ⟨T1, ?_, T3, T4, T5, _, d1'⟩) (Nat.lt_succ_self _)
              · intro p hp
                dsimp only at hp
                rcases List.mem_cons.mp hp with rfl | hp
                · exact .head _
                rcases List.mem_cons.mp hp with rfl | hp
                · exact .tail _ (.tail _ (.head _))
                · exact .tail _ (.tail _ (.tail _ (.tail _ hp)))
              · dsimp only
                rw [T2, hvl]; exact P2
end Mj
end MjWays

section MjLaws
theorem Mj.freshMjLaws : True := by (w_top off; trivial)
namespace Mj
/-! plain laws of the rungs -/
theorem int_lg (a b : Int) : a < b ∨ b ≤ a := by omega
theorem asc_ext : ∀ {a b : List Int}, a.Pairwise (· < ·) → b.Pairwise (· < ·) → (∀ x, x ∈ a ↔ x ∈ b) → a = b
  | [], [], _, _, _ => rfl
  | [], y :: _, _, _, h => absurd ((h y).mpr (.head _)) List.not_mem_nil
  | x :: _, [], _, _, h => absurd ((h x).mp (.head _)) List.not_mem_nil
  | x :: a, y :: b, ha, hb, h => by
    have ha' := List.pairwise_cons.mp ha
    have hb' := List.pairwise_cons.mp hb
    have hxy : x = y := by
      have h1 := (h x).mp (.head _)
      have h2 := (h y).mpr (.head _)
      rcases List.mem_cons.mp h1 with e | h1
      · exact e
      rcases List.mem_cons.mp h2 with e | h2
      · exact e.symm
      have := ha'.1 _ h2
      have := hb'.1 _ h1
      omega
    subst hxy
    rw [asc_ext ha'.2 hb'.2 fun z => ?_]
    constructor
    · intro hz
      rcases List.mem_cons.mp ((h z).mp (.tail _ hz)) with e | e
      · have := ha'.1 _ hz; omega
      · exact e
    · intro hz
      rcases List.mem_cons.mp ((h z).mpr (.tail _ hz)) with e | e
      · have := hb'.1 _ hz; omega
      · exact e

/-- how many of the first n rows are no longer than c -/
def cnt (xs : List Int) (n : Nat) (c : Int) : Nat := ((List.range n).filter fun j => decide (xs.getD j 0 ≤ c)).length
theorem cnt_succ (xs : List Int) (n : Nat) (c : Int) : cnt xs (n + 1) c = cnt xs n c + if xs.getD n 0 ≤ c then 1 else 0 := by
  unfold cnt
  rw [List.range_succ, List.filter_append, List.length_append]
  by_cases h : xs.getD n 0 ≤ c
  · simp only [List.filter_cons, h, decide_true, if_true, List.filter_nil, List.length_cons, List.length_nil]
  · simp only [List.filter_cons, h, decide_false, Bool.false_eq_true, if_false, List.filter_nil, List.length_nil]
theorem cnt_le (xs : List Int) (n : Nat) (c : Int) : cnt xs n c ≤ n := by
  unfold cnt
  exact Nat.le_trans (List.length_filter_le _ _) (by simp)
theorem cnt_mono (xs : List Int) (n : Nat) {c d : Int} (h : c ≤ d) : cnt xs n c ≤ cnt xs n d := by
  induction n with
  | zero => exact Nat.le_refl _
  | succ n ih =>
    rw [cnt_succ, cnt_succ]
    split <;> split <;> omega
theorem above_cnt (xs : List Int) (n : Nat) (c : Int) : (above xs n c).length + cnt xs n c = n := by
  unfold above
  rw [List.length_map]
  induction n with
  | zero => rfl
  | succ n ih =>
    rw [cnt_succ, List.range_succ, List.filter_append, List.length_append]
    by_cases h : xs.getD n 0 ≤ c
    · have h2 : ¬ xs.getD n 0 > c := by omega
      rw [if_pos h]
      simp only [List.filter_cons, h2, decide_false, Bool.false_eq_true, if_false, List.filter_nil, List.length_nil]
      omega
    · have h2 : xs.getD n 0 > c := by omega
      rw [if_neg h]
      simp only [List.filter_cons, h2, decide_true, if_true, List.filter_nil, List.length_cons, List.length_nil]
      omega
/-- the count of a sorted list is a place -/
theorem cnt_iff {xs : List Int} (hs : xs.Pairwise (· ≤ ·)) (c : Int) : ∀ {n : Nat}, n ≤ xs.length → ∀ {j : Nat}, j < n → (xs.getD j 0 ≤ c ↔ j < cnt xs n c) := by
  intro n
  induction n with
  | zero => intro _ j h; omega
  | succ n ih =>
    intro hn j hj
    have hc := cnt_le xs n c
    have ih' := @ih (by omega)
    rw [cnt_succ]
    by_cases h : xs.getD n 0 ≤ c
    · rw [if_pos h]
      -- all are no longer
      have all : ∀ i, i < n → xs.getD i 0 ≤ c := fun i hi => Int.le_trans (getD_le hs hi (by omega)) h
      have hcn : cnt xs n c = n := by
        cases n with
        | zero => omega
        | succ k =>
          have := (ih' (Nat.lt_succ_self k)).mp (all k (Nat.lt_succ_self k))
          omega
      constructor
      · intro _; omega
      · intro _
        by_cases e : j = n
        · rw [e]; exact h
        · exact all j (by omega)
    · rw [if_neg h, Nat.add_zero]
      by_cases e : j = n
      · subst e
        constructor
        · intro q; exact absurd q h
        · intro q; omega
      · exact ih' (by omega)

/-- the place that a length leaves free (Lambek, Moser) -/
def freeAt (xs : List Int) (n : Nat) (c : Int) : Int := c + (cnt xs n c : Int)
theorem free_lt (xs : List Int) (n : Nat) {c d : Int} (h : c < d) : freeAt xs n c < freeAt xs n d := by
  have := cnt_mono xs n (Int.le_of_lt h)
  unfold freeAt; omega
theorem free_inj {xs : List Int} {n : Nat} {c d : Int} (h : freeAt xs n c = freeAt xs n d) : c = d := by
  rcases Int.lt_trichotomy c d with h1 | h1 | h1
  · have := free_lt xs n h1; omega
  · exact h1
  · have := free_lt xs n h1; omega
theorem free_not {xs : List Int} (hs : xs.Pairwise (· ≤ ·)) {n : Nat} (hn : n ≤ xs.length) (c : Int) {j : Nat} (hj : j < n) : rung xs j ≠ freeAt xs n c := by
  have h := cnt_iff hs c hn hj
  unfold rung freeAt
  by_cases q : xs.getD j 0 ≤ c
  · have := h.mp q; omega
  · have : ¬ j < cnt xs n c := fun z => q (h.mpr z)
    omega
/-- how many rungs are below x -/
def rcnt (xs : List Int) (n : Nat) (x : Int) : Nat := ((List.range n).filter fun j => decide (rung xs j < x)).length
theorem rcnt_succ (xs : List Int) (n : Nat) (x : Int) : rcnt xs (n + 1) x = rcnt xs n x + if rung xs n < x then 1 else 0 := by
  unfold rcnt
  rw [List.range_succ, List.filter_append, List.length_append]
  congr 1
  by_cases h : rung xs n < x <;> simp [h]
theorem rcnt_le (xs : List Int) (n : Nat) (c : Int) : rcnt xs n c ≤ n := by
  unfold rcnt
  exact Nat.le_trans (List.length_filter_le _ _) (by simp)
theorem rcnt_iff {xs : List Int} (hs : xs.Pairwise (· ≤ ·)) (x : Int) : ∀ {n : Nat}, n ≤ xs.length → ∀ {j : Nat}, j < n → (rung xs j < x ↔ j < rcnt xs n x) := by
  intro n
  induction n with
  | zero => intro _ j h; omega
  | succ n ih =>
    intro hn j hj
    have hc := rcnt_le xs n x
    have ih' := @ih (by omega)
    rw [rcnt_succ]
    by_cases h : rung xs n < x
    · rw [if_pos h]
      have all : ∀ i, i < n → rung xs i < x := fun i hi => Int.lt_trans (rung_lt hs hi (by omega)) h
      have hcn : rcnt xs n x = n := by
        cases n with
        | zero => omega
        | succ k =>
          have := (ih' (Nat.lt_succ_self k)).mp (all k (Nat.lt_succ_self k))
          omega
      constructor
      · intro _; omega
      · intro _
        by_cases e : j = n
        · rw [e]; exact h
        · exact all j (by omega)
    · rw [if_neg h, Nat.add_zero]
      by_cases e : j = n
      · subst e
        constructor
        · intro q; exact absurd q h
        · intro q; omega
      · exact ih' (by omega)
theorem rung_gap {xs : List Int} (hs : xs.Pairwise (· ≤ ·)) {i j : Nat} (hij : i ≤ j) (hj : j < xs.length) : rung xs i + ((j : Int) - i) ≤ rung xs j := by
  rcases Nat.lt_or_ge i j with h | h
  · have := getD_le hs h hj
    unfold rung; omega
  · have : i = j := by omega
    subst this; omega
/-- what is no rung is free, for one length -/
theorem free_of {xs : List Int} (hs : xs.Pairwise (· ≤ ·)) (hx : ∀ x ∈ xs, 0 ≤ x) {n : Nat} (hn : n ≤ xs.length) {x : Int} (h0 : 0 ≤ x) (hno : ∀ j, j < n → rung xs j ≠ x) : ∃ c, 0 ≤ c ∧ freeAt xs n c = x := by
  have hnn : ∀ j, 0 ≤ xs.getD j 0 := fun j => by
    rw [List.getD_eq_getElem?_getD]
    cases h : xs[j]? with
    | none => exact Int.le_refl _
    | some v => exact hx v (List.mem_of_getElem? h)
  have hr := rcnt_le xs n x
  have hc : cnt xs n (x - (rcnt xs n x : Int)) = rcnt xs n x := by
    have a := cnt_le xs n (x - (rcnt xs n x : Int))
    -- neither way round
    rcases Nat.lt_trichotomy (cnt xs n (x - (rcnt xs n x : Int))) (rcnt xs n x) with h | h | h
    · exfalso
      -- the row at cnt is longer, yet its rung is below x
      have h1 : ¬ xs.getD (cnt xs n (x - (rcnt xs n x : Int))) 0 ≤ x - (rcnt xs n x : Int) := fun q => Nat.lt_irrefl _ ((cnt_iff hs _ hn (by omega)).mp q)
      have h2 := (rcnt_iff hs x hn (j := rcnt xs n x - 1) (by omega)).mpr (by omega)
      have h3 := rung_gap hs (i := cnt xs n (x - (rcnt xs n x : Int))) (j := rcnt xs n x - 1) (by omega) (by omega)
      have h4 : rung xs (cnt xs n (x - (rcnt xs n x : Int))) = xs.getD (cnt xs n (x - (rcnt xs n x : Int))) 0 + (cnt xs n (x - (rcnt xs n x : Int)) : Int) := rfl
      omega
    · exact h
    · exfalso
      have h1 := (cnt_iff hs (x - (rcnt xs n x : Int)) hn (j := rcnt xs n x) (by omega)).mpr h
      have h2 : ¬ rung xs (rcnt xs n x) < x := fun q => Nat.lt_irrefl _ ((rcnt_iff hs x hn (by omega)).mp q)
      have h3 := hno (rcnt xs n x) (by omega)
      have h4 : rung xs (rcnt xs n x) = xs.getD (rcnt xs n x) 0 + (rcnt xs n x : Int) := rfl
      omega
  refine ⟨x - (rcnt xs n x : Int), ?_, ?_⟩
  · by_cases e : rcnt xs n x = 0
    · omega
    · have h1 := (cnt_iff hs (x - (rcnt xs n x : Int)) hn (j := 0) (by omega)).mpr (by omega)
      have := hnn 0
      omega
  · unfold freeAt
    rw [hc]; omega
theorem mem_upFrom {a x : Int} {n : Nat} : x ∈ upFrom a n ↔ a ≤ x ∧ x < a + n := by
  unfold upFrom
  rw [List.mem_map]
  constructor
  · rintro ⟨i, hi, rfl⟩
    have := List.mem_range.mp hi
    omega
  · rintro ⟨h1, h2⟩
    exact ⟨(x - a).toNat, List.mem_range.mpr (by omega), by omega⟩
theorem mem_rungs {xs : List Int} {x : Int} : x ∈ rungs xs ↔ ∃ j, j < xs.length ∧ rung xs j = x := by
  unfold rungs
  rw [List.mem_map]
  constructor
  · rintro ⟨i, hi, rfl⟩; exact ⟨i, List.mem_range.mp hi, rfl⟩
  · rintro ⟨i, hi, rfl⟩; exact ⟨i, List.mem_range.mpr hi, rfl⟩
theorem rungs_asc {xs : List Int} (hs : xs.Pairwise (· ≤ ·)) : (rungs xs).Pairwise (· < ·) := by
  unfold rungs
  rw [List.pairwise_map]
  refine List.Pairwise.imp_of_mem ?_ (List.pairwise_lt_range (n := xs.length))
  intro i j _ hj h
  exact rung_lt hs h (List.mem_range.mp hj)
theorem nonneg_getD {xs : List Int} (hx : ∀ x ∈ xs, 0 ≤ x) (j : Nat) : 0 ≤ xs.getD j 0 := by
  rw [List.getD_eq_getElem?_getD]
  cases h : xs[j]? with
  | none => exact Int.le_refl _
  | some v => exact hx v (List.mem_of_getElem? h)
/-- a free place is below the next rung just when its length is below the next row's -/
theorem free_next {xs : List Int} (hs : xs.Pairwise (· ≤ ·)) {k : Nat} (hk : k < xs.length) (c : Int) : freeAt xs k c < rung xs k ↔ c < xs.getD k 0 := by
  unfold freeAt rung
  have h1 := cnt_le xs k c
  constructor
  · intro h
    rcases int_lg c (xs.getD k 0) with h2 | h2
    · exact h2
    · exfalso
      have : cnt xs k c = k := by
        cases k with
        | zero => omega
        | succ i =>
          have h3 := getD_le hs (show i < i + 1 by omega) hk
          have := (cnt_iff hs c (n := i + 1) (by omega) (j := i) (by omega)).mp (by omega)
          omega
      omega
  · intro h; omega

/-- Macdonald -/
theorem told_hooks {xs : List Int} (hs : xs.Pairwise (· ≤ ·)) (hx : ∀ x ∈ xs, 0 ≤ x) {k : Nat} (hk : k < xs.length) : told1 xs k = hooks1 xs k := by
  have hnn := nonneg_getD hx
  have hrk : 0 ≤ rung xs k := by have := hnn k; unfold rung; omega
  have memL : ∀ {y : Int}, y ∈ lowerL xs k ↔ ∃ j, j < k ∧ rung xs k - rung xs j = y := by
    intro y
    unfold lowerL
    rw [List.mem_map]
    constructor
    · rintro ⟨i, hi, rfl⟩
      have := List.mem_range.mp hi
      exact ⟨k - 1 - i, by omega, rfl⟩
    · rintro ⟨j, hj, rfl⟩
      refine ⟨k - 1 - j, List.mem_range.mpr (by omega), ?_⟩
      rw [show k - 1 - (k - 1 - j) = j by omega]
  unfold told1 hooks1
  refine Prod.ext ?_ ?_
  · refine asc_ext ((up_asc _ _).filter _) ?_ fun y => ?_
    · rw [List.pairwise_map]
      refine List.pairwise_lt_range.imp ?_
      intro i j hij
      have a1 := above_cnt xs k (xs.getD k 0 - 1 - (i : Int))
      have a2 := above_cnt xs k (xs.getD k 0 - 1 - (j : Int))
      have a3 := free_lt xs k (c := xs.getD k 0 - 1 - (j : Int)) (d := xs.getD k 0 - 1 - (i : Int)) (by omega)
      unfold freeAt at a3
      unfold hook
      omega
    · rw [List.mem_filter, mem_upFrom, List.mem_map]
      simp only [Bool.not_eq_true', List.contains_eq_mem, decide_eq_false_iff_not, memL]
      constructor
      · rintro ⟨⟨h1, h2⟩, h3⟩
        obtain ⟨c, hc0, hc⟩ := free_of hs hx (n := k) (by omega) (x := rung xs k - y) (by omega) (fun j hj q => h3 ⟨j, hj, by omega⟩)
        have hcl := (free_next hs hk c).mp (by omega)
        have a1 := above_cnt xs k c
        refine ⟨(xs.getD k 0 - 1 - c).toNat, List.mem_range.mpr (by omega), ?_⟩
        have e : xs.getD k 0 - 1 - ((xs.getD k 0 - 1 - c).toNat : Int) = c := by omega
        unfold hook
        rw [e]
        unfold freeAt at hc
        have e2 : rung xs k = xs.getD k 0 + k := rfl
        omega
      · rintro ⟨i, hi, rfl⟩
        have hi' := List.mem_range.mp hi
        have a1 := above_cnt xs k (xs.getD k 0 - 1 - (i : Int))
        have e2 : rung xs k = xs.getD k 0 + k := rfl
        have eh : hook xs k i = rung xs k - freeAt xs k (xs.getD k 0 - 1 - (i : Int)) := by
          unfold hook freeAt; omega
        have hlt := (free_next hs hk (xs.getD k 0 - 1 - (i : Int))).mpr (by omega)
        have hge : 0 ≤ freeAt xs k (xs.getD k 0 - 1 - (i : Int)) := by unfold freeAt; omega
        refine ⟨⟨by omega, by omega⟩, ?_⟩
        rintro ⟨j, hj, q⟩
        exact free_not hs (n := k) (by omega) (xs.getD k 0 - 1 - (i : Int)) hj (by omega)
  · show List.filter _ _ = []
    rw [List.filter_eq_nil_iff]
    intro y hy
    obtain ⟨j, hj, rfl⟩ := memL.mp hy
    have h1 := rung_lt hs hj hk
    have h2 := hnn j
    have h3 : rung xs j = xs.getD j 0 + j := rfl
    simp only [Bool.not_eq_true', List.contains_eq_mem, decide_eq_false_iff_not, Classical.not_not, mem_upFrom]
    omega
theorem told_hooks_all {xs : List Int} (hs : xs.Pairwise (· ≤ ·)) (hx : ∀ x ∈ xs, 0 ≤ x) : (List.range xs.length).map (told1 xs) = (List.range xs.length).map (hooks1 xs) :=
  List.map_congr_left fun _ hk => told_hooks hs hx (List.mem_range.mp hk)

/-- the last row -/
def lastR (xs : List Int) : Int := xs.getD (xs.length - 1) 0
theorem le_last {xs : List Int} (hs : xs.Pairwise (· ≤ ·)) {j : Nat} (hj : j < xs.length) : xs.getD j 0 ≤ lastR xs := by
  unfold lastR
  rcases Nat.lt_or_ge j (xs.length - 1) with h | h
  · exact getD_le hs h (by omega)
  · rw [show j = xs.length - 1 by omega]; exact Int.le_refl _
def frees (xs : List Int) : List Int := (List.range (lastR xs).toNat).map fun (c : Nat) => freeAt xs xs.length (c : Int)
/-- Lambek, Moser -/
theorem lambek {xs : List Int} (hs : xs.Pairwise (· ≤ ·)) (hx : ∀ x ∈ xs, 0 ≤ x) (hpos : 0 < xs.length) :
    (upFrom 0 ((xs.length : Int) + lastR xs).toNat).filter (fun x => !(rungs xs).contains x) = frees xs ∧ (rungs xs).filter (fun x => !(upFrom 0 ((xs.length : Int) + lastR xs).toNat).contains x) = [] := by
  have hnn := nonneg_getD hx
  have hl0 : 0 ≤ lastR xs := hnn _
  constructor
  · refine asc_ext ((up_asc _ _).filter _) ?_ fun y => ?_
    · unfold frees
      rw [List.pairwise_map]
      refine List.pairwise_lt_range.imp ?_
      intro i j hij
      exact free_lt _ _ (by omega)
    · unfold frees
      rw [List.mem_filter, mem_upFrom, List.mem_map]
      simp only [Bool.not_eq_true', List.contains_eq_mem, decide_eq_false_iff_not, mem_rungs]
      constructor
      · rintro ⟨⟨h1, h2⟩, h3⟩
        obtain ⟨c, hc0, hc⟩ := free_of hs hx (n := xs.length) (Nat.le_refl _) (x := y) h1 (fun j hj q => h3 ⟨j, hj, q⟩)
        have hcl : c < lastR xs := by
          rcases int_lg c (lastR xs) with h | h
          · exact h
          · exfalso
            have := (cnt_iff hs c (Nat.le_refl _) (j := xs.length - 1) (by omega)).mp h
            have := cnt_le xs xs.length c
            unfold freeAt at hc
            omega
        refine ⟨c.toNat, List.mem_range.mpr (by omega), ?_⟩
        rw [show (c.toNat : Int) = c by omega]; exact hc
      · rintro ⟨i, hi, rfl⟩
        have hi' := List.mem_range.mp hi
        have := cnt_le xs xs.length (i : Int)
        refine ⟨⟨by unfold freeAt; omega, by unfold freeAt; omega⟩, ?_⟩
        rintro ⟨j, hj, q⟩
        exact free_not hs (Nat.le_refl _) (i : Int) hj q
  · rw [List.filter_eq_nil_iff]
    intro y hy
    obtain ⟨j, hj, rfl⟩ := mem_rungs.mp hy
    have h1 := le_last hs hj
    have h2 := hnn j
    have h3 : rung xs j = xs.getD j 0 + j := rfl
    simp only [Bool.not_eq_true', List.contains_eq_mem, decide_eq_false_iff_not, Classical.not_not, mem_upFrom]
    omega

/-- the diagonal's places -/
def square (xs : List Int) : List Nat := (List.range xs.length).filter fun i => decide (xs.getD (xs.length - 1 - i) 0 > (i : Int))
theorem mem_square {xs : List Int} {i : Nat} : i ∈ square xs ↔ i < xs.length ∧ xs.getD (xs.length - 1 - i) 0 > (i : Int) := by
  unfold square
  rw [List.mem_filter, List.mem_range, decide_eq_true_eq]
theorem square_asc (xs : List Int) : (square xs).Pairwise (· < ·) := List.pairwise_lt_range.filter _
def arms (xs : List Int) : List Int := (square xs).reverse.map fun i => rung xs (xs.length - 1 - i)
def legs (xs : List Int) : List Int := (square xs).map fun (i : Nat) => freeAt xs xs.length (i : Int)
/-- Frobenius -/
theorem frobenius {xs : List Int} (hs : xs.Pairwise (· ≤ ·)) (hx : ∀ x ∈ xs, 0 ≤ x) :
    (rungs xs).filter (fun x => !(upFrom 0 xs.length).contains x) = arms xs ∧ (upFrom 0 xs.length).filter (fun x => !(rungs xs).contains x) = legs xs := by
  have hnn := nonneg_getD hx
  constructor
  · refine asc_ext ((rungs_asc hs).filter _) ?_ fun y => ?_
    · unfold arms
      rw [List.pairwise_map, List.pairwise_reverse]
      refine List.Pairwise.imp_of_mem ?_ (square_asc xs)
      intro i j hi hj hij
      have h1 := (mem_square.mp hi).1
      have h2 := (mem_square.mp hj).1
      exact rung_lt hs (by omega) (by omega)
    · unfold arms
      rw [List.mem_filter, List.mem_map]
      simp only [Bool.not_eq_true', List.contains_eq_mem, decide_eq_false_iff_not, mem_rungs, mem_upFrom, List.mem_reverse, mem_square]
      constructor
      · rintro ⟨⟨j, hj, rfl⟩, h2⟩
        have h3 : rung xs j = xs.getD j 0 + j := rfl
        have := hnn j
        refine ⟨xs.length - 1 - j, ⟨by omega, ?_⟩, ?_⟩
        · rw [show xs.length - 1 - (xs.length - 1 - j) = j by omega]; omega
        · rw [show xs.length - 1 - (xs.length - 1 - j) = j by omega]
      · rintro ⟨i, ⟨h1, h2⟩, rfl⟩
        refine ⟨⟨xs.length - 1 - i, by omega, rfl⟩, ?_⟩
        have h3 : rung xs (xs.length - 1 - i) = xs.getD (xs.length - 1 - i) 0 + ((xs.length - 1 - i : Nat) : Int) := rfl
        omega
  · refine asc_ext ((up_asc _ _).filter _) ?_ fun y => ?_
    · unfold legs
      rw [List.pairwise_map]
      refine (square_asc xs).imp ?_
      intro i j hij
      exact free_lt _ _ (by omega)
    · unfold legs
      rw [List.mem_filter, mem_upFrom, List.mem_map]
      simp only [Bool.not_eq_true', List.contains_eq_mem, decide_eq_false_iff_not, mem_rungs, mem_square]
      constructor
      · rintro ⟨⟨h1, h2⟩, h3⟩
        obtain ⟨c, hc0, hc⟩ := free_of hs hx (n := xs.length) (Nat.le_refl _) (x := y) h1 (fun j hj q => h3 ⟨j, hj, q⟩)
        have hcl : xs.getD (xs.length - 1 - c.toNat) 0 > c := by
          have hcn := cnt_le xs xs.length c
          rcases int_lg c (xs.getD (xs.length - 1 - c.toNat) 0) with h | h
          · exact h
          · exfalso
            have := (cnt_iff hs c (Nat.le_refl _) (j := xs.length - 1 - c.toNat) (by unfold freeAt at hc; omega)).mp h
            unfold freeAt at hc
            omega
        refine ⟨c.toNat, ⟨by unfold freeAt at hc; omega, ?_⟩, ?_⟩
        · rw [show (c.toNat : Int) = c by omega]; exact hcl
        · rw [show (c.toNat : Int) = c by omega]; exact hc
      · rintro ⟨i, ⟨hi, hi2⟩, rfl⟩
        have hcn := cnt_le xs xs.length (i : Int)
        have hlt : cnt xs xs.length (i : Int) ≤ xs.length - 1 - i := by
          rcases Nat.lt_or_ge (xs.length - 1 - i) (cnt xs xs.length (i : Int)) with h | h
          · have := (cnt_iff hs (i : Int) (Nat.le_refl _) (j := xs.length - 1 - i) (by omega)).mpr h
            omega
          · exact h
        refine ⟨⟨by unfold freeAt; omega, by unfold freeAt; omega⟩, ?_⟩
        rintro ⟨j, hj, q⟩
        exact free_not hs (Nat.le_refl _) (i : Int) hj q
/-- the legs as they are asked -/
theorem legs_as {xs : List Int} (hs : xs.Pairwise (· ≤ ·)) {i : Nat} (hi : i ∈ square xs) : (xs.length : Int) - 1 - ((above xs (xs.length - 1 - i) (i : Int)).length : Int) = freeAt xs xs.length (i : Int) := by
  obtain ⟨h1, h2⟩ := mem_square.mp hi
  have a := above_cnt xs (xs.length - 1 - i) (i : Int)
  have e : cnt xs xs.length (i : Int) = cnt xs (xs.length - 1 - i) (i : Int) := by
    have hcn := cnt_le xs xs.length (i : Int)
    have hcm := cnt_le xs (xs.length - 1 - i) (i : Int)
    rcases Nat.lt_trichotomy (cnt xs xs.length (i : Int)) (cnt xs (xs.length - 1 - i) (i : Int)) with h | h | h
    · have h3 := (cnt_iff hs (i : Int) (n := xs.length - 1 - i) (by omega) (j := cnt xs xs.length (i : Int)) (by omega)).mpr h
      have h4 := (cnt_iff hs (i : Int) (Nat.le_refl _) (j := cnt xs xs.length (i : Int)) (by omega)).mp h3
      omega
    · exact h
    · rcases Nat.lt_or_ge (cnt xs (xs.length - 1 - i) (i : Int)) (xs.length - 1 - i) with h5 | h5
      · have h3 := (cnt_iff hs (i : Int) (Nat.le_refl _) (j := cnt xs (xs.length - 1 - i) (i : Int)) (by omega)).mpr h
        have h4 := (cnt_iff hs (i : Int) (n := xs.length - 1 - i) (by omega) h5).mp h3
        omega
      · have h6 : cnt xs (xs.length - 1 - i) (i : Int) = xs.length - 1 - i := by omega
        rw [h6] at h
        have := (cnt_iff hs (i : Int) (Nat.le_refl _) (j := xs.length - 1 - i) (by omega)).mpr h
        omega
  unfold freeAt
  omega
end Mj
end MjLaws

section MjEq
theorem Mj.freshMjEq : True := by (w_top off; trivial)
open PySem PySem.W PyProof.Rows PySem.Spec PySem.Calls
open PySem.SeqAt
namespace Mj
section
variable {A : Around} {s : Shared} {h₀ : Heap} {L : Addr}
theorem all_true (n : Nat) : (List.range n).all (fun _ => true) = true := by simp
theorem eq_ints_at {a b : Addr} {xs ys : List Value} {ns : List Int} (ha : s.heap.IsList a xs.toArray) (hb : s.heap.IsList b ys.toArray) (hi : IntsAre xs ns) (hj : IntsAre ys ns) (hu : A.units < cLine) : EqAt A s (.ref a) (.ref b) true := by
  by_cases e : a = b
  · rw [e]; exact EqAt.same _
  · have l1 := hi.length
    have l2 := hj.length
    have := RcAt.lists (e := fun _ => true) ha hb (by rw [List.size_toArray, List.size_toArray]; omega) hu (fun j h1 h2 => by
      have h1' : j < xs.length := by simpa using h1
      have h2' : j < ys.length := by simpa using h2
      obtain ⟨y, t, e1, k1⟩ := IntsAre.at hi j _ (List.getElem?_eq_getElem h1')
      obtain ⟨y', t', e2, k2⟩ := IntsAre.at hj j _ (List.getElem?_eq_getElem h2')
      have ey : y = y' := by rw [k1] at k2; exact Option.some.inj k2
      have e1' : xs.toArray[j] = .int y t := by simpa using e1
      have e2' : ys.toArray[j] = .int y' t' := by simpa using e2
      rw [e1', e2', ey]
      have := EqAt.int_int (A := A.in1) (s := s) y' t y' t'
      rw [beq_self_eq_true] at this
      exact this)
    rw [all_true] at this
    exact EqAt.of_refs e this
theorem eq_pair_at {news : Led} {v v' : Value} {q : List Int × List Int} (N : News h₀ L s.heap news) (hv : PairAt news v q) (hv' : PairAt news v' q) (hu : A.units + 64 < cLine) : EqAt A s v v' true := by
  obtain ⟨lt, lm, lu, n1, n2, ms, us, rfl, a1, a2, a3, a4, a5⟩ := hv
  obtain ⟨lt', lm', lu', n1', n2', ms', us', rfl, b1, b2, b3, b4, b5⟩ := hv'
  by_cases e : lt = lt'
  · rw [e]; exact EqAt.same _
  · have hA : A.in1.units ≤ A.units + 1 := by simp only [units_in1]; omega
    have e1 : EqAt A.in1 s (.ref lm) (.ref lm') true := eq_ints_at (PySem.IsL.isList (n := n1) (N _ a2).1) (PySem.IsL.isList (n := n1') (N _ b2).1) a4 b4 (by omega)
    have e2 : EqAt A.in1 s (.ref lu) (.ref lu') true := eq_ints_at (PySem.IsL.isList (n := n2) (N _ a3).1) (PySem.IsL.isList (n := n2') (N _ b3).1) a5 b5 (by omega)
    have := RcAt.tuples (A := A) (e := fun _ => true) (items := #[.ref lm, .ref lu]) (items2 := #[.ref lm', .ref lu']) ⟨_, (N _ a1).1, rfl, 0, rfl⟩ ⟨_, (N _ b1).1, rfl, 0, rfl⟩ (by omega) (fun j h1 h2 => by
      match j, h1, h2 with
      | 0, _, _ => exact e1
      | 1, _, _ => exact e2)
    exact EqAt.of_refs e this
theorem ne_pair {prog : Program} {w : World} {E : Value → Shared → Prop} {Q : Value → Shared → Prop} {news : Led} {v v' : Value} {q : List Int × List Int} (N : News h₀ L s.heap news) (hv : PairAt news v q) (hv' : PairAt news v' q) (hu : A.units + 64 < cLine) (h : Q (.bool false) s) :
    wpAny (model prog w) A (compareOp .NotEq v v') Q E s := by
  obtain ⟨lt, lm, lu, n1, n2, ms, us, rfl, a1, a2, a3, a4, a5⟩ := hv
  obtain ⟨lt', lm', lu', n1', n2', ms', us', rfl, b1, b2, b3, b4, b5⟩ := hv'
  have hA : A.in1.units ≤ A.units + 1 := by simp only [units_in1]; omega
  have e1 : EqAt A.in1 s (.ref lm) (.ref lm') true := eq_ints_at (PySem.IsL.isList (n := n1) (N _ a2).1) (PySem.IsL.isList (n := n1') (N _ b2).1) a4 b4 (by omega)
  have e2 : EqAt A.in1 s (.ref lu) (.ref lu') true := eq_ints_at (PySem.IsL.isList (n := n2) (N _ a3).1) (PySem.IsL.isList (n := n2') (N _ b3).1) a5 b5 (by omega)
  refine RcNeAt.tuples (A := A) (e := fun _ => true) (items := #[.ref lm, .ref lu]) (items2 := #[.ref lm', .ref lu']) ⟨_, (N _ a1).1, rfl, 0, rfl⟩ ⟨_, (N _ b1).1, rfl, 0, rfl⟩ (by omega) (fun j h1 h2 => by
    match j, h1, h2 with
    | 0, _, _ => exact e1
    | 1, _, _ => exact e2) prog w E Q h
theorem pairs_at {more : Led} : ∀ {vs : List Value} {qs : List (List Int × List Int)}, PairsAre more vs qs → vs.length = qs.length ∧ ∀ j (h1 : j < vs.length) (h2 : j < qs.length), PairAt more vs[j] qs[j]
  | [], [], _ => ⟨rfl, fun j h1 => absurd h1 (Nat.not_lt_zero _)⟩
  | [], _ :: _, x => False.elim x
  | _ :: _, [], x => False.elim x
  | v :: vs, q :: qs, x => by
    obtain ⟨a, b⟩ := pairs_at x.2
    refine ⟨by simp [a], fun j h1 h2 => ?_⟩
    cases j with
    | zero => exact x.1
    | succ j => exact b j (by simpa using h1) (by simpa using h2)
theorem ne_pairs {prog : Program} {w : World} {E : Value → Shared → Prop} {Q : Value → Shared → Prop} {news : Led} {a b : Addr} {n1 n2 : Nat} {vs us : List Value} {qs : List (List Int × List Int)} (N : News h₀ L s.heap news) (ha : (a, listOf vs.toArray n1) ∈ news) (hb : (b, listOf us.toArray n2) ∈ news) (hv : PairsAre news vs qs) (hv' : PairsAre news us qs) (hu : A.units + 128 < cLine) (h : Q (.bool false) s) :
    wpAny (model prog w) A (compareOp .NotEq (.ref a) (.ref b)) Q E s := by
  obtain ⟨l1, p1⟩ := pairs_at hv
  obtain ⟨l2, p2⟩ := pairs_at hv'
  have hA : A.in1.units ≤ A.units + 1 := by simp only [units_in1]; omega
  refine RcNeAt.lists (A := A) (e := fun _ => true) (PySem.IsL.isList (n := n1) (N _ ha).1) (PySem.IsL.isList (n := n2) (N _ hb).1) (by rw [List.size_toArray, List.size_toArray]; omega) (by omega) (fun j h1 h2 => ?_) prog w E Q (by rw [all_true]; exact h)
  have h1' : j < vs.length := by simpa using h1
  have h2' : j < us.length := by simpa using h2
  have := eq_pair_at (A := A.in1) N (p1 j h1' (by omega)) (p2 j h2' (by omega)) (by omega)
  simpa using this
end
end Mj
end MjEq

section MjLawC
theorem Mj.freshMjLawC : True := by (w_top off; trivial)
open PySem PySem.W PyProof.Rows
namespace Mj
open PyProof.Rows.TI (Frs SameUp Caller)
open PyProof.Rows.LCg (NsObj ns_obj lst lst_snoc)
theorem at_int {zs : List Value} {ds : List Int} (h : Keep (IntsAre zs ds)) {j : Nat} {v : Value} (hp : zs.toArray[j]? = some v) : ∃ t, v = .int (ds.getD j 0) t := by
  have hp' : zs[j]? = some v := by simpa using hp
  obtain ⟨y, t, e, hk⟩ := IntsAre.at h.out j v hp'
  refine ⟨t, ?_⟩
  rw [e, List.getD_eq_getElem?_getD, hk]; rfl
theorem maps_getD {ds : List Int} {n : Nat} (f : Int → Int) (hn : n = ds.length) : ((List.range n).filter fun _ => true).map (fun i => f (ds.getD i 0)) = ds.map f := by
  subst hn
  rw [filter_true]
  apply List.ext_getElem
  · simp
  · intro i h1 h2
    simp at h1
    simp [List.getD_eq_getElem?_getD, h1]
theorem sorted_same : ∀ {a b : List Int}, a.Perm b → a.Pairwise (· ≤ ·) → b.Pairwise (· ≤ ·) → a = b := by
  intro a b hp ha hb
  exact List.Perm.eq_of_pairwise (fun x y _ _ h1 h2 => by omega) ha hb hp

theorem as_ovl {h₀ h : Heap} {L : Addr} {m : Str → Option Value} {l : List (Str × Value)} (F : Fr h₀ L h m) (ha : Agree m l) : Fr h₀ L h (ovl l m) := by rw [ha.ovl]; exact F
theorem sameUp_nil {f : Led} (h : SameUp [] f) : f = [] := by
  cases f with
  | nil => rfl
  | cons x r => exact absurd h (by simp [SameUp])
/-- the law's own def -/
def LawFn (w : World) (body : List Stmt) (scope : Scope) : Prop := ∃ name qual params dV kV doc pm an cdv ct oc od osl, (Mj.hd.heap_39 w.params).lookup 76 = some ⟨oc, od, .func (fnOf name qual params body scope dV kV doc pm an cdv ct), osl⟩
theorem LawFn.uniq {w : World} {b b' : List Stmt} {s s' : Scope} : LawFn w b s → LawFn w b' s' → b = b' ∧ s = s' := by
  rintro ⟨_, _, _, _, _, _, _, _, _, _, _, _, _, h1⟩ ⟨_, _, _, _, _, _, _, _, _, _, _, _, _, h2⟩
  rw [h1] at h2
  have h3 := Option.some.inj h2
  injection h3 with _ _ h4 _
  injection h4 with h5
  injection h5 with _ _ _ h6 h7
  injection h6 with h8
  exact ⟨h8, h7⟩
/-- the law from its statement k on -/
def LawAt (k : Nat) (prog : Program) (w : World) (fa : Addr) (cd : Value) (L : Addr) (R : Result → Shared → Prop) (s : Shared) : Prop :=
  ∀ (body : List Stmt) (scope : Scope), LawFn w body scope →
    wpAny (model prog w) (callerA.deeper (envOfC (Str.ofString "law") scope L fa cd)) (execs (body.drop k) (envOfC (Str.ofString "law") scope L fa cd))
      (fun fl s' => R (.ok (.ret (match fl with | .ret v => v | _ => .none))) s')
      (fun e s' => wpAny (model prog w) (callerA.deeper (envOfC (Str.ofString "law") scope L fa cd)) (leaving (envOfC (Str.ofString "law") scope L fa cd) e) (fun _ s'' => R (.error e) s'') (fun e' s'' => R (.error e') s'') s') s
/-- what the end asks -/
def Ends (h₀ : Heap) (R : Result → Shared → Prop) (s : Shared) : Prop := ∀ h' tk', (∀ b o, h₀.get? b = some o → h'.get? b = some o) → R (.ok (.ret (.bool true))) { s with heap := h', toks := tk' }
/-- rows in order -/
structure RowsOk (rows : List Int) (top : Int) (n : Nat) : Prop where
  asc : rows.Pairwise (· ≤ ·)
  lo : 3 ≤ rows.length
  hi : rows.length ≤ n
  bd : ∀ x ∈ rows, 0 ≤ x ∧ x < top
theorem fmod_bd (x : Int) {m : Int} (h : 0 < m) : 0 ≤ x.fmod m ∧ x.fmod m < m := ⟨Int.fmod_nonneg_of_pos x h, Int.fmod_lt_of_pos x h⟩
theorem rows_ok {rows ds : List Int} {m : Int} {k : Nat} (hm : 0 < m) (hp : rows.Perm ((ds.take k).map (·.fmod m))) (hs : rows.Pairwise (· ≤ ·)) (hk : 3 ≤ k) (hl : 3 ≤ ds.length) : RowsOk rows m k := by
  have h1 := hp.length_eq
  rw [List.length_map, List.length_take] at h1
  refine ⟨hs, by omega, by omega, fun x hx => ?_⟩
  obtain ⟨y, _, rfl⟩ := List.mem_map.mp (hp.mem_iff.mp hx)
  exact fmod_bd y hm
end Mj
end MjLawC

section SharedC
local macro_rules | `(tactic| walk_at "exec Assign cons ListComp") => `(tactic| with_reducible refine Stop.mk ?_)
local macro_rules | `(tactic| walk_at "compareOp NotEq ref ref") => `(tactic| with_reducible refine Stop.mk ?_)
local macro_rules | `(tactic| walk_at "call type:list") => `(tactic| with_reducible refine Stop.mk ?_)
local macro_rules | `(tactic| walk_at "call type:reversed") => `(tactic| with_reducible refine Stop.mk ?_)
local macro_rules | `(tactic| walk_at "call builtin:sorted") => `(tactic| with_reducible refine Stop.mk ?_)
local macro_rules | `(tactic| walk_at "call builtin:sum") => `(tactic| with_reducible refine Stop.mk ?_)
local macro_rules | `(tactic| walk_at "subscriptTail Name Slice ref ref") => `(tactic| (k_here; k_dflt (refine' slice_upto ?k1 ?k2 ?k3 ?k4 ?k5 ?k6 ?k7 ?k8 ?_; (case k1 => k_asm); (case k2 => k_asm); (case k3 => k_mem); (case k4 => assumption); (case k5 => kmk_part); (case k6 => kmk_part); (case k7 => omega); (case k8 => omega); k_whole); intro D' zs' h' F' N' l1 hk'))
local macro_rules | `(tactic| walk_at "storeName") => `(tactic| ((with_reducible show wpAny _ _ (storeName _ (Str.ofString "rows") _) _ _ _); with_reducible refine Stop.mk ?_))
local macro_rules | `(tactic| walk_at "subscriptTail Name UnaryOp ref int") => `(tactic| (k_here; k_dflt (refine' ints_back ?k1 ?k2 ?k3 ?k4 ?k5 ?k6 ?_; (case k1 => k_asm); (case k2 => k_mem); (case k3 => assumption); (case k4 => omega); (case k5 => omega); (case k6 => omega); k_whole); intro t'))
local macro_rules | `(tactic| walk_at "subscriptTail Name BinOp ref int") => `(tactic| (k_here; k_dflt (refine' ints_back ?k1 ?k2 ?k3 ?k4 ?k5 ?k6 ?_; (case k1 => k_asm); (case k2 => k_mem); (case k3 => assumption); (case k4 => omega); (case k5 => omega); (case k6 => omega); k_whole); intro t'))

section MjLaw1
theorem Mj.freshMjLaw1 : True := by (w_top off; trivial)
open PySem PySem.W PyProof.Rows
namespace Mj
open PyProof.Rows.TI (Frs SameUp Caller)
open PyProof.Rows.LCg (NsObj ns_obj lst lst_snoc)
local macro_rules | `(tactic| walk_at "execs cons") => `(tactic| ((with_reducible show wpAny _ _ (execs (Stmt.Assign [Expr.Name (Str.ofString "marks") _] _ _ :: _) _) _ _ _); with_reducible refine Stop.mk ?_))

set_option maxRecDepth 100000 in
set_option maxHeartbeats 8000000 in
theorem law1 (prog : Program) (w : World) (fa : Addr) (cd : Value) (h₀ : Heap) (L : Addr) (s : Shared) (ls : Addr) (vs : List Value) (ns : List Int) (oc : Obj)
    (mean : ExcName → Option Value) (mg mb : Str → Option Value) (R : Result → Shared → Prop)
    (F : Fr h₀ L s.heap (fun y => if y = Str.ofString "script" then some (.ref ls) else none)) (N : News h₀ L s.heap [(L + 1, oc)]) (hoc : oc.data = .cell none) (X : (Mj.hd.heap_39 w.params).In h₀) (T : Top Mj.hd.view_39 (looseW Mj.hd.view_39 []) mean mg mb h₀)
    (hl : h₀.IsList ls vs.toArray) (hi : IntsAre vs ns) (hlen : ns.length ≤ 63)
    (next : ∀ h' tk' u oc' Dd dvs lr er rvs rows, Fr h₀ L h' (ovl [(Str.ofString "drawn", .ref Dd)] u) → News h₀ L h' [(L + 1, oc'), (lr, listOf (List.toArray rvs) er), (Dd, listOf (List.toArray dvs) 0)] → oc'.data = .cell (some (.ref lr)) → Keep (IntsAre dvs (ns ++ [5, 2, 7])) → Keep (IntsAre rvs rows) → RowsOk rows 10 8 → L + 1 < Dd → Dd < lr → LawAt 3 prog w fa cd L R { s with heap := h', toks := tk' }) :
    LawAt 0 prog w fa cd L R s := by
  intro body scope hlf
  have B := below_caller h₀
  obtain ⟨hb, hsc⟩ := hlf.uniq (show LawFn w _ _ from ⟨_, _, _, _, _, _, _, _, _, _, _, _, _, by k_is⟩)
  subst hb hsc
  show wpAny _ _ (execs (List.drop _ _) _) _ _ _
  simp only [List.drop_zero]
  k_fold
  repeat' (first | (k_unfold; (try dsimp only)) | walk1 | (dsimp only; walk1) | (leave1; (try dsimp only)))
  rename_i l5 hh1 lt5 Dd dvs hh2 hdI ltd hh3 Fd Nd
  refine Stop.out ?_
  have hdK : Keep (IntsAre dvs (ns ++ [5, 2, 7])) := ⟨hdI⟩
  clear hdI
  have hdl : (ns ++ [5, 2, 7]).length = ns.length + 3 := by simp
  refine compL (by assumption) (by decide) (by with_unfolding_all rfl) (by decide) rfl (by decide) rfl ?_
  try k_fold
  repeat' (first | (k_unfold; (try dsimp only)) | walk1 | (dsimp only; walk1) | (leave1; (try dsimp only)))
  rename_i D8 zs8 hh4 F8 N8 lt8 hk8
  have h8l : ((ns ++ [5, 2, 7]).take (8 : Int).toNat).length = min 8 (ns.length + 3) := by rw [List.length_take, hdl]; rfl
  have hz8 : zs8.length = min 8 (ns.length + 3) := by rw [← h8l]; exact hk8.out.length
  refine GoL.mk (fun _ => true) (fun i => (((ns ++ [5, 2, 7]).take (8 : Int).toNat).getD i 0).fmod 10) (by assumption) (SrcIs.list (its := zs8.toArray) (k := 0) rfl (by assumption) (by assumption) (.head _) (by rw [List.size_toArray, sizeLine_eq]; omega)) ?_ ?_
  · intro I2 C2 D2 j v oI2 oC2 ys2 h8 tk8 E' hj hP hT F8 N8 off ne
    refine ⟨rfl, ?_⟩
    simp only [if_true]
    obtain ⟨t8, rfl⟩ := at_int hk8 hP
    obtain ⟨m₂, hC, hxk⟩ := hT
    try k_fold
    repeat' (first | (k_unfold; (try dsimp only)) | walk1 | (dsimp only; walk1) | (leave1; (try dsimp only)))
    exact Back.mk F8 N8 fun _ hp => hp
  · intro Dz hz tkz zs Fz Nz hltz hzs
    dsimp only
    have hzI : IntsAre zs (((ns ++ [5, 2, 7]).take (8 : Int).toNat).map (fun x : Int => x.fmod 10)) := by
      have hy := hzs
      rw [maps_getD (fun x : Int => x.fmod 10) (by rw [List.size_toArray, hz8, h8l])] at hy
      exact hy
    clear hzs
    try k_fold
    repeat' (first | (k_unfold; (try dsimp only)) | walk1 | (dsimp only; walk1) | (leave1; (try dsimp only)))
    refine Stop.out ?_
    refine (c_order prog w Dz zs _ zs.length _ (.head _) hzI (by rw [List.length_map]; omega)).use B Fz X Nz T rfl (by ktr_room) (by ktr_units) ?_
    rintro r9 news9 h9 tk9 F9 N9 ⟨lr, er, rvs, rows, rfl, rfl, ltr, hrI, hrp, hrs⟩
    dsimp only
    try k_fold
    repeat' (first | (k_unfold; (try dsimp only)) | walk1 | (dsimp only; walk1) | (leave1; (try dsimp only)))
    refine Stop.out ?_
    have g1 : L + 1 < Dd := ltd.2
    have g2 : Dd < lr := ltr _ (.tail _ (.tail _ (.head _)))
    have hok : RowsOk rows 10 8 := rows_ok (by decide) hrp hrs (by decide) (by omega)
    have hrK : Keep (IntsAre rvs rows) := ⟨hrI⟩
    clear hrI
    have hrl := hrK.out.length
    with_unfolding_all refine led_storeC (cc := L + 1) [(lr, listOf rvs.toArray er), (Dd, listOf dvs.toArray 0)] rfl rfl rfl F9 N9 (.tail _ (.tail _ (.tail _ (.tail _ (.tail _ (.head _)))))) hoc ?_ ?_
    · intro p hp
      rcases List.mem_cons.mp hp with rfl | hp
      · exact ⟨.head _, Nat.ne_of_gt (Nat.lt_trans g1 g2)⟩
      · rw [List.mem_singleton.mp hp]
        exact ⟨.tail _ (.tail _ (.tail _ (.head _))), Nat.ne_of_gt g1⟩
    intro h10 oc' hoc' F10 N10
    try k_fold
    repeat' (first | (k_unfold; (try dsimp only)) | walk1 | (dsimp only; walk1) | (leave1; (try dsimp only)))
    refine Stop.out ?_
    refine compL (by assumption) (by decide) (by with_unfolding_all rfl) (by decide) rfl (by decide) rfl ?_
    try k_fold
    repeat' (first | (k_unfold; (try dsimp only)) | walk1 | (dsimp only; walk1) | (leave1; (try dsimp only)))
    rename_i D8b zs8b hh4b F8b N8b lt8b hk8b
    have hz8b : zs8b.length = min 8 (ns.length + 3) := by rw [← h8l]; exact hk8b.out.length
    refine GoL.mk (fun _ => true) (fun i => (((ns ++ [5, 2, 7]).take (8 : Int).toNat).getD i 0).fmod 10) (by assumption) (SrcIs.list (its := zs8b.toArray) (k := 0) rfl (by assumption) (by assumption) (.head _) (by rw [List.size_toArray, sizeLine_eq]; omega)) ?_ ?_
    · intro I2 C2 D2 j v oI2 oC2 ys2 h8 tk8 E' hj hP hT F8 N8 off ne
      refine ⟨rfl, ?_⟩
      simp only [if_true]
      obtain ⟨t8, rfl⟩ := at_int hk8b hP
      obtain ⟨m₂, hC, hxk⟩ := hT
      try k_fold
      repeat' (first | (k_unfold; (try dsimp only)) | walk1 | (dsimp only; walk1) | (leave1; (try dsimp only)))
      exact Back.mk F8 N8 fun _ hp => hp
    · intro Dy hy tky zsy Fy Ny hlty hzsy
      dsimp only
      have hzIy : IntsAre zsy (((ns ++ [5, 2, 7]).take (8 : Int).toNat).map (fun x : Int => x.fmod 10)) := by
        have hy := hzsy
        rw [maps_getD (fun x : Int => x.fmod 10) (by rw [List.size_toArray, hz8b, h8l])] at hy
        exact hy
      clear hzsy
      try k_fold
      repeat' (first | (k_unfold; (try dsimp only)) | walk1 | (dsimp only; walk1) | (leave1; (try dsimp only)))
      refine Stop.out ?_
      refine kso_sorted Fy Ny (PySem.IsL.isList (n := zsy.length) (Ny _ (.head _)).1) hzIy (by rw [List.length_map]; omega) ?_
      intro Ds svs sns cs hs Fs Ns lts hsI hsl hsp hss _
      try k_fold
      repeat' (first | (k_unfold; (try dsimp only)) | walk1 | (dsimp only; walk1) | (leave1; (try dsimp only)))
      refine Stop.out ?_
      refine ints_ne Ns (n1 := er) (n2 := cs) (vs := rvs) (us := svs) (ns := rows) (ms := sns) (by k_mem) (by k_mem) hrK ⟨hsI⟩ (by ktr_units) ?_
      have hsame : rows = sns := sorted_same (hrp.trans hsp.symm) hrs hss
      simp only [hsame, decide_true, Bool.not_true]
      try k_fold
      repeat' (first | (k_unfold; (try dsimp only)) | walk1 | (dsimp only; walk1) | (leave1; (try dsimp only)))
      refine Stop.out ?_
      (rename Fr _ _ _ _ => FN); (rename News _ _ _ _ => NN)
      have NK : News h₀ L _ [(L + 1, oc'), (lr, listOf rvs.toArray er), (Dd, listOf dvs.toArray 0)] := fun p hp => NN p (by
        rcases List.mem_cons.mp hp with rfl | hp
        · k_mem
        rcases List.mem_cons.mp hp with rfl | hp
        · k_mem
        rw [List.mem_singleton.mp hp]
        k_mem)
      have hN := fun tk => next _ tk _ oc' Dd dvs lr er rvs rows (as_ovl FN ⟨rfl, trivial⟩) NK hoc' hdK hrK hok g1 g2 _ _ hlf
      exact hN _
end Mj
end MjLaw1

section MjLaw2
theorem Mj.freshMjLaw2 : True := by (w_top off; trivial)
open PySem PySem.W PyProof.Rows
namespace Mj
local macro_rules | `(tactic| walk_at "nothing here") => `(tactic| fail)
open PyProof.Rows.TI (Frs SameUp Caller)
open PyProof.Rows.LCg (NsObj ns_obj lst lst_snoc)
local macro_rules | `(tactic| walk_at "execs cons") => `(tactic| ((with_reducible show wpAny _ _ (execs (Stmt.Assign [Expr.Name (Str.ofString "below") _] _ _ :: _) _) _ _ _); with_reducible refine Stop.mk ?_))

set_option maxRecDepth 100000 in
set_option maxHeartbeats 8000000 in
theorem law2 (prog : Program) (w : World) (fa : Addr) (cd : Value) (h₀ : Heap) (L : Addr) (s : Shared) (oc : Obj) (Dd : Addr) (dvs : List Value) (lr : Addr) (er : Nat) (rvs : List Value) (rows : List Int) (u : Str → Option Value)
    (mean : ExcName → Option Value) (mg mb : Str → Option Value) (R : Result → Shared → Prop) (X : (Mj.hd.heap_39 w.params).In h₀) (T : Top Mj.hd.view_39 (looseW Mj.hd.view_39 []) mean mg mb h₀)
    (F : Fr h₀ L s.heap (ovl [(Str.ofString "drawn", .ref Dd)] u)) (N : News h₀ L s.heap [(L + 1, oc), (lr, listOf (List.toArray rvs) er), (Dd, listOf (List.toArray dvs) 0)]) (hoc : oc.data = .cell (some (.ref lr))) (hrK : Keep (IntsAre rvs rows)) (hok : RowsOk rows 10 8) (g1 : L + 1 < Dd) (g2 : Dd < lr)
    (next : ∀ h' tk' u' lm em mvs, Fr h₀ L h' (ovl [(Str.ofString "marks", .ref lm), (Str.ofString "drawn", .ref Dd)] u') → News h₀ L h' [(L + 1, oc), (lr, listOf (List.toArray rvs) er), (Dd, listOf (List.toArray dvs) 0), (lm, listOf (List.toArray mvs) em)] → Keep (IntsAre mvs (rungs rows)) → LawAt 6 prog w fa cd L R { s with heap := h', toks := tk' }) :
    LawAt 3 prog w fa cd L R s := by
  intro body scope hlf
  have B := below_caller h₀
  obtain ⟨hb, hsc⟩ := hlf.uniq (show LawFn w _ _ from ⟨_, _, _, _, _, _, _, _, _, _, _, _, _, by k_is⟩)
  subst hb hsc
  show wpAny _ _ (execs (List.drop _ _) _) _ _ _
  simp only [List.drop_succ_cons, List.drop_zero]
  k_fold
  have hrl := hrK.out.length
  have ol := hok.lo
  have oh := hok.hi
  repeat' (first | (k_unfold; (try dsimp only)) | walk1 | (dsimp only; walk1) | (leave1; (try dsimp only)))
  refine Stop.out ?_
  refine compLA (by assumption) (by rfl) (by decide) (by with_unfolding_all rfl) (by with_unfolding_all rfl) (by decide) (by rfl) (by decide) (by rfl) (by rfl) (by rfl) ?_
  try k_fold
  repeat' (first | (k_unfold; (try dsimp only)) | walk1 | (dsimp only; walk1) | (leave1; (try dsimp only)))
  refine GoL.mk (fun _ => true) (rung rows) (by assumption) (SrcIs.up rvs.length rfl (by assumption) (by assumption) (by assumption) rfl (by omega)) ?_ ?_
  · intro I2 C2 D2 j v oI2 oC2 ys2 h8 tk8 E' hj hP hT F8 N8 off ne
    obtain ⟨t8, rfl⟩ := hP
    obtain ⟨m₂, hC, hxk⟩ := hT
    refine ⟨rfl, ?_⟩
    simp only [if_true]
    try k_fold
    repeat' (first | (k_unfold; (try dsimp only)) | walk1 | (dsimp only; walk1) | (leave1; (try dsimp only)))
    exact Back.mk F8 N8 fun _ hp => hp
  · intro lm hm9 tkm mvs Fm Nm hltm hms
    dsimp only
    have hmK : Keep (IntsAre mvs (rungs rows)) := ⟨by
      have hy := hms
      rw [filter_true, hrl] at hy
      exact hy⟩
    clear hms
    have hml := hmK.out.length
    have hrul := rungs_length rows
    try k_fold
    repeat' (first | (k_unfold; (try dsimp only)) | walk1 | (dsimp only; walk1) | (leave1; (try dsimp only)))
    refine Stop.out ?_
    have hlast : rows.getD ((-1 : Int) + (rows.length : Int)).toNat 0 = lastR rows := by
      unfold lastR
      rw [show ((-1 : Int) + (rows.length : Int)).toNat = rows.length - 1 by omega]
    have hlb : 0 ≤ lastR rows ∧ lastR rows < 10 := by
      unfold lastR
      rw [List.getD_eq_getElem?_getD, List.getElem?_eq_getElem (show rows.length - 1 < rows.length by omega)]
      exact hok.bd _ (List.getElem_mem _)
    refine compCA (by assumption) (by rfl) (by decide) (by with_unfolding_all rfl) (by with_unfolding_all rfl) (by intro _; rfl) (by intro _; rfl) (by rfl) (by decide) (by rfl) (by rfl) (by rfl) ?_
    try k_fold
    repeat' (first | (k_unfold; (try dsimp only)) | walk1 | (dsimp only; walk1) | (leave1; (try dsimp only)))
    rename_i tq1 hq tkq tq2 tq3 tq4 Rq Fq Nq upq
    rw [hlast] at Rq
    refine GoC.mk (fun _ => true) (fun c => freeAt rows rows.length (c : Int)) (by assumption) (SrcIs.up (lastR rows).toNat rfl (by assumption) (by assumption) (by assumption) (by omega) (by omega)) ?_ ?_
    · intro I2 C2 cc2 oC2 D2 j v oI2 occ ys2 h8 tk8 E' hj hP hT F8 N8 off ne
      obtain ⟨t8, rfl⟩ := hP
      refine ⟨rfl, ?_⟩
      simp only [if_true]
      try k_fold
      repeat' (first | (k_unfold; (try dsimp only)) | walk1 | (dsimp only; walk1) | (leave1; (try dsimp only)))
      refine Stop.out ?_
      refine compL (by assumption) (by decide) (by with_unfolding_all rfl) (by decide) rfl (by decide) rfl ?_
      try k_fold
      repeat' (first | (k_unfold; (try dsimp only)) | walk1 | (dsimp only; walk1) | (leave1; (try dsimp only)))
      refine GoL.mk (fun i => decide (rows.getD i 0 ≤ (j : Int))) (fun i => rows.getD i 0) (by assumption) (SrcIs.list (its := rvs.toArray) (k := er) rfl (by assumption) (by assumption) (by k_mem) (by rw [List.size_toArray, sizeLine_eq]; omega)) ?_ ?_
      · intro I3 C3 D3 i v3 oI3 oC3 ys3 h9 tk9 E3 hi hP3 hT3 F9 N9 off3 ne3
        obtain ⟨t9, rfl⟩ := at_int hrK hP3
        obtain ⟨m₃, hC3, hxk3⟩ := hT3
        dsimp only [Tests]
        try k_fold
        repeat' (first | (k_unfold; (try dsimp only)) | walk1 | (dsimp only; walk1) | (leave1; (try dsimp only)))
        all_goals exact Back.mk F9 N9 fun _ hp => hp
      · intro Dl h9 tk9 lys F9 N9 hlt9 hlys
        dsimp only
        have hll : lys.length = cnt rows rows.length (j : Int) := by
          have := hlys.length
          rw [List.length_map, List.size_toArray, hrl] at this
          exact this
        have hcn := cnt_le rows rows.length (j : Int)
        try k_fold
        repeat' (first | (k_unfold; (try dsimp only)) | walk1 | (dsimp only; walk1) | (leave1; (try dsimp only)))
        · rw [hll]; exact rfl
        · exact Back.mk F9 N9 fun p hp => .tail _ hp
    · intro lf hf9 tkf fvs Ff Nf hltf hfs
      dsimp only
      have hfI : IntsAre fvs (frees rows) := by
        have hy := hfs
        rw [filter_true] at hy
        exact hy
      clear hfs
      try k_fold
      repeat' (first | (k_unfold; (try dsimp only)) | walk1 | (dsimp only; walk1) | (leave1; (try dsimp only)))
      rename_i ta tka tb hr9 tkr t1 t2 t3 Rr Fr9 Nr upr
      refine Stop.out ?_
      rw [hlast] at Rr
      refine led_listrange ((rows.length : Int) + lastR rows).toNat rfl Fr9 Nr Rr (by omega) (by omega) (by omega) (by omega) ?_
      intro lb hb9 tkb bvs eb Fb Nb hltb hbI
      dsimp only
      try k_fold
      repeat' (first | (k_unfold; (try dsimp only)) | walk1 | (dsimp only; walk1) | (leave1; (try dsimp only)))
      refine Stop.out ?_
      refine (c_diff prog w lb lm bvs mvs _ _ eb mvs.length _ (.head _) (.tail _ (.tail _ (.head _))) hbI hmK.out (by unfold upFrom; rw [List.length_map, List.length_range]; omega) (by omega) (up_asc _ _) (rungs_asc hok.asc)).use (l := []) (frs := []) trivial Fb X (by rw [List.append_nil]; exact Nb) (by intro p _ hp; cases hp) T rfl (by ktr_room) (by ktr_units) ?_
      rintro r9 news9 frs9 h9 tk9 SU F9 N9 ⟨lt, l1, l2, n1, n2, ms, us, rfl, rfl, hlt1, hlt2, hlt3, hI1, hI2⟩
      have hf0 := sameUp_nil SU
      subst hf0
      rw [List.append_nil] at N9
      obtain ⟨lam1, lam2⟩ := lambek hok.asc (fun x hx => (hok.bd x hx).1) (by omega)
      rw [lam1] at hI1
      rw [lam2] at hI2
      dsimp only
      try k_fold
      repeat' (first | (k_unfold; (try dsimp only)) | walk1 | (dsimp only; walk1) | (leave1; (try dsimp only)))
      rename_i le he9 lte Dt ht9 Ft Nt ltt
      refine Stop.out ?_
      refine ne_pair (q := (frees rows, [])) Nt ⟨lt, l1, l2, n1, n2, ms, us, rfl, .tail _ (.tail _ (.head _)), .tail _ (.tail _ (.tail _ (.tail _ (.head _)))), .tail _ (.tail _ (.tail _ (.head _))), hI1, hI2⟩ ⟨Dt, lf, le, fvs.length, 0, fvs, [], rfl, .head _, .tail _ (.tail _ (.tail _ (.tail _ (.tail _ (.tail _ (.head _)))))), .tail _ (.head _), hfI, .nil⟩ (by ktr_units) ?_
      try k_fold
      repeat' (first | (k_unfold; (try dsimp only)) | walk1 | (dsimp only; walk1) | (leave1; (try dsimp only)))
      refine Stop.out ?_
      (rename Fr _ _ _ _ => FN); (rename News _ _ _ _ => NN)
      have NK : News h₀ L _ [(L + 1, oc), (lr, listOf rvs.toArray er), (Dd, listOf dvs.toArray 0), (lm, listOf mvs.toArray mvs.length)] := fun p hp => NN p (by
        rcases List.mem_cons.mp hp with rfl | hp
        · k_mem
        rcases List.mem_cons.mp hp with rfl | hp
        · k_mem
        rcases List.mem_cons.mp hp with rfl | hp
        · k_mem
        rw [List.mem_singleton.mp hp]
        k_mem)
      have hN := fun tk => next _ tk _ lm mvs.length mvs (as_ovl FN ⟨rfl, rfl, trivial⟩) NK hmK _ _ hlf
      exact hN _
end Mj
end MjLaw2

section MjLaw3
theorem Mj.freshMjLaw3 : True := by (w_top off; trivial)
open PySem PySem.W PyProof.Rows
namespace Mj
open PyProof.Rows.TI (Frs SameUp Caller)
open PyProof.Rows.LCg (NsObj ns_obj lst lst_snoc)
local macro_rules | `(tactic| walk_at "execs cons") => `(tactic| ((with_reducible show wpAny _ _ (execs (Stmt.If (Expr.Compare (Expr.Call (Expr.Name (Str.ofString "_law_told") _) _ _ _) _ _ _) _ _ _ :: _) _) _ _ _); with_reducible refine Stop.mk ?_))

theorem up_getD {n j : Nat} (h : j < n) : (upFrom 0 n).getD j 0 = (j : Int) := by
  unfold upFrom
  simp [List.getD_eq_getElem?_getD, h]
def sqI (rows : List Int) : List Int := (square rows).map fun (i : Nat) => (i : Int)
theorem sqI_as {rows : List Int} : ((List.range rows.length).filter fun (i : Nat) => decide (rows.getD ((-1 - (i : Int)) + (rows.length : Int)).toNat 0 > (i : Int))).map (fun (i : Nat) => (i : Int)) = sqI rows := by
  unfold sqI square
  congr 1
  apply List.filter_congr
  intro i hi
  have := List.mem_range.mp hi
  rw [show ((-1 - (i : Int)) + (rows.length : Int)).toNat = rows.length - 1 - i by omega]
theorem sqI_at {rows : List Int} {j : Nat} (h : j < (sqI rows).length) : ∃ i, i ∈ square rows ∧ (sqI rows).getD j 0 = (i : Int) ∧ (square rows)[j]? = some i := by
  unfold sqI at h ⊢
  rw [List.length_map] at h
  refine ⟨(square rows)[j], List.getElem_mem h, ?_, List.getElem?_eq_getElem h⟩
  simp [List.getD_eq_getElem?_getD, h]
theorem sqI_len (rows : List Int) : (sqI rows).length = (square rows).length ∧ (sqI rows).length ≤ rows.length := by
  unfold sqI
  rw [List.length_map]
  refine ⟨rfl, ?_⟩
  unfold square
  exact Nat.le_trans (List.length_filter_le _ _) (by simp)
def armAt (rows : List Int) (x : Int) : Int := (rows.length : Int) + rows.getD (-1 - x + (rows.length : Int)).toNat 0 - 1 - x
theorem arm_rung {rows : List Int} {i : Nat} (hi : i ∈ square rows) : armAt rows (i : Int) = rung rows (rows.length - 1 - i) := by
  have h := (mem_square.mp hi).1
  unfold armAt rung
  rw [show (-1 - (i : Int) + (rows.length : Int)).toNat = rows.length - 1 - i by omega]
  omega
theorem arms_as (rows : List Int) : (List.range (sqI rows).length).map (fun i => armAt rows ((sqI rows).getD ((sqI rows).length - 1 - i) 0)) = arms rows := by
  have hl := (sqI_len rows).1
  unfold arms
  apply List.ext_getElem
  · simp [hl]
  · intro i h1 h2
    have h3 : i < (square rows).length := by simpa using h2
    obtain ⟨k, hk, e1, e2⟩ := sqI_at (rows := rows) (j := (sqI rows).length - 1 - i) (by omega)
    rw [List.getElem_map, List.getElem_range, List.getElem_map, List.getElem_reverse, e1, arm_rung hk]
    have e3 : (square rows)[(square rows).length - 1 - i] = k := by
      rw [hl, List.getElem?_eq_getElem (by omega)] at e2
      exact Option.some.inj e2
    rw [e3]
def legAt (rows : List Int) (x : Int) : Int := (rows.length : Int) - 1 - ((above rows ((rows.length : Int) - 1 - x).toNat x).length : Int)
theorem legs_eq {rows : List Int} (hs : rows.Pairwise (· ≤ ·)) : (List.range (sqI rows).length).map (fun i => legAt rows ((sqI rows).getD i 0)) = legs rows := by
  have hl := (sqI_len rows).1
  unfold legs
  apply List.ext_getElem
  · simp [hl]
  · intro i h1 h2
    have h3 : i < (square rows).length := by simpa using h2
    obtain ⟨k, hk, e1, e2⟩ := sqI_at (rows := rows) (j := i) (by omega)
    rw [List.getElem_map, List.getElem_range, List.getElem_map, e1]
    have e3 : (square rows)[i] = k := by
      rw [List.getElem?_eq_getElem (by omega)] at e2
      exact Option.some.inj e2
    rw [e3, ← legs_as hs hk]
    unfold legAt
    rw [show ((rows.length : Int) - 1 - (k : Int)).toNat = rows.length - 1 - k by omega]

set_option maxRecDepth 100000 in
set_option maxHeartbeats 8000000 in
theorem law3 (prog : Program) (w : World) (fa : Addr) (cd : Value) (h₀ : Heap) (L : Addr) (s : Shared) (oc : Obj) (Dd : Addr) (dvs : List Value) (lr : Addr) (er : Nat) (rvs : List Value) (rows : List Int) (u : Str → Option Value) (lm : Addr) (em : Nat) (mvs : List Value)
    (mean : ExcName → Option Value) (mg mb : Str → Option Value) (R : Result → Shared → Prop) (X : (Mj.hd.heap_39 w.params).In h₀) (T : Top Mj.hd.view_39 (looseW Mj.hd.view_39 []) mean mg mb h₀)
    (F : Fr h₀ L s.heap (ovl [(Str.ofString "marks", .ref lm), (Str.ofString "drawn", .ref Dd)] u)) (N : News h₀ L s.heap [(L + 1, oc), (lr, listOf (List.toArray rvs) er), (Dd, listOf (List.toArray dvs) 0), (lm, listOf (List.toArray mvs) em)]) (hoc : oc.data = .cell (some (.ref lr))) (hrK : Keep (IntsAre rvs rows)) (hmK : Keep (IntsAre mvs (rungs rows))) (hok : RowsOk rows 10 8)
    (next : ∀ h' tk' u', Fr h₀ L h' (ovl [(Str.ofString "drawn", .ref Dd)] u') → News h₀ L h' [(L + 1, oc), (lr, listOf (List.toArray rvs) er), (Dd, listOf (List.toArray dvs) 0)] → LawAt 11 prog w fa cd L R { s with heap := h', toks := tk' }) :
    LawAt 6 prog w fa cd L R s := by
  intro body scope hlf
  have B := below_caller h₀
  obtain ⟨hb, hsc⟩ := hlf.uniq (show LawFn w _ _ from ⟨_, _, _, _, _, _, _, _, _, _, _, _, _, by k_is⟩)
  subst hb hsc
  show wpAny _ _ (execs (List.drop _ _) _) _ _ _
  simp only [List.drop_succ_cons, List.drop_zero]
  k_fold
  have hrl := hrK.out.length
  have hml := hmK.out.length
  have hrul := rungs_length rows
  have ol := hok.lo
  have oh := hok.hi
  repeat' (first | (k_unfold; (try dsimp only)) | walk1 | (dsimp only; walk1) | (leave1; (try dsimp only)))
  rename_i ta tka hr9 tkr t1 t2 t3 Rr Fr9 Nr upr
  refine Stop.out ?_
  refine led_listrange rows.length rfl Fr9 Nr Rr (by omega) (by omega) (by omega) (by omega) ?_
  intro lb hb9 tkb bvs eb Fb Nb hltb hbI
  dsimp only
  have hbK : Keep (IntsAre bvs (upFrom 0 rows.length)) := ⟨hbI⟩
  clear hbI
  have hul : (upFrom 0 rows.length).length = rows.length := by unfold upFrom; simp
  have hbl := hbK.out.length
  try k_fold
  repeat' (first | (k_unfold; (try dsimp only)) | walk1 | (dsimp only; walk1) | (leave1; (try dsimp only)))
  refine Stop.out ?_
  refine compLA (by assumption) (by rfl) (by decide) (by with_unfolding_all rfl) (by with_unfolding_all rfl) (by decide) (by rfl) (by decide) (by rfl) (by rfl) (by rfl) ?_
  try k_fold
  repeat' (first | (k_unfold; (try dsimp only)) | walk1 | (dsimp only; walk1) | (leave1; (try dsimp only)))
  refine GoL.mk (fun i => decide (rows.getD ((-1 - (i : Int)) + (rows.length : Int)).toNat 0 > (i : Int))) (fun i => (i : Int)) (by assumption) (SrcIs.list (its := bvs.toArray) (k := eb) rfl (by assumption) (by assumption) (by k_mem) (by rw [List.size_toArray, sizeLine_eq]; omega)) ?_ ?_
  · intro I3 C3 D3 i v3 oI3 oC3 ys3 h9 tk9 E3 hi hP3 hT3 F9 N9 off3 ne3
    rw [List.size_toArray] at hi
    obtain ⟨t9, rfl⟩ := at_int hbK hP3
    rw [up_getD (show i < rows.length by omega)] at hT3
    obtain ⟨m₃, hC3, hxk3⟩ := hT3
    dsimp only [Tests]
    try k_fold
    repeat' (first | (k_unfold; (try dsimp only)) | walk1 | (dsimp only; walk1) | (leave1; (try dsimp only)))
    all_goals exact Back.mk F9 N9 fun _ hp => hp
  · intro lq hq9 tkq qvs Fq Nq hltq hqs
    dsimp only
    have hqK : Keep (IntsAre qvs (sqI rows)) := ⟨by
      have hy := hqs
      rw [List.size_toArray, hbl, hul, sqI_as] at hy
      exact hy⟩
    clear hqs
    have hql := hqK.out.length
    have hsl := (sqI_len rows).2
    try k_fold
    repeat' (first | (k_unfold; (try dsimp only)) | walk1 | (dsimp only; walk1) | (leave1; (try dsimp only)))
    refine Stop.out ?_
    refine compLA (by assumption) (by rfl) (by decide) (by with_unfolding_all rfl) (by with_unfolding_all rfl) (by decide) (by rfl) (by decide) (by rfl) (by rfl) (by rfl) ?_
    try k_fold
    repeat' (first | (k_unfold; (try dsimp only)) | walk1 | (dsimp only; walk1) | (leave1; (try dsimp only)))
    refine Stop.out ?_
    (rename Fr _ _ _ _ => F1); (rename News _ _ _ _ => N1)
    refine krv_reversed (vs := qvs) F1 N1 (PySem.IsL.isList (n := qvs.length) (N1 _ (by k_mem)).1) ?_
    intro DR hR FR NR ltR
    refine GoL.mk (fun _ => true) (fun i => armAt rows ((sqI rows).getD ((sqI rows).length - 1 - i) 0)) FR (SrcIs.rev (its := qvs.toArray) (k := qvs.length) (ax := lq) rfl FR NR (by rw [List.size_toArray]) (fun p hp => Nat.ne_of_lt (ltR p hp)) (by k_mem) (by rw [List.size_toArray, sizeLine_eq]; omega)) ?_ ?_
    · intro I3 C3 D3 i v3 oI3 oC3 ys3 h9 tk9 E3 hi hP3 hT3 F9 N9 off3 ne3
      rw [List.size_toArray] at hi
      rw [List.size_toArray, hql] at hP3
      obtain ⟨t9, rfl⟩ := at_int hqK hP3
      obtain ⟨k, hk, ek1, ek2⟩ := sqI_at (rows := rows) (j := (sqI rows).length - 1 - i) (by omega)
      have hkl := (mem_square.mp hk).1
      rw [ek1] at hT3
      obtain ⟨m₃, hC3, hxk3⟩ := hT3
      refine ⟨rfl, ?_⟩
      simp only [if_true]
      rw [ek1]
      try k_fold
      repeat' (first | (k_unfold; (try dsimp only)) | walk1 | (dsimp only; walk1) | (leave1; (try dsimp only)))
      · rw [hrl]; exact rfl
      · exact Back.mk F9 N9 fun _ hp => hp
    · intro la9 ha9 tka9 avs Fa Na hlta has
      dsimp only
      have haK : Keep (IntsAre avs (arms rows)) := ⟨by
        have hy := has
        rw [filter_true, List.size_toArray, hql, arms_as] at hy
        exact hy⟩
      clear has
      try k_fold
      repeat' (first | (k_unfold; (try dsimp only)) | walk1 | (dsimp only; walk1) | (leave1; (try dsimp only)))
      refine Stop.out ?_
      refine compCA (by assumption) (by rfl) (by decide) (by with_unfolding_all rfl) (by with_unfolding_all rfl) (by intro _; rfl) (by intro _; rfl) (by rfl) (by decide) (by rfl) (by rfl) (by rfl) ?_
      try k_fold
      repeat' (first | (k_unfold; (try dsimp only)) | walk1 | (dsimp only; walk1) | (leave1; (try dsimp only)))
      refine GoC.mk (fun _ => true) (fun i => legAt rows ((sqI rows).getD i 0)) (by assumption) (SrcIs.list (its := qvs.toArray) (k := qvs.length) rfl (by assumption) (by assumption) (by k_mem) (by rw [List.size_toArray, sizeLine_eq]; omega)) ?_ ?_
      · intro I2 C2 cc2 oC2 D2 j v oI2 occ ys2 h8 tk8 E' hj hP hT F8 N8 off ne
        rw [List.size_toArray] at hj
        obtain ⟨t8, rfl⟩ := at_int hqK hP
        obtain ⟨k, hk, ek1, ek2⟩ := sqI_at (rows := rows) (j := j) (by omega)
        have hkl := (mem_square.mp hk).1
        rw [ek1] at hT
        refine ⟨rfl, ?_⟩
        simp only [if_true]
        rw [ek1]
        try k_fold
        repeat' (first | (k_unfold; (try dsimp only)) | walk1 | (dsimp only; walk1) | (leave1; (try dsimp only)))
        refine Stop.out ?_
        refine compL (by assumption) (by decide) (by with_unfolding_all rfl) (by decide) rfl (by decide) rfl ?_
        try k_fold
        repeat' (first | (k_unfold; (try dsimp only)) | walk1 | (dsimp only; walk1) | (leave1; (try dsimp only)))
        refine GoL.mk (fun i => decide (rows.getD i 0 > (k : Int))) (fun i => (i : Int)) (by assumption) (SrcIs.up ((rows.length : Int) - 1 - (k : Int)).toNat rfl (by assumption) (by assumption) (by assumption) (by omega) (by omega)) ?_ ?_
        · intro I3 C3 D3 i v3 oI3 oC3 ys3 h9 tk9 E3 hi hP3 hT3 F9 N9 off3 ne3
          obtain ⟨t9, rfl⟩ := hP3
          obtain ⟨m₃, hC3, hxk3⟩ := hT3
          dsimp only [Tests]
          try k_fold
          repeat' (first | (k_unfold; (try dsimp only)) | walk1 | (dsimp only; walk1) | (leave1; (try dsimp only)))
          all_goals exact Back.mk F9 N9 fun _ hp => hp
        · intro Dl h9 tk9 lys F9 N9 hlt9 hlys
          dsimp only
          have hll : lys.length = (above rows ((rows.length : Int) - 1 - (k : Int)).toNat (k : Int)).length := hlys.length
          have hcn := above_cnt rows ((rows.length : Int) - 1 - (k : Int)).toNat (k : Int)
          try k_fold
          repeat' (first | (k_unfold; (try dsimp only)) | walk1 | (dsimp only; walk1) | (leave1; (try dsimp only)))
          · rw [hrl, hll]; exact rfl
          · exact Back.mk F9 N9 fun p hp => .tail _ hp
      · intro le9 he9 tke9 evs Fe Ne hlte hes
        dsimp only
        have heK : Keep (IntsAre evs (legs rows)) := ⟨by
          have hy := hes
          rw [filter_true, List.size_toArray, hql, legs_eq hok.asc] at hy
          exact hy⟩
        clear hes
        obtain ⟨fro1, fro2⟩ := frobenius hok.asc (fun x hx => (hok.bd x hx).1)
        try k_fold
        repeat' (first | (k_unfold; (try dsimp only)) | walk1 | (dsimp only; walk1) | (leave1; (try dsimp only)))
        refine Stop.out ?_
        (rename Fr _ _ _ _ => F1); (rename News _ _ _ _ => N1)
        refine (c_diff prog w lm lb mvs bvs _ _ em eb _ (.tail _ (.tail _ (.tail _ (.tail _ (.tail _ (.tail _ (.tail _ (.head _)))))))) (.tail _ (.tail _ (.tail _ (.head _)))) hmK.out hbK.out (by omega) (by omega) (rungs_asc hok.asc) (up_asc _ _)).use (l := []) (frs := []) trivial F1 X (by rw [List.append_nil]; exact N1) (by intro p _ hp; cases hp) T rfl (by ktr_room) (by ktr_units) ?_
        rintro r9 news9 frs9 h9 tk9 SU F9 N9 ⟨lt, l1, l2, n1, n2, ms, us, rfl, rfl, hlt1, hlt2, hlt3, hI1, hI2⟩
        have hf0 := sameUp_nil SU
        subst hf0
        rw [List.append_nil] at N9
        rw [fro1] at hI1
        rw [fro2] at hI2
        have hKa : Keep (IntsAre ms (arms rows)) := ⟨hI1⟩
        have hKb : Keep (IntsAre us (legs rows)) := ⟨hI2⟩
        clear hI1 hI2
        dsimp only
        try k_fold
        repeat' (first | (k_unfold; (try dsimp only)) | walk1 | (dsimp only; walk1) | (leave1; (try dsimp only)))
        rename_i Dt ht9 Ft Nt ltt
        refine Stop.out ?_
        refine ne_pair (q := (arms rows, legs rows)) Nt ⟨lt, l1, l2, n1, n2, ms, us, rfl, by k_mem, by k_mem, by k_mem, hKa.out, hKb.out⟩ ⟨Dt, la9, le9, avs.length, evs.length, avs, evs, rfl, .head _, by k_mem, by k_mem, haK.out, heK.out⟩ (by ktr_units) ?_
        try k_fold
        repeat' (first | (k_unfold; (try dsimp only)) | walk1 | (dsimp only; walk1) | (leave1; (try dsimp only)))
        refine Stop.out ?_
        (rename Fr _ _ _ _ => F2); (rename News _ _ _ _ => N2)
        refine (c_diff prog w lb lm bvs mvs _ _ eb em _ (.tail _ (.tail _ (.tail _ (.tail _ (.tail _ (.tail _ (.tail _ (.head _)))))))) (.tail _ (.tail _ (.tail _ (.tail _ (.tail _ (.tail _ (.tail _ (.tail _ (.tail _ (.tail _ (.tail _ (.head _)))))))))))) hbK.out hmK.out (by omega) (by omega) (up_asc _ _) (rungs_asc hok.asc)).use (l := []) (frs := []) trivial F2 X (by rw [List.append_nil]; exact N2) (by intro p _ hp; cases hp) T rfl (by ktr_room) (by ktr_units) ?_
        rintro r9 news9 frs9 h9 tk9 SU F9 N9 ⟨ltb, l1b, l2b, n1b, n2b, msb, usb, rfl, rfl, hlt1b, hlt2b, hlt3b, hI1, hI2⟩
        have hf0 := sameUp_nil SU
        subst hf0
        rw [List.append_nil] at N9
        rw [fro2] at hI1
        rw [fro1] at hI2
        have hKc : Keep (IntsAre msb (legs rows)) := ⟨hI1⟩
        have hKd : Keep (IntsAre usb (arms rows)) := ⟨hI2⟩
        clear hI1 hI2
        dsimp only
        try k_fold
        repeat' (first | (k_unfold; (try dsimp only)) | walk1 | (dsimp only; walk1) | (leave1; (try dsimp only)))
        rename_i Du hu9 Fu Nu ltu
        refine Stop.out ?_
        refine ne_pair (q := (legs rows, arms rows)) Nu ⟨ltb, l1b, l2b, n1b, n2b, msb, usb, rfl, by k_mem, by k_mem, by k_mem, hKc.out, hKd.out⟩ ⟨Du, le9, la9, evs.length, avs.length, evs, avs, rfl, .head _, by k_mem, by k_mem, heK.out, haK.out⟩ (by ktr_units) ?_
        try k_fold
        repeat' (first | (k_unfold; (try dsimp only)) | walk1 | (dsimp only; walk1) | (leave1; (try dsimp only)))
        refine Stop.out ?_
        (rename Fr _ _ _ _ => FN); (rename News _ _ _ _ => NN)
        have NK : News h₀ L _ [(L + 1, oc), (lr, listOf rvs.toArray er), (Dd, listOf dvs.toArray 0)] := fun p hp => NN p (by
          rcases List.mem_cons.mp hp with rfl | hp
          · k_mem
          rcases List.mem_cons.mp hp with rfl | hp
          · k_mem
          rw [List.mem_singleton.mp hp]
          k_mem)
        have hN := fun tk => next _ tk _ (as_ovl FN ⟨rfl, trivial⟩) NK _ _ hlf
        exact hN _
end Mj
end MjLaw3

section MjLaw4
theorem Mj.freshMjLaw4 : True := by (w_top off; trivial)
open PySem PySem.W PyProof.Rows
namespace Mj
local macro_rules | `(tactic| walk_at "nothing here") => `(tactic| fail)
open PyProof.Rows.TI (Frs SameUp Caller)
open PyProof.Rows.LCg (NsObj ns_obj lst lst_snoc)
local macro_rules | `(tactic| walk_at "execs cons") => `(tactic| ((with_reducible show wpAny _ _ (execs (Stmt.For (Expr.Name (Str.ofString "answer") _) _ _ _ _ :: _) _) _ _ _); with_reducible refine Stop.mk ?_))

theorem way_some {few : List Int} (h : RowsOk few 4 5) : ∃ W, sim few 300 [List.replicate few.length 0 ++ [1]] = some W ∧ (List.range few.length).foldl (fun a k => (told1 few k).1.foldl (· * ·) a) W = factZ (few.foldl (· + ·) 0).toNat := by
  have hw := few_ok h.lo h.hi h.asc (fun x hx => by have := h.bd x hx; omega)
  unfold wayOk at hw
  cases hs : sim few 300 [List.replicate few.length 0 ++ [1]] with
  | none => rw [hs] at hw; cases hw
  | some W =>
    rw [hs] at hw
    exact ⟨W, rfl, eq_of_beq hw⟩

set_option maxRecDepth 100000 in
set_option maxHeartbeats 8000000 in
theorem law4 (prog : Program) (w : World) (fa : Addr) (cd : Value) (h₀ : Heap) (L : Addr) (s : Shared) (oc : Obj) (Dd : Addr) (dvs : List Value) (ns : List Int) (lr : Addr) (er : Nat) (rvs : List Value) (rows : List Int) (u : Str → Option Value)
    (mean : ExcName → Option Value) (mg mb : Str → Option Value) (R : Result → Shared → Prop) (X : (Mj.hd.heap_39 w.params).In h₀) (T : Top Mj.hd.view_39 (looseW Mj.hd.view_39 []) mean mg mb h₀)
    (F : Fr h₀ L s.heap (ovl [(Str.ofString "drawn", .ref Dd)] u)) (N : News h₀ L s.heap [(L + 1, oc), (lr, listOf (List.toArray rvs) er), (Dd, listOf (List.toArray dvs) 0)]) (hoc : oc.data = .cell (some (.ref lr))) (hdK : Keep (IntsAre dvs (ns ++ [5, 2, 7]))) (hlen : ns.length ≤ 63) (hrK : Keep (IntsAre rvs rows)) (hok : RowsOk rows 10 8)
    (next : ∀ h' tk' u' lw ew wvs few W t, Fr h₀ L h' (ovl [(Str.ofString "product", .int W t), (Str.ofString "few", .ref lw)] u') → News h₀ L h' [(lw, listOf (List.toArray wvs) ew)] → Keep (IntsAre wvs few) → RowsOk few 4 5 → (List.range few.length).foldl (fun a k => (told1 few k).1.foldl (· * ·) a) W = factZ (few.foldl (· + ·) 0).toNat → LawAt 14 prog w fa cd L R { s with heap := h', toks := tk' }) :
    LawAt 11 prog w fa cd L R s := by
  intro body scope hlf
  have B := below_caller h₀
  obtain ⟨hb, hsc⟩ := hlf.uniq (show LawFn w _ _ from ⟨_, _, _, _, _, _, _, _, _, _, _, _, _, by k_is⟩)
  subst hb hsc
  show wpAny _ _ (execs (List.drop _ _) _) _ _ _
  simp only [List.drop_succ_cons, List.drop_zero]
  k_fold
  have hrl := hrK.out.length
  have hdl : (ns ++ [5, 2, 7]).length = ns.length + 3 := by simp
  have ol := hok.lo
  have oh := hok.hi
  repeat' (first | (k_unfold; (try dsimp only)) | walk1 | (dsimp only; walk1) | (leave1; (try dsimp only)))
  refine Stop.out ?_
  (rename Fr _ _ _ _ => F1); (rename News _ _ _ _ => N1)
  refine (c_told prog w lr rvs rows er _ (.tail _ (.head _)) hrK.out (by omega) (fun x hx => by have := hok.bd x hx; omega) hok.asc).use (l := []) (frs := []) trivial F1 X (by rw [List.append_nil]; exact N1) (by intro p _ hp; cases hp) T rfl (by ktr_room) (by ktr_units) ?_
  rintro r9 news9 frs9 h9 tk9 SU F9 N9 ⟨lp, ep, items, more, rfl, rfl, hlt1, hlt2, hP1⟩
  have hf0 := sameUp_nil SU
  subst hf0
  rw [List.append_nil] at N9
  have hmL : (lr, listOf rvs.toArray er) ∈ more ++ [(L + 1, oc), (lr, listOf (List.toArray rvs) er), (Dd, listOf (List.toArray dvs) 0)] := List.mem_append_right _ (.tail _ (.head _))
  have hmO : (L + 1, oc) ∈ more ++ [(L + 1, oc), (lr, listOf (List.toArray rvs) er), (Dd, listOf (List.toArray dvs) 0)] := List.mem_append_right _ (.head _)
  try dsimp only
  repeat' (first | (k_unfold; (try dsimp only)) | walk1 | (dsimp only; walk1) | (leave1; (try dsimp only)))
  refine Stop.out ?_
  refine (c_hooks prog w lr rvs rows er _ (.tail _ hmL) hrK.out (by omega) (fun x hx => by have := hok.bd x hx; omega)).use (l := []) (frs := []) trivial F9 X (by rw [List.append_nil]; exact N9) (by intro p _ hp; cases hp) T rfl (by ktr_room) (by ktr_units) ?_
  rintro r9 news9 frs9 h10 tk10 SU F10 N10 ⟨lp2, ep2, items2, more2, rfl, rfl, hlt3, hlt4, hP2⟩
  have hf0 := sameUp_nil SU
  subst hf0
  rw [List.append_nil] at N10
  rw [← told_hooks_all hok.asc (fun x hx => (hok.bd x hx).1)] at hP2
  try dsimp only
  repeat' (first | (k_unfold; (try dsimp only)) | walk1 | (dsimp only; walk1) | (leave1; (try dsimp only)))
  refine Stop.out ?_
  refine ne_pairs N10 (n1 := ep) (n2 := ep2) (vs := items) (us := items2) (.tail _ (List.mem_append_right _ (.head _))) (.head _) (hP1.mono fun p hp => .tail _ (List.mem_append_right _ (.tail _ (List.mem_append_left _ hp)))) (hP2.mono fun p hp => .tail _ (List.mem_append_left _ hp)) (by ktr_units) ?_
  have N11 : News h₀ L _ [(L + 1, oc), (lr, listOf (List.toArray rvs) er), (Dd, listOf (List.toArray dvs) 0)] := fun p hp => N10 p (.tail _ (List.mem_append_right _ (.tail _ (List.mem_append_right _ hp))))
  clear N10 N9
  repeat' (first | (k_unfold; (try dsimp only)) | walk1 | (dsimp only; walk1) | (leave1; (try dsimp only)))
  refine Stop.out ?_
  refine compL (by assumption) (by decide) (by with_unfolding_all rfl) (by decide) rfl (by decide) rfl ?_
  repeat' (first | (k_unfold; (try dsimp only)) | walk1 | (dsimp only; walk1) | (leave1; (try dsimp only)))
  rename_i D8 zs8 hh4 F8 N8 lt8 hk8
  have h8l : ((ns ++ [5, 2, 7]).take (5 : Int).toNat).length = min 5 (ns.length + 3) := by rw [List.length_take, hdl]; rfl
  have hz8 : zs8.length = min 5 (ns.length + 3) := by rw [← h8l]; exact hk8.out.length
  refine GoL.mk (fun _ => true) (fun i => (((ns ++ [5, 2, 7]).take (5 : Int).toNat).getD i 0).fmod 4) (by assumption) (SrcIs.list (its := zs8.toArray) (k := 0) rfl (by assumption) (by assumption) (.head _) (by rw [List.size_toArray, sizeLine_eq]; omega)) ?_ ?_
  · intro I2 C2 D2 j v oI2 oC2 ys2 h8 tk8 E' hj hP hT F8 N8 off ne
    refine ⟨rfl, ?_⟩
    simp only [if_true]
    obtain ⟨t8, rfl⟩ := at_int hk8 hP
    obtain ⟨m₂, hC, hxk⟩ := hT
    repeat' (first | (k_unfold; (try dsimp only)) | walk1 | (dsimp only; walk1) | (leave1; (try dsimp only)))
    exact Back.mk F8 N8 fun _ hp => hp
  · intro Dz hz tkz zs Fz Nz hltz hzs
    dsimp only
    have hzI : IntsAre zs (((ns ++ [5, 2, 7]).take (5 : Int).toNat).map (fun x : Int => x.fmod 4)) := by
      have hy := hzs
      rw [maps_getD (fun x : Int => x.fmod 4) (by rw [List.size_toArray, hz8, h8l])] at hy
      exact hy
    clear hzs
    repeat' (first | (k_unfold; (try dsimp only)) | walk1 | (dsimp only; walk1) | (leave1; (try dsimp only)))
    refine Stop.out ?_
    refine (c_order prog w Dz zs _ zs.length _ (.head _) hzI (by rw [List.length_map]; omega)).use B Fz X Nz T rfl (by ktr_room) (by ktr_units) ?_
    rintro r9 news9 h12 tk12 F12 N12 ⟨lw, ew, wvs, few, rfl, rfl, ltw, hwI, hwp, hws⟩
    have fok : RowsOk few 4 5 := rows_ok (by decide) hwp hws (by decide) (by omega)
    have hwK : Keep (IntsAre wvs few) := ⟨hwI⟩
    clear hwI
    have hwl := hwK.out.length
    have fl := fok.lo
    have fh := fok.hi
    obtain ⟨W, hW1, hW2⟩ := way_some fok
    dsimp only
    repeat' (first | (k_unfold; (try dsimp only)) | walk1 | (dsimp only; walk1) | (leave1; (try dsimp only)))
    refine Stop.out ?_
    (rename Fr _ _ _ _ => F13); (rename News _ _ _ _ => N13)
    refine (c_ways prog w lw wvs few ew _ 300 W (.head _) hwK.out (by omega) hW1).use B F13 X N13 T rfl (by ktr_room) (by ktr_units) ?_
    rintro r9 news9 h14 tk14 F14 N14 ⟨tw, rfl, rfl⟩
    dsimp only
    repeat' (first | (k_unfold; (try dsimp only)) | walk1 | (dsimp only; walk1) | (leave1; (try dsimp only)))
    refine Stop.out ?_
    (rename Fr _ _ _ _ => FN); (rename News _ _ _ _ => NN)
    have NK : News h₀ L _ [(lw, listOf wvs.toArray ew)] := fun p hp => NN p (by
      rw [List.mem_singleton.mp hp]
      k_mem)
    have hN := fun tk => next _ tk _ lw ew wvs few W tw (as_ovl FN ⟨rfl, rfl, trivial⟩) NK hwK fok hW2 _ _ hlf
    exact hN _
end Mj
end MjLaw4

section MjLaw5
theorem Mj.freshMjLaw5 : True := by (w_top off; trivial)
open PySem PySem.W PyProof.Rows
namespace Mj
open PyProof.Rows.TI (Frs SameUp Caller)
open PyProof.Rows.LCg (NsObj ns_obj lst lst_snoc)
local macro_rules | `(tactic| walk_at "exec For") => `(tactic| ((with_reducible show wpAny _ _ (exec (Stmt.For (Expr.Name (Str.ofString "hook") _) _ _ _ _) _) _ _ _); with_reducible refine Stop.mk ?_))
theorem foldl_sum : ∀ (l : List Int) (a : Int), l.foldl (· + ·) a = a + l.sum
  | [], a => by simp
  | x :: l, a => by rw [List.foldl_cons, foldl_sum l, List.sum_cons]; omega
theorem sum_bd : ∀ {l : List Int} {m : Int}, (∀ x ∈ l, 0 ≤ x ∧ x < m) → 0 ≤ l.sum ∧ l.sum ≤ l.length * m
  | [], m, _ => by simp
  | x :: l, m, h => by
    have h1 := h x (.head _)
    have h2 := sum_bd (l := l) (m := m) fun y hy => h y (.tail _ hy)
    rw [List.sum_cons, List.length_cons]
    have e : ((l.length + 1 : Nat) : Int) * m = (l.length : Int) * m + m := by push_cast; rw [Int.add_mul, Int.one_mul]
    rw [e]
    omega
set_option maxRecDepth 100000 in
set_option maxHeartbeats 8000000 in
theorem law5 (prog : Program) (w : World) (fa : Addr) (cd : Value) (h₀ : Heap) (L : Addr) (s : Shared) (lw : Addr) (ew : Nat) (wvs : List Value) (few : List Int) (W : Int) (t : Tok) (u : Str → Option Value)
    (mean : ExcName → Option Value) (mg mb : Str → Option Value) (R : Result → Shared → Prop) (X : (Mj.hd.heap_39 w.params).In h₀) (T : Top Mj.hd.view_39 (looseW Mj.hd.view_39 []) mean mg mb h₀)
    (F : Fr h₀ L s.heap (ovl [(Str.ofString "product", .int W t), (Str.ofString "few", .ref lw)] u)) (N : News h₀ L s.heap [(lw, listOf (List.toArray wvs) ew)]) (hwK : Keep (IntsAre wvs few)) (fok : RowsOk few 4 5)
    (hW : (List.range few.length).foldl (fun a k => (told1 few k).1.foldl (· * ·) a) W = factZ (few.foldl (· + ·) 0).toNat) (ret : Ends h₀ R s) :
    LawAt 14 prog w fa cd L R s := by
  intro body scope hlf
  have B := below_caller h₀
  obtain ⟨hb, hsc⟩ := hlf.uniq (show LawFn w _ _ from ⟨_, _, _, _, _, _, _, _, _, _, _, _, _, by k_is⟩)
  subst hb hsc
  show wpAny _ _ (execs (List.drop _ _) _) _ _ _
  simp only [List.drop_succ_cons, List.drop_zero]
  k_fold
  have hwl := hwK.out.length
  have fl := fok.lo
  have fh := fok.hi
  repeat' (first | (k_unfold; (try dsimp only)) | walk1 | (dsimp only; walk1) | (leave1; (try dsimp only)))
  refine Stop.out ?_
  (rename Fr _ _ _ _ => F1); (rename News _ _ _ _ => N1)
  refine (c_told prog w lw wvs few ew _ (.head _) hwK.out (by omega) (fun x hx => by have := fok.bd x hx; omega) fok.asc).use (l := []) (frs := []) trivial F1 X (by rw [List.append_nil]; exact N1) (by intro p _ hp; cases hp) T rfl (by ktr_room) (by ktr_units) ?_
  rintro r9 news9 frs9 h9 tk9 SU F9 N9 ⟨lp, ep, items, more, rfl, rfl, hlt1, hlt2, hP1⟩
  have hf0 := sameUp_nil SU
  subst hf0
  rw [List.append_nil] at N9
  try dsimp only
  repeat' (first | (k_unfold; (try dsimp only)) | walk1 | (dsimp only; walk1) | (leave1; (try dsimp only)))
  refine Stop.out ?_
  obtain ⟨il, ip⟩ := pairs_at hP1
  rw [List.length_map, List.length_range] at il
  with_unfolding_all refine for_list (σ := Int × Tok) (vs := items) (e := ep) rfl (fun _ c => [(Str.ofString "product", .int c.1 c.2), (Str.ofString "few", .ref lw)]) (fun _ => (lp, listOf items.toArray ep) :: (more ++ [(lw, listOf (List.toArray wvs) ew)])) (fun i c => c.1 = (List.range i).foldl (fun a k => (told1 few k).1.foldl (· * ·) a) W) (W, t) (fun _ => .head _) F9 N9 (fun _ hp => hp) ⟨rfl, rfl, trivial⟩ rfl ?_ ?_
  · intro i v c u2 I oI h tk hv hP hne F2 N2
    obtain ⟨pr, tp⟩ := c
    dsimp only at hP F2 N2 hne
    have hil : i < items.length := (List.getElem?_eq_some_iff.mp hv).1
    have hve : items[i] = v := (List.getElem?_eq_some_iff.mp hv).2
    have hpa := ip i hil (by simp; omega)
    rw [hve, List.getElem_map, List.getElem_range] at hpa
    obtain ⟨lt, l1, l2, n1, n2, ms, us, rfl, a1, a2, a3, a4, a5⟩ := hpa
    replace F2 : Fr h₀ L h (ovl [(Str.ofString "answer", .ref lt), (Str.ofString "product", .int pr tp), (Str.ofString "few", .ref lw)] u2) := F2
    replace N2 : News h₀ L h ((I, oI) :: (lp, listOf items.toArray ep) :: (more ++ [(lw, listOf (List.toArray wvs) ew)])) := N2
    have a1' : (lt, tupOf [.ref l1, .ref l2]) ∈ more ++ [(lw, listOf (List.toArray wvs) ew)] := List.mem_append_left _ a1
    have a2' : (l1, listOf ms.toArray n1) ∈ more ++ [(lw, listOf (List.toArray wvs) ew)] := List.mem_append_left _ a2
    have a4K : Keep (IntsAre ms (told1 few i).1) := ⟨a4⟩
    clear a4
    have a4l := a4K.out.length
    repeat' (first | (k_unfold; (try dsimp only)) | walk1 | (dsimp only; walk1) | (leave1; (try dsimp only)))
    refine Stop.out ?_
    refine For_invV h₀ (by rfl) (by rfl) ?_
    repeat' (first | (k_unfold; (try dsimp only)) | walk1 | (dsimp only; walk1) | (leave1; (try dsimp only)))
    refine Stop.out ?_
    (rename Fr _ _ _ _ => F3); (rename News _ _ _ _ => N3)
    with_unfolding_all refine for_list (σ := Int × Tok) (vs := ms) (e := n1) rfl (fun _ c => [(Str.ofString "product", .int c.1 c.2), (Str.ofString "few", .ref lw)]) (fun _ => (l1, listOf ms.toArray n1) :: (I, oI) :: (lp, listOf items.toArray ep) :: (more ++ [(lw, listOf (List.toArray wvs) ew)])) (fun j c => c.1 = ((told1 few i).1.take j).foldl (· * ·) pr) (pr, tp) (fun _ => .head _) F3 N3 ?_ ⟨rfl, rfl, trivial⟩ rfl ?_ ?_
    · intro p hp
      rcases List.mem_cons.mp hp with rfl | hp
      · exact .tail _ (.tail _ a2')
      · exact hp
    · intro j v c u3 I2 oI2 h2 tk2 hv2 hP2 hne2 F4 N4
      obtain ⟨pr2, tp2⟩ := c
      dsimp only at hP2 F4 N4 hne2
      have hjl : j < ms.length := (List.getElem?_eq_some_iff.mp hv2).1
      obtain ⟨y, ty, ey, ky⟩ := IntsAre.at a4K.out j v hv2
      subst ey
      have hyb : 0 ≤ y ∧ y < 100 := by
        have hy1 : y ∈ (told1 few i).1 := List.mem_of_getElem? ky
        unfold told1 at hy1
        have hy2 := mem_upFrom.mp (List.mem_filter.mp hy1).1
        have hxi : 0 ≤ few.getD i 0 ∧ few.getD i 0 < 4 := by
          rw [List.getD_eq_getElem?_getD, List.getElem?_eq_getElem (show i < few.length by omega)]
          exact fok.bd _ (List.getElem_mem _)
        unfold rung at hy2
        omega
      obtain ⟨hy1, hy2⟩ := hyb
      replace F4 : Fr h₀ L h2 (ovl [(Str.ofString "hook", .int y ty), (Str.ofString "product", .int pr2 tp2), (Str.ofString "few", .ref lw)] u3) := F4
      replace N4 : News h₀ L h2 ((I2, oI2) :: (l1, listOf ms.toArray n1) :: (I, oI) :: (lp, listOf items.toArray ep) :: (more ++ [(lw, listOf (List.toArray wvs) ew)])) := N4
      repeat' (first | (k_unfold; (try dsimp only)) | walk1 | (dsimp only; walk1) | (leave1; (try dsimp only)))
      (rename Fr _ _ _ _ => F5); (rename News _ _ _ _ => N5)
      refine fend ((pr2 * y, _) : Int × Tok) F5 N5 (fun p hp => by rw [List.mem_singleton.mp hp]; exact .head _) (fun p hp => .tail _ hp) hne2 ⟨rfl, rfl, trivial⟩ ?_
      dsimp only
      rw [List.take_add_one, ky, List.foldl_append, ← hP2]
      rfl
    · intro c u3 h2 tk2 hP2 F4 N4
      obtain ⟨pr2, tp2⟩ := c
      dsimp only at hP2 F4 N4
      repeat' (first | (k_unfold; (try dsimp only)) | walk1 | (dsimp only; walk1) | (leave1; (try dsimp only)))
      (rename Fr _ _ _ _ => F5); (rename News _ _ _ _ => N5)
      refine fend ((pr2, tp2) : Int × Tok) F5 N5 (fun p hp => by rw [List.mem_singleton.mp hp]; exact .tail _ (.head _)) (fun p hp => .tail _ (.tail _ hp)) hne ⟨rfl, rfl, trivial⟩ ?_
      dsimp only
      rw [List.range_succ, List.foldl_append, ← hP, hP2, a4l, List.take_length]
      rfl
  · intro c u2 h tk hP F2 N2
    obtain ⟨pr, tp⟩ := c
    dsimp only at hP F2 N2
    have hmW : (lw, listOf (List.toArray wvs) ew) ∈ more ++ [(lw, listOf (List.toArray wvs) ew)] := List.mem_append_right _ (.head _)
    obtain ⟨s0, s1⟩ := sum_bd fok.bd
    have s2 : few.sum < 1000 := by omega
    rw [il, hW, foldl_sum, Int.zero_add] at hP
    repeat' (first | (k_unfold; (try dsimp only)) | walk1 | (dsimp only; walk1) | (leave1; (try dsimp only)))
    refine Stop.out ?_
    (rename Fr _ _ _ _ => F3); (rename News _ _ _ _ => N3)
    refine sumK rfl F3 N3 (PySem.IsL.isList (n := ew) (N3 _ (.tail _ hmW)).1) hwK.out ?_
    intro h5 tk5 t5 F5 N5
    repeat' (first | (k_unfold; (try dsimp only)) | walk1 | (dsimp only; walk1) | (leave1; (try dsimp only)))
    refine Stop.out ?_
    rename_i h6 tk6 t7 t8 t9 R6 F6 N6 up6
    with_unfolding_all refine for_range (σ := Int × Tok) (a := 0) (b := few.sum) (d := 1) (n := few.sum.toNat) rfl R6 (small_one (by omega) (by omega) (by omega) (by omega)) (rsz_up (by omega)) (fun _ c => [(Str.ofString "total", .int c.1 c.2), (Str.ofString "product", .int pr tp)]) (fun _ => []) (fun i c => c.1 = factZ i) (1, _) F6 N6 (fun p hp => nomatch hp) ⟨rfl, rfl, trivial⟩ rfl ?_ ?_
    · intro i ti c u3 I oI h2 tk2 hi hP2 hne2 F4 N4
      obtain ⟨to, tt⟩ := c
      dsimp only at hP2 F4 N4 hne2
      rw [show (0 : Int) + (i : Int) * 1 = (i : Int) by omega] at F4
      replace F4 : Fr h₀ L h2 (ovl [(Str.ofString "i", .int (i : Int) ti), (Str.ofString "total", .int to tt), (Str.ofString "product", .int pr tp)] u3) := F4
      repeat' (first | (k_unfold; (try dsimp only)) | walk1 | (dsimp only; walk1) | (leave1; (try dsimp only)))
      (rename Fr _ _ _ _ => F5); (rename News _ _ _ _ => N5)
      refine fend ((to * ((i : Int) + 1), _) : Int × Tok) F5 N5 (fun p hp => by rw [List.mem_singleton.mp hp]; exact .head _) (fun p hp => nomatch hp) (fun p hp => nomatch hp) ⟨rfl, rfl, trivial⟩ ?_
      dsimp only
      unfold factZ at hP2 ⊢
      rw [List.range_succ, List.foldl_append, ← hP2]
      rfl
    · intro c u3 h2 tk2 hP2 F4 N4
      obtain ⟨to, tt⟩ := c
      dsimp only at hP2 F4 N4
      repeat' (first | (k_unfold; (try dsimp only)) | walk1 | (dsimp only; walk1) | (leave1; (try dsimp only)))
      show R (.ok (.ret (.bool (pr == to)))) _
      have e9 : (pr == to) = true := by rw [hP, hP2]; exact beq_self_eq_true _
      rw [e9]
      exact ret _ _ F4.keep
end Mj
end MjLaw5

section MjEnd
theorem Mj.freshMjEnd : True := by (w_top off; trivial)
open PySem PySem.W PyProof.Rows
namespace Mj
theorem law_all (prog : Program) (w : World) (fa : Addr) (cd : Value) (h₀ : Heap) (L : Addr) (s : Shared) (ls : Addr) (vs : List Value) (ns : List Int) (oc : Obj)
    (mean : ExcName → Option Value) (mg mb : Str → Option Value) (R : Result → Shared → Prop) (body : List Stmt) (scope : Scope) (hlf : LawFn w body scope)
    (F : Fr h₀ L s.heap (fun y => if y = Str.ofString "script" then some (.ref ls) else none)) (N : News h₀ L s.heap [(L + 1, oc)]) (hoc : oc.data = .cell none) (X : (Mj.hd.heap_39 w.params).In h₀) (T : Top Mj.hd.view_39 (looseW Mj.hd.view_39 []) mean mg mb h₀)
    (hl : h₀.IsList ls vs.toArray) (hi : IntsAre vs ns) (hlen : ns.length ≤ 63) (ret : Ends h₀ R s) :
    wpAny (model prog w) (callerA.deeper (envOfC (Str.ofString "law") scope L fa cd)) (execs body (envOfC (Str.ofString "law") scope L fa cd))
      (fun fl s' => R (.ok (.ret (match fl with | .ret v => v | _ => .none))) s')
      (fun e s' => wpAny (model prog w) (callerA.deeper (envOfC (Str.ofString "law") scope L fa cd)) (leaving (envOfC (Str.ofString "law") scope L fa cd) e) (fun _ s'' => R (.error e) s'') (fun e' s'' => R (.error e') s'') s') s := by
  have h : LawAt 0 prog w fa cd L R s :=
    law1 prog w fa cd h₀ L s ls vs ns oc mean mg mb R F N hoc X T hl hi hlen fun h1 tk1 u1 oc1 Dd dvs lr er rvs rows F1 N1 hoc1 hdK hrK hok g1 g2 =>
      law2 prog w fa cd h₀ L _ oc1 Dd dvs lr er rvs rows u1 mean mg mb R X T F1 N1 hoc1 hrK hok g1 g2 fun h2 tk2 u2 lm em mvs F2 N2 hmK =>
        law3 prog w fa cd h₀ L _ oc1 Dd dvs lr er rvs rows u2 lm em mvs mean mg mb R X T F2 N2 hoc1 hrK hmK hok fun h3 tk3 u3 F3 N3 =>
          law4 prog w fa cd h₀ L _ oc1 Dd dvs ns lr er rvs rows u3 mean mg mb R X T F3 N3 hoc1 hdK hlen hrK hok fun h4 tk4 u4 lw ew wvs few W t F4 N4 hwK fok hW =>
            law5 prog w fa cd h₀ L _ lw ew wvs few W t u4 mean mg mb R X T F4 N4 hwK fok hW ret
  have h2 := h body scope hlf
  rw [List.drop_zero] at h2
  exact h2
set_option maxRecDepth 100000 in
set_option maxHeartbeats 8000000 in
theorem the_end : PySem.Challenge.rw_mj0105_01.Holds := by
  refine Mj.hd ?_
  k_go0
  rename_i h₁ tk₁ F oc hoc N X0
  refine law_all _ _ _ _ _ _ _ _ _ _ oc _ _ _ (fun r s' => GoodW _ _ _ _ _ r s') _ _ ⟨_, _, _, _, _, _, _, _, _, _, _, _, _, by k_is⟩ F N hoc (by assumption) (by assumption) (by assumption) (by assumption) (by omega) ?_
  intro h' tk' hk
  refine ⟨.inl ⟨.bool true, .bool true, [], rfl, raisesW_false ?_, ReadsW.bool _, ?_, unshared_nil⟩, hk, rfl, ?_⟩
  · wrow_none_raised
  · kc_post
  · assumption
end Mj
end MjEnd

end SharedC
end SharedB

theorem PySem.Challenge.cw_mj0105_01_holds : PySem.Challenge.rw_mj0105_01.Holds := by
  exact Mj.the_end
