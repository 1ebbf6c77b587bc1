import PyProof.Rows.All
import Wide.All
import OpenK.AllK
import Wide.FinOn
import PySem.Challenge.RW_ny0102_01
set_option Elab.async false
section
open PySem PySem.W PyProof.Rows
set_option Elab.async false
namespace Mine
set_option maxRecDepth 100000
set_option maxHeartbeats 8000000
open_top hd for PySem.Challenge.rw_ny0102_01
end Mine
end
section
open PySem PySem.W PyProof.Rows
set_option Elab.async false
set_option maxRecDepth 100000
namespace Mine

/-- what a call of the function at f does with the ledger -/
def Does (w : World) (f : Addr) (args : List Value) (news : List (Addr × Obj)) (dd uu : Nat) (Post : Value → List (Addr × Obj) → Prop) : Prop :=
  ∀ (dp un : Nat) (gd : Option (List Code)) (cn : Str) (cs : Scope) (a : Addr) (ccd : Value) (cl : List (Str × Addr)) (outer : List Env) (A₀ : Around) (base h₀ : Heap) (L : Addr) (m : Str → Option Value)
    (mean : ExcName → Option Value) (mg mb : Str → Option Value) (s : Shared) (Q E : Value → Shared → Prop),
    Below A₀ base outer h₀ → Fr h₀ L s.heap m → (hd.heap_39 w.params).In h₀ → News h₀ L s.heap news → Top hd.view_39 (looseW hd.view_39 []) mean mg mb h₀ → cs.kind = .function →
    dp + dd < recursionLimit → un + uu < cLine →
    (∀ r news' h' tk', Fr h₀ L h' m → News h₀ L h' news' → Post r news' → Q r { s with heap := h', toks := tk' }) →
    wpAny (model PySem.Challenge.rw_ny0102_01.row.prog w) (ktrTop dp un gd cn cs L a ccd cl outer) (call (.ref f) args) Q E s

/-- where the walk is to halt -/
def AtStop (p : Prop) : Prop := p
theorem atStop {p : Prop} (h : AtStop p) : p := h
theorem Does.use {w : World} {f : Addr} {args : List Value} {news : List (Addr × Obj)} {dd uu : Nat} {Post : Value → List (Addr × Obj) → Prop} (C : Does w f args news dd uu Post)
    {dp un : Nat} {gd : Option (List Code)} {cn : Str} {cs : Scope} {a : Addr} {ccd : Value} {cl : List (Str × Addr)} {outer : List Env} {A₀ : Around} {base h₀ : Heap} {L : Addr} {m : Str → Option Value}
    {mean : ExcName → Option Value} {mg mb : Str → Option Value} {s : Shared} {Q E : Value → Shared → Prop}
    (B : Below A₀ base outer h₀) (F : Fr h₀ L s.heap m) (X : (hd.heap_39 w.params).In h₀) (N : News h₀ L s.heap news) (T : Top hd.view_39 (looseW hd.view_39 []) mean mg mb h₀) (hk : cs.kind = .function)
    (hd : dp + dd < recursionLimit) (hu : un + uu < cLine)
    (ret : ∀ r news' h' tk', Fr h₀ L h' m → News h₀ L h' news' → Post r news' → Q r { s with heap := h', toks := tk' }) :
    wpAny (model PySem.Challenge.rw_ny0102_01.row.prog w) (ktrTop dp un gd cn cs L a ccd cl outer) (call (.ref f) args) Q E s :=
  C _ _ _ _ _ _ _ _ _ _ _ _ _ _ _ _ _ _ _ _ B F X N T hk hd hu ret
end Mine
end
section
set_option Elab.async false
set_option maxRecDepth 100000
namespace Mine
open PySem PySem.W PyProof.Rows PySem.SeqAt PySem.MeetsSeq PySem.MeetsSeq3
open AutoSeq1 (wpAny_loadPart')

def strLt (x y : Str) : Bool := decide (x.cps.toList < y.cps.toList)
/-- the order of two lists of texts -/
def lexLt : List Str → List Str → Bool
  | _, [] => false
  | [], _ :: _ => true
  | x :: xs, y :: ys => if x.cps.toList == y.cps.toList then lexLt xs ys else strLt x y

theorem strs_len : ∀ {vs : List Value} {xs : List Str}, StrsAre vs xs → vs.length = xs.length
  | _, _, .nil => rfl
  | _, _, .cons _ _ h => congrArg (· + 1) (strs_len h)
theorem strs_get : ∀ {vs : List Value} {xs : List Str}, StrsAre vs xs → ∀ i (h : i < xs.length), ∃ t, vs[i]? = some (.str xs[i] t)
  | _, _, .nil, _, h => absurd h (Nat.not_lt_zero _)
  | _, _, .cons x t _, 0, _ => ⟨t, rfl⟩
  | _, _, .cons _ _ h, i + 1, hi => strs_get h i (Nat.lt_of_succ_lt_succ hi)

theorem lt_loop (l b : Addr) (items items2 : List Value) (xs ys : List Str) (hx : StrsAre items xs) (hy : StrsAre items2 ys) (n n2 : Nat) (dd dd2 : Option Addr) (sl sl2 : Array (Option Value)) (k : Nat) :
    ∀ i : Nat, xs.length - i = k → i ≤ xs.length → i ≤ ys.length → Meets (Builtin.«list.__eq__.loop» ⟨[.ref l, .ref b, rawInt i, rawInt 0], []⟩)
      (fun _ R s => s.heap.get? l = some { cls := .type "list", dict := dd, data := .seq items.toArray n, slots := sl } ∧ s.heap.get? b = some { cls := .type "list", dict := dd2, data := .seq items2.toArray n2, slots := sl2 } ∧
        R (.ok (.ret (.bool (lexLt (xs.drop i) (ys.drop i))))) s) := by
  have lx := strs_len hx
  have ly := strs_len hy
  induction k with
  | zero =>
    intro i hk h1 h2 prog w A R s h
    obtain ⟨hp, g, d, tk, os⟩ := s; obtain ⟨hl, hb, h⟩ := h
    wp_walk using wpAny_loadPart' hl, wpAny_loadPart' hb
    have hi1 : items.toArray[((i : Nat) : Int).toNat]? = none := by simp; omega
    have hd : xs.drop i = [] := by simp; omega
    rw [hd] at h
    rw [hi1]
    wp_walk using wpAny_loadPart' hl, wpAny_loadPart' hb
    show R (.ok (.ret (.bool (decide (items.toArray.size < items2.toArray.size))))) _
    have e : lexLt [] (ys.drop i) = decide (items.toArray.size < items2.toArray.size) := by
      simp only [List.size_toArray, lx, ly]
      cases hq : ys.drop i with
      | nil => have : ys.length ≤ i := by simpa using hq
               simp [lexLt]; omega
      | cons y r => have : i < ys.length := by
                      rcases Nat.lt_or_ge i ys.length with q | q
                      · exact q
                      · rw [List.drop_of_length_le q] at hq; cases hq
                    simp [lexLt]; omega
    rw [← e]
    exact h
  | succ k ih =>
    intro i hk h1 h2 prog w A R s h
    obtain ⟨hp, g, d, tk, os⟩ := s; obtain ⟨hl, hb, h⟩ := h
    wp_walk using wpAny_loadPart' hl, wpAny_loadPart' hb
    have hlt : i < xs.length := by omega
    obtain ⟨t, ht⟩ := strs_get hx i hlt
    have hi1 : items.toArray[((i : Nat) : Int).toNat]? = some (.str xs[i] t) := by simpa using ht
    have hc : ((i : Int) + 1) = ((i + 1 : Nat) : Int) := by push_cast; rfl
    rcases Nat.lt_or_ge i ys.length with hlt2 | hge
    · obtain ⟨u, hu⟩ := strs_get hy i hlt2
      have hi2 : items2.toArray[((i : Nat) : Int).toNat]? = some (.str ys[i] u) := by simpa using hu
      rw [List.drop_eq_getElem_cons hlt, List.drop_eq_getElem_cons hlt2] at h
      rw [hi1, hi2]
      refine wpAny_bind (SeqRoads2.EqGives.str xs[i] ys[i] t u prog w _ _ _ _ ?_)
      simp only [lexLt] at h
      cases hb' : (xs[i].cps.toList == ys[i].cps.toList) with
      | true =>
        rw [hb', if_pos rfl] at h
        wp_walk
        rw [hc]
        exact ⟨plainId_quiet plain_eq_loop _, codeAny_builtin entry_eq_loop (by
          rw [Around.under_plainId plain_eq_loop _]
          exact ih (i + 1) (by omega) hlt hlt2 prog w A R _ ⟨hl, hb, h⟩)⟩
      | false =>
        rw [hb', if_neg (by simp)] at h
        wp_walk using wpAny_loadPart' hl, wpAny_loadPart' hb
        rw [hi1, hi2]
        refine wpAny_bind (PySem.P.lt_str (x := xs[i]) (y := ys[i]) ?_)
        wp_walk
        exact h
    · have hi2 : items2.toArray[((i : Nat) : Int).toNat]? = none := by simp; omega
      have hd : ys.drop i = [] := by simp; omega
      rw [hd] at h
      rw [hi1, hi2]
      wp_walk using wpAny_loadPart' hl, wpAny_loadPart' hb
      show R (.ok (.ret (.bool (decide (items.toArray.size < items2.toArray.size))))) _
      have e : decide (items.toArray.size < items2.toArray.size) = false := by simp only [List.size_toArray, lx, ly]; simp; omega
      rw [e]
      rw [List.drop_eq_getElem_cons hlt] at h
      exact h

theorem list_lt (l b : Addr) (items items2 : List Value) (xs ys : List Str) (hx : StrsAre items xs) (hy : StrsAre items2 ys) (n n2 : Nat) (dd dd2 : Option Addr) (sl sl2 : Array (Option Value)) :
    Meets (Builtin.«list.__lt__» ⟨[.ref l, .ref b], []⟩)
      (fun _ R s => s.heap.get? l = some { cls := .type "list", dict := dd, data := .seq items.toArray n, slots := sl } ∧ s.heap.get? b = some { cls := .type "list", dict := dd2, data := .seq items2.toArray n2, slots := sl2 } ∧
        R (.ok (.ret (.bool (lexLt xs ys)))) s) := by
  intro prog w A R s h
  obtain ⟨hp, g, d, tk, os⟩ := s; obtain ⟨hl, hb, h⟩ := h
  have f3 := AutoSeq1.sub_list_list
  wp_walk using wpAny_loadPart' hl, wpAny_loadPart' hb
  exact ⟨plainId_quiet plain_eq_loop _, codeAny_builtin entry_eq_loop (by
    rw [Around.under_plainId plain_eq_loop _]
    exact lt_loop l b items items2 xs ys hx hy n n2 dd dd2 sl sl2 _ 0 rfl (Nat.zero_le _) (Nat.zero_le _) prog w A R _ ⟨hl, hb, h⟩)⟩

section
variable {prog : Program} {w : World} {A : Around} {E : Value → Shared → Prop} {s : Shared} {h₀ : Heap} {L : Addr} {news : List (Addr × Obj)} {a b : Addr} {vs us : List Value} {xs ys : List Str} {n k : Nat}
theorem rc_lt {Q : Value → Shared → Prop} (ho : s.heap.get? a = some (listOf vs.toArray n)) (ho2 : s.heap.get? b = some (listOf us.toArray k)) (hx : StrsAre vs xs) (hy : StrsAre us ys) (hu : A.units < cLine)
    (h : Q (.bool (lexLt xs ys)) s) : wpAny (model prog w) A (richCompare .Lt (.ref a) (.ref b)) Q E s :=
  richCompare_meets_room (op := .Lt) ⟨_, ho, rfl⟩ ⟨_, ho2, rfl⟩ F.slot_list_lt F.entry_list_lt (F.args_list_lt_2 _ _) (list_lt a b vs us xs ys hx hy n k none none #[] #[])
    ⟨ho, ho2, show Value.bool (lexLt xs ys) ≠ Value.notImplemented ∧ Q (.bool (lexLt xs ys)) s from ⟨(fun x => nomatch x), h⟩⟩ hu
theorem cmp_lt {Q : Value → Shared → Prop} (N : News h₀ L s.heap news) (ha : (a, listOf vs.toArray n) ∈ news) (hb : (b, listOf us.toArray k) ∈ news) (hx : StrsAre vs xs) (hy : StrsAre us ys) (hu : A.units < cLine)
    (h : Q (.bool (lexLt xs ys)) s) : wpAny (model prog w) A (compareOp .Lt (.ref a) (.ref b)) Q E s :=
  cmp_ofLt (rc_lt (N _ ha).1 (N _ hb).1 hx hy hu h)
end
end Mine
end
section
namespace Mine
section
variable {α : Type}
/-- _siftdown from the place p, x in hand -/
def sdn (lt : α → α → Bool) (x : α) (st : Nat) (l : List α) (p : Nat) : List α :=
  if st < p then
    match l[(p - 1) / 2]? with
    | some y => if lt x y then sdn lt x st (l.set p y) ((p - 1) / 2) else l.set p x
    | none => l.set p x
  else l.set p x
termination_by p
decreasing_by omega
theorem sdn_up {lt : α → α → Bool} {x y : α} {st : Nat} {l : List α} {p : Nat} (h : st < p) (hy : l[(p - 1) / 2]? = some y) (hl : lt x y = true) : sdn lt x st l p = sdn lt x st (l.set p y) ((p - 1) / 2) := by
  rw [sdn, if_pos h, hy]
  simp only [hl, if_true]
theorem sdn_stay {lt : α → α → Bool} {x y : α} {st : Nat} {l : List α} {p : Nat} (h : st < p) (hy : l[(p - 1) / 2]? = some y) (hl : lt x y = false) : sdn lt x st l p = l.set p x := by
  rw [sdn, if_pos h, hy]
  simp only [hl, Bool.false_eq_true, if_false]
theorem sdn_top {lt : α → α → Bool} {x : α} {st : Nat} {l : List α} {p : Nat} (h : ¬ st < p) : sdn lt x st l p = l.set p x := by
  rw [sdn, if_neg h]
/-- the child that goes up -/
def pick (lt : α → α → Bool) (e : Nat) (l : List α) (c : Nat) : Nat :=
  if c + 1 < e then
    match l[c]?, l[c + 1]? with
    | some y, some z => if lt y z then c else c + 1
    | _, _ => c
  else c
theorem pick_ge (lt : α → α → Bool) (e : Nat) (l : List α) (c : Nat) : c ≤ pick lt e l c := by
  unfold pick
  split
  · split
    · split <;> omega
    · omega
  · omega
theorem pick_lt (lt : α → α → Bool) (e : Nat) (l : List α) (c : Nat) (h : c < e) : pick lt e l c < e := by
  unfold pick
  split
  · split
    · split <;> omega
    · omega
  · omega
/-- _siftup's own loop -/
def sup (lt : α → α → Bool) (e : Nat) (l : List α) (p : Nat) : List α × Nat :=
  if h : 2 * p + 1 < e then
    match l[pick lt e l (2 * p + 1)]? with
    | some y => sup lt e (l.set p y) (pick lt e l (2 * p + 1))
    | none => (l, p)
  else (l, p)
termination_by e - p
decreasing_by
  have h1 := pick_ge lt e l (2 * p + 1)
  have h2 := pick_lt lt e l (2 * p + 1) h
  omega
theorem sup_go {lt : α → α → Bool} {e : Nat} {l : List α} {p : Nat} {y : α} (h : 2 * p + 1 < e) (hy : l[pick lt e l (2 * p + 1)]? = some y) : sup lt e l p = sup lt e (l.set p y) (pick lt e l (2 * p + 1)) := by
  rw [sup, dif_pos h, hy]
theorem sup_end {lt : α → α → Bool} {e : Nat} {l : List α} {p : Nat} (h : ¬ 2 * p + 1 < e) : sup lt e l p = (l, p) := by
  rw [sup, dif_neg h]
theorem pick_right {lt : α → α → Bool} {e : Nat} {l : List α} {c : Nat} {y z : α} (h : c + 1 < e) (hy : l[c]? = some y) (hz : l[c + 1]? = some z) (hl : lt y z = false) : pick lt e l c = c + 1 := by
  simp [pick, h, hy, hz, hl]
theorem pick_left {lt : α → α → Bool} {e : Nat} {l : List α} {c : Nat} {y z : α} (h : c + 1 < e) (hy : l[c]? = some y) (hz : l[c + 1]? = some z) (hl : lt y z = true) : pick lt e l c = c := by
  simp [pick, h, hy, hz, hl]
theorem pick_one {lt : α → α → Bool} {e : Nat} {l : List α} {c : Nat} (h : ¬ c + 1 < e) : pick lt e l c = c := by
  simp [pick, h]
/-- _siftup -/
def siftup (lt : α → α → Bool) (l : List α) (p : Nat) : List α :=
  match l[p]? with
  | some x => sdn lt x p ((sup lt l.length l p).1.set (sup lt l.length l p).2 x) (sup lt l.length l p).2
  | none => l
/-- heappush -/
def pushL (lt : α → α → Bool) (l : List α) (v : α) : List α := sdn lt v 0 (l ++ [v]) l.length
/-- heappop of init ++ [last] -/
def popL (lt : α → α → Bool) (init : List α) (last : α) : α × List α :=
  match init with
  | [] => (last, [])
  | y :: t => (y, siftup lt (last :: t) 0)
/-- heapify -/
def heapifyL (lt : α → α → Bool) (l : List α) : List α := (List.range (l.length / 2)).reverse.foldl (siftup lt) l
end
end Mine
end
section
set_option Elab.async false
set_option maxRecDepth 100000
namespace Mine
open PySem PySem.W PyProof.Rows

/-- the value stands for a list of these texts -/
def RowAt (rest : List (Addr × Obj)) (v : Value) (xs : List Str) : Prop := ∃ a vs n, v = .ref a ∧ (a, listOf vs.toArray n) ∈ rest ∧ StrsAre vs xs
theorem RowAt.mono {l l' : List (Addr × Obj)} {v : Value} {xs : List Str} (h : RowAt l v xs) (hs : ∀ p ∈ l, p ∈ l') : RowAt l' v xs :=
  let ⟨a, vs, n, e, hm, hx⟩ := h; ⟨a, vs, n, e, hs _ hm, hx⟩
theorem RowAt.cons {l : List (Addr × Obj)} {v : Value} {xs : List Str} {p : Addr × Obj} (h : RowAt l v xs) : RowAt (p :: l) v xs := h.mono fun _ => List.Mem.tail _

section
variable {prog : Program} {w : World} {A : Around} {E : Value → Shared → Prop} {s : Shared} {h₀ : Heap} {L : Addr} {m : Str → Option Value} {news rest : List (Addr × Obj)} {H : Addr} {its : List Value} {n : Nat}
theorem cmp_rows {v u : Value} {xs ys : List Str} {Q : Value → Shared → Prop} (N : News h₀ L s.heap news) (hv : RowAt news v xs) (hw : RowAt news u ys) (hu : A.units < cLine)
    (h : Q (.bool (lexLt xs ys)) s) : wpAny (model prog w) A (compareOp .Lt v u) Q E s := by
  obtain ⟨a, vs, n, rfl, ha, hx⟩ := hv
  obtain ⟨b, us, k, rfl, hb, hy⟩ := hw
  exact cmp_lt N ha hb hx hy hu h
theorem set_any {k : Nat} {t : Tok} {v : Value} {Q : Unit → Shared → Prop} (F : Fr h₀ L s.heap m) (N : News h₀ L s.heap ((H, listOf its.toArray n) :: rest)) (hH : ∀ p ∈ rest, p.1 ≠ H) (hk : k < its.length) (hl : its.length < 64)
    (h : ∀ h', Fr h₀ L h' m → News h₀ L h' ((H, listOf (its.set k v).toArray n) :: rest) → Q () { s with heap := h' }) :
    wpAny (model prog w) A (setItem (.ref H) (.int (k : Nat) t) v) Q E s := by
  have z := N (H, listOf its.toArray n) (.head _)
  refine ki_setAt z.1 (by omega) (by omega) (by simp; omega) (h _ (F.change (Heap.SameBut.update ..) z.2.1 z.2.2) (ki_turn (pre := []) _ N (fun _ h => nomatch h) hH ?_ ?_))
  · show its.toArray.setIfInBounds k v = (its.set k v).toArray
    apply Array.toList_inj.mp
    simp
  · simp
theorem get_any {value slice : PySem.Expr} {k : Nat} {u : Tok} {x : Value} {Q : Value → Shared → Prop} (N : News h₀ L s.heap news) (hm : (H, listOf its.toArray n) ∈ news) (hx : its[k]? = some x) (hl : its.length < 64) (h : Q x s)
    (hs : subscripted slice false (.ref H) (.int (k : Nat) u) = operate [.ref H, .int (k : Nat) u] (getItem (.ref H) (.int (k : Nat) u)) := by with_unfolding_all rfl) (hg : ∀ r, letTemporaryGo value (.ref H) r = pure () := by intro _; with_unfolding_all rfl) :
    wpAny (model prog w) A (subscriptTail value slice (.ref H) (.int (k : Nat) u)) Q E s := by
  have hk : k < its.length := by
    rcases Nat.lt_or_ge k its.length with h | h
    · exact h
    · rw [List.getElem?_eq_none h] at hx; cases hx
  exact kim_list N hm rfl rfl (by omega) (by omega) (by simpa using hx) h hs hg
theorem len_any {Q : Value → Shared → Prop} (N : News h₀ L s.heap news) (hm : (H, listOf its.toArray n) ∈ news) (hl : its.length < 100) (h : Q (.int (its.length : Nat) (s.toks + 1)) { s with toks := s.toks + 1 + 1 }) :
    wpAny (model prog w) A (call (.builtin "len") [.ref H]) Q E s :=
  PyProof.Rows.len_list (PySem.IsL.isList (n := n) (N _ hm).1) (by simp; omega) (by simpa using h)
theorem get_at {value slice : PySem.Expr} {i : Int} (k : Nat) {u : Tok} {x : Value} {Q : Value → Shared → Prop} (N : News h₀ L s.heap news) (hm : (H, listOf its.toArray n) ∈ news) (hi : i = ((k : Nat) : Int)) (hx : its[k]? = some x) (hl : its.length < 64) (h : Q x s)
    (hs : subscripted slice false (.ref H) (.int i u) = operate [.ref H, .int i u] (getItem (.ref H) (.int i u)) := by with_unfolding_all rfl) (hg : ∀ r, letTemporaryGo value (.ref H) r = pure () := by intro _; with_unfolding_all rfl) :
    wpAny (model prog w) A (subscriptTail value slice (.ref H) (.int i u)) Q E s := by
  subst hi; exact get_any N hm hx hl h hs hg
theorem set_at {i : Int} (k : Nat) {t : Tok} {v : Value} {Q : Unit → Shared → Prop} (F : Fr h₀ L s.heap m) (N : News h₀ L s.heap ((H, listOf its.toArray n) :: rest)) (hi : i = ((k : Nat) : Int)) (hH : ∀ p ∈ rest, p.1 ≠ H) (hk : k < its.length) (hl : its.length < 64)
    (h : ∀ h', Fr h₀ L h' m → News h₀ L h' ((H, listOf (its.set k v).toArray n) :: rest) → Q () { s with heap := h' }) :
    wpAny (model prog w) A (setItem (.ref H) (.int i t) v) Q E s := by
  subst hi; exact set_any F N hH hk hl h
theorem append_any {x : Value} {Q : Value → Shared → Prop} (F : Fr h₀ L s.heap m) (N : News h₀ L s.heap ((H, listOf its.toArray n) :: rest)) (hH : ∀ p ∈ rest, p.1 ≠ H) (hl : its.length < 1000)
    (h : ∀ h' n', Fr h₀ L h' m → News h₀ L h' ((H, listOf (its ++ [x]).toArray n') :: rest) → Q .none { s with heap := h' }) : wpAny (model prog w) A (call (.builtin "list.append") [.ref H, x]) Q E s := by
  refine append_K F N (.head hH) (fun h' F' N' => h h' (n + 1) F' ?_) (by rw [PySem.sizeLine_eq]; simp; omega)
  rw [← List.push_toArray]; exact N'
theorem pop_any {init : List Value} {x : Value} {Q : Value → Shared → Prop} (F : Fr h₀ L s.heap m) (N : News h₀ L s.heap ((H, listOf (init ++ [x]).toArray n) :: rest)) (hH : ∀ p ∈ rest, p.1 ≠ H) (hl : init.length < 1000)
    (h : ∀ h' n', Fr h₀ L h' m → News h₀ L h' ((H, listOf init.toArray n') :: rest) → Q x { s with heap := h' }) : wpAny (model prog w) A (call (.builtin "list.pop") [.ref H]) Q E s :=
  kl_pop F N (p := init) (y := x) (kpa_last x init) (.head hH) (by rw [PySem.sizeLine_eq]; simp; omega) fun h' F' N' => h h' _ F' N'
theorem slice_upto {value slice : PySem.Expr} {k : Nat} {t : Tok} {Q : Value → Shared → Prop} (F : Fr h₀ L s.heap m) (N : News h₀ L s.heap news) (hm : (H, listOf its.toArray n) ∈ news) (hl : its.length < 100)
    (h : ∀ D h', Fr h₀ L h' m → News h₀ L h' ((D, listOf (its.take k).toArray 0) :: news) → (∀ p ∈ news, p.1 < D) → Q (.ref D) { s with heap := h' })
    (hs : subscripted slice false (.ref H) (.ref s.heap.objs.size) = operate [.ref s.heap.objs.size, .ref H] (getItem (.ref H) (.ref s.heap.objs.size)) := by with_unfolding_all rfl) (ht : ∀ r, letTemporaryGo value (.ref H) r = pure () := by intro _; with_unfolding_all rfl) :
    wpAny (model prog w) A (subscriptTail value slice (.ref H) (.ref s.heap.objs.size)) Q E { s with heap := s.heap.push { cls := .type "slice", data := .fields #[.none, .int (k : Nat) t, .none] } } :=
  kms_slice_lit F N (PySem.IsL.isList (n := n) (N _ hm).1) .none (.int _ _) (by simp only [kms_pick, kms_lo, kms_hi, List.drop_zero, Nat.sub_zero, if_neg (show ¬ ((k : Nat) : Int) < 0 by omega), Int.toNat_natCast]; exact kmk_take_min _ _) h hs ht (by rw [PySem.sizeLine_eq]; simp; omega)
theorem slice_from {value slice : PySem.Expr} {k : Nat} {t : Tok} {Q : Value → Shared → Prop} (F : Fr h₀ L s.heap m) (N : News h₀ L s.heap news) (hm : (H, listOf its.toArray n) ∈ news) (hl : its.length < 100)
    (h : ∀ D h', Fr h₀ L h' m → News h₀ L h' ((D, listOf (its.drop k).toArray 0) :: news) → (∀ p ∈ news, p.1 < D) → Q (.ref D) { s with heap := h' })
    (hs : subscripted slice false (.ref H) (.ref s.heap.objs.size) = operate [.ref s.heap.objs.size, .ref H] (getItem (.ref H) (.ref s.heap.objs.size)) := by with_unfolding_all rfl) (ht : ∀ r, letTemporaryGo value (.ref H) r = pure () := by intro _; with_unfolding_all rfl) :
    wpAny (model prog w) A (subscriptTail value slice (.ref H) (.ref s.heap.objs.size)) Q E { s with heap := s.heap.push { cls := .type "slice", data := .fields #[.int (k : Nat) t, .none, .none] } } :=
  kms_slice_lit F N (PySem.IsL.isList (n := n) (N _ hm).1) (.int _ _) .none (by
    simp only [kms_pick, kms_lo, kms_hi, if_neg (show ¬ ((k : Nat) : Int) < 0 by omega), Int.toNat_natCast]
    rw [kmk_drop_min, List.take_of_length_le]
    simp; omega) h hs ht (by rw [PySem.sizeLine_eq]; simp; omega)
theorem strs_take : ∀ {vs : List Value} {xs : List Str}, StrsAre vs xs → ∀ k, StrsAre (vs.take k) (xs.take k)
  | _, _, .nil, k => by simpa using StrsAre.nil
  | _, _, .cons x t h, 0 => .nil
  | _, _, .cons x t h, k + 1 => .cons x t (strs_take h k)
theorem strs_drop : ∀ {vs : List Value} {xs : List Str}, StrsAre vs xs → ∀ k, StrsAre (vs.drop k) (xs.drop k)
  | _, _, .nil, k => by simpa using StrsAre.nil
  | _, _, .cons x t h, 0 => .cons x t h
  | _, _, .cons _ _ h, k + 1 => strs_drop h k
theorem strs_append : ∀ {vs us : List Value} {xs ys : List Str}, StrsAre vs xs → StrsAre us ys → StrsAre (vs ++ us) (xs ++ ys)
  | _, _, _, _, .nil, h => h
  | _, _, _, _, .cons x t g, h => .cons x t (strs_append g h)
theorem sum_le (c : Nat) : ∀ (xs : List Str), (∀ x ∈ xs, x.length ≤ c) → (xs.map (·.length)).sum ≤ xs.length * c
  | [], _ => Nat.zero_le _
  | x :: xs, h => by
    have h1 := sum_le c xs fun y hy => h y (.tail _ hy)
    have h2 := h x (.head _)
    rw [List.map_cons, List.sum_cons, List.length_cons, Nat.add_mul, Nat.one_mul]
    omega
theorem join_any {xs : List Str} {x : Str} {t : Tok} {Q : Value → Shared → Prop} (N : News h₀ L s.heap news) (hm : (H, listOf its.toArray n) ∈ news) (hx : StrsAre its xs) (hl : xs.length < 100) (hc : ∀ y ∈ xs, y.length ≤ 10) (hs : x.length ≤ 10)
    (h : ∀ t' k, Q (.str (Txt.join x xs) t') { s with toks := k }) : wpAny (model prog w) A (call (.builtin "str.join") [.str x t, .ref H]) Q E s := by
  refine join_list (PySem.IsL.isList (n := n) (N _ hm).1) (by simpa using hx) ?_ h
  have h1 := sum_le 10 xs hc
  have h2 : xs.length * x.length ≤ xs.length * 10 := Nat.mul_le_mul_left _ hs
  omega
end
theorem two_ps {m : Str → Option Value} {a b : Str} {v u : Value} (h1 : m a = some v) (h2 : m b = some u) : ∀ p ∈ [(a, v), (b, u)], m p.1 = some p.2 := by
  intro p hp
  rcases List.mem_cons.mp hp with rfl | hp
  · exact h1
  · cases List.mem_singleton.mp hp; exact h2
theorem one_ps {m : Str → Option Value} {a : Str} {v : Value} (h1 : m a = some v) : ∀ p ∈ [(a, v)], m p.1 = some p.2 := by
  intro p hp
  cases List.mem_singleton.mp hp; exact h1
theorem fdiv_half {p : Nat} (h : 1 ≤ p) : ((p : Int) - 1).fdiv (2 ^ Int.toNat 1) = (((p - 1) / 2 : Nat) : Int) := by
  have e : ((p : Int) - 1) = ((p - 1 : Nat) : Int) := by omega
  rw [e, Int.fdiv_eq_ediv_of_nonneg _ (by decide)]
  show ((p - 1 : Nat) : Int) / 2 = _
  omega
end Mine
end
section
namespace Mine
section
variable {α : Type} {lt : α → α → Bool}
theorem sdn_length (x : α) (st : Nat) : ∀ (p : Nat) (l : List α), (sdn lt x st l p).length = l.length := by
  intro p
  induction p using Nat.strongRecOn with
  | ind p ih =>
    intro l
    rw [sdn]
    split
    · split
      · split
        · rw [ih _ (by omega), List.length_set]
        · rw [List.length_set]
      · rw [List.length_set]
    · rw [List.length_set]
theorem mem_set' {l : List α} {i : Nat} {a v : α} (h : v ∈ l.set i a) : v ∈ l ∨ v = a := (List.mem_or_eq_of_mem_set h)
theorem sdn_mem (x : α) (st : Nat) : ∀ (p : Nat) (l : List α) (v : α), v ∈ sdn lt x st l p → v ∈ l ∨ v = x := by
  intro p
  induction p using Nat.strongRecOn with
  | ind p ih =>
    intro l v
    rw [sdn]
    split
    · split
      · rename_i y hy
        split
        · intro h
          rcases ih _ (by omega) _ _ h with h | h
          · rcases mem_set' h with h | h
            · exact .inl h
            · exact .inl (h ▸ List.mem_of_getElem? hy)
          · exact .inr h
        · exact mem_set'
      · exact mem_set'
    · exact mem_set'
theorem sup_spec (e : Nat) : ∀ (k p : Nat) (l : List α), e - p = k → (sup lt e l p).1.length = l.length ∧ (∀ v ∈ (sup lt e l p).1, v ∈ l) ∧ (p < e → (sup lt e l p).2 < e) ∧ p ≤ (sup lt e l p).2 := by
  intro k
  induction k using Nat.strongRecOn with
  | ind k ih =>
    intro p l hk
    rw [sup]
    split
    · rename_i h
      have h1 := pick_ge lt e l (2 * p + 1)
      have h2 := pick_lt lt e l (2 * p + 1) h
      split
      · rename_i y hy
        obtain ⟨a, b, c, d⟩ := ih (e - pick lt e l (2 * p + 1)) (by omega) (pick lt e l (2 * p + 1)) (l.set p y) rfl
        refine ⟨by rw [a, List.length_set], fun v hv => ?_, fun _ => c h2, by omega⟩
        rcases mem_set' (b v hv) with h | h
        · exact h
        · exact h ▸ List.mem_of_getElem? hy
      · exact ⟨rfl, fun _ h => h, fun h => h, Nat.le_refl _⟩
    · exact ⟨rfl, fun _ h => h, fun h => h, Nat.le_refl _⟩
theorem siftup_length (l : List α) (p : Nat) : (siftup lt l p).length = l.length := by
  unfold siftup
  split
  · rw [sdn_length, List.length_set, (sup_spec _ _ _ _ rfl).1]
  · rfl
theorem siftup_mem (l : List α) (p : Nat) (v : α) (h : v ∈ siftup lt l p) : v ∈ l := by
  unfold siftup at h
  split at h
  · rename_i x hx
    rcases sdn_mem _ _ _ _ _ h with h | h
    · rcases mem_set' h with h | h
      · exact (sup_spec _ _ _ _ rfl).2.1 v h
      · exact h ▸ List.mem_of_getElem? hx
    · exact h ▸ List.mem_of_getElem? hx
  · exact h
theorem pushL_length (l : List α) (v : α) : (pushL lt l v).length = l.length + 1 := by
  unfold pushL
  rw [sdn_length]; simp
theorem pushL_mem (l : List α) (v x : α) (h : x ∈ pushL lt l v) : x ∈ l ∨ x = v := by
  unfold pushL at h
  rcases sdn_mem _ _ _ _ _ h with h | h
  · simpa using h
  · exact .inr h
theorem foldl_siftup (js : List Nat) : ∀ (l : List α), (js.foldl (siftup lt) l).length = l.length ∧ ∀ x ∈ js.foldl (siftup lt) l, x ∈ l := by
  induction js with
  | nil => exact fun l => ⟨rfl, fun _ h => h⟩
  | cons j js ih =>
    intro l
    obtain ⟨a, b⟩ := ih (siftup lt l j)
    exact ⟨a.trans (siftup_length l j), fun x hx => siftup_mem l j x (b x hx)⟩
theorem heapify_length (l : List α) : (heapifyL lt l).length = l.length := (foldl_siftup _ _).1
theorem heapify_mem (l : List α) (x : α) (h : x ∈ heapifyL lt l) : x ∈ l := (foldl_siftup _ _).2 x h
end
end Mine
end
section
open PySem PySem.W PyProof.Rows
set_option Elab.async false
set_option maxRecDepth 100000
set_option maxHeartbeats 8000000
namespace Mine
local macro_rules | `(tactic| walk_at "exec While Compare cons nil") => `(tactic| refine atStop ?_)
local macro_rules | `(tactic| walk_at "KswEnd") => `(tactic| refine atStop ?_)
local macro_rules | `(tactic| tb_rel) => `(tactic| (intro z h2 h3; simp only [List.forall_mem_cons, List.not_mem_nil, false_implies, implies_true, and_true, ne_eq, List.contains_cons, List.contains_nil, Bool.or_false, Bool.or_eq_false_iff, beq_eq_false_iff_ne] at h2 h3; simp [kstB, h2, h3]))
local macro_rules | `(tactic| ktr_unf) => `(tactic| repeat' (first | (k_unfold; (try dsimp only)) | (walk1; (try dsimp only)) | (dsimp only; walk1)))
theorem siftdown_ (w : World) (key : Value → List Str) (H : Addr) (its : List Value) (n : Nat) (rest : List (Addr × Obj)) (sp pos : Nat) (ts tp : Tok) (x : Value) (hx : its[pos]? = some x) (hlen : its.length < 64)
    (hr : ∀ v ∈ its, RowAt rest v (key v)) (hH : ∀ p ∈ rest, p.1 ≠ H) :
    Does w 111 [.ref H, .int sp ts, .int pos tp] ((H, listOf its.toArray n) :: rest) 10 100
      (fun r news' => r = .none ∧ ∃ n', news' = (H, listOf (sdn (fun a b => lexLt (key a) (key b)) x sp its pos).toArray n') :: rest) := by
  have hlt : pos < its.length := by
    rcases Nat.lt_or_ge pos its.length with h | h
    · exact h
    · rw [List.getElem?_eq_none h] at hx; cases hx
  unfold Does
  k_fill
  intro dp un gd cn cs a ccd cl outer A₀ base h₀ L m mean mg mb s Q E B F X N T hk hd hu hret
  refine wpAny_call ?_
  k_dflt ktr_enter
  rename_i g' L' h' FG' F' N' B' X' T'
  replace F' : Fr g' L' h' (fun y => List.lookup y [(Str.ofString "pos", .int pos tp), (Str.ofString "startpos", .int sp ts), (Str.ofString "heap", .ref H)]) := by with_unfolding_all exact F'
  ktr_unf
  with_unfolding_all refine get_any (by k_asm) (List.Mem.head _) hx hlen ?_
  ktr_unf
  rename_i h1 F1 N1
  unfold AtStop
  with_unfolding_all refine ksw_while (fun c : List Value × Nat × Nat × Tok => (H, listOf c.1.toArray c.2.1) :: rest) (fun c : List Value × Nat × Nat × Tok => [(Str.ofString "pos", .int (c.2.2.1 : Nat) c.2.2.2)]) (fun _ => True) [Str.ofString "parentpos", Str.ofString "parent"] (fun c : List Value × Nat × Nat × Tok => c.1.length = its.length ∧ (∀ v ∈ c.1, v ∈ its) ∧ c.2.2.1 < its.length ∧ sdn (fun a b => lexLt (key a) (key b)) x sp c.1 c.2.2.1 = sdn (fun a b => lexLt (key a) (key b)) x sp its pos) (fun c : List Value × Nat × Nat × Tok => c.2.2.1) (its, n, pos, tp) F1 N1 trivial (by intro p hp; cases List.mem_singleton.mp hp; rfl) ⟨rfl, fun _ h => h, hlt, rfl⟩ ?_ ?hE
  case hE => passes_own
  clear F1 N1
  rintro ⟨its1, n1, pos1, t1⟩ u h2 tk2 - ⟨hl1, hi1, hq1, he1⟩ F2 N2
  dsimp only at hl1 hi1 hq1 he1 F2 N2
  have hxm : x ∈ its := List.mem_of_getElem? hx
  ktr_unf
  · rename Fr _ _ _ _ => F3
    rename News _ _ _ _ => N3
    have hp : 1 ≤ pos1 := by omega
    rw [fdiv_half hp] at F3 ⊢
    obtain ⟨y, hy⟩ : ∃ y, its1[(pos1 - 1) / 2]? = some y := ⟨its1[(pos1 - 1) / 2]'(by omega), List.getElem?_eq_getElem _⟩
    have hym : y ∈ its := hi1 _ (List.mem_of_getElem? hy)
    with_unfolding_all refine get_any (by k_asm) (List.Mem.head _) hy (by omega) ?_
    ktr_unf
    with_unfolding_all refine cmp_rows (by k_asm) (hr x hxm).cons (hr y hym).cons (by show un + 3 < cLine; omega) ?_
    ktr_unf
    · rename Fr _ _ _ _ => F3
      rename News _ _ _ _ => N3
      with_unfolding_all refine set_any F3 N3 hH (by omega) (by omega) ?_
      intro h4 F4 N4
      ktr_unf
      unfold AtStop
      rename Fr _ _ _ _ => F5
      rename News _ _ _ _ => N5
      rename lexLt _ _ = true => hc
      rw [sdn_up (y := y) (by omega) hy hc] at he1
      refine ksw_end (its1.set pos1 y, n1, (pos1 - 1) / 2, _) F5 N5 (fun p hp => hp) trivial (by intro p hp; cases List.mem_singleton.mp hp; rfl) (by tb_rel) ⟨?_, ?_, ?_, he1⟩ ?_
      · rw [List.length_set]; exact hl1
      · intro v hv
        rcases List.mem_or_eq_of_mem_set hv with h | h
        · exact hi1 v h
        · exact h ▸ hym
      · show (pos1 - 1) / 2 < _
        omega
      · show (pos1 - 1) / 2 < pos1
        omega
    · rename Fr _ _ _ _ => F3
      rename News _ _ _ _ => N3
      rename lexLt _ _ = false => hc
      with_unfolding_all refine set_any F3 N3 hH (by omega) (by omega) ?_
      intro h4 F4 N4
      ktr_unf
      rename Fr _ _ _ _ => F5
      rename News _ _ _ _ => N5
      rw [sdn_stay (y := y) (by omega) hy hc] at he1
      exact hret _ _ _ _ F5 N5 ⟨rfl, n1, by rw [← he1]⟩
  · with_unfolding_all refine set_any F2 N2 hH (by omega) (by omega) ?_
    intro h4 F4 N4
    ktr_unf
    rename Fr _ _ _ _ => F5
    rename News _ _ _ _ => N5
    rw [sdn_top (by omega)] at he1
    exact hret _ _ _ _ F5 N5 ⟨rfl, n1, by rw [← he1]⟩
end Mine
end
section
open PySem PySem.W PyProof.Rows
set_option Elab.async false
set_option maxRecDepth 100000
set_option maxHeartbeats 8000000
namespace Mine
local macro_rules | `(tactic| walk_at "exec While Compare cons nil") => `(tactic| refine atStop ?_)
local macro_rules | `(tactic| walk_at "KswEnd") => `(tactic| refine atStop ?_)
local macro_rules | `(tactic| walk_at "call ref") => `(tactic| ((with_reducible show wpAny _ _ (call (Value.ref 111) _ _) _ _ _); refine atStop ?_))
local macro_rules | `(tactic| tb_rel) => `(tactic| (intro z h2 h3; simp only [List.forall_mem_cons, List.not_mem_nil, false_implies, implies_true, and_true, ne_eq, List.contains_cons, List.contains_nil, Bool.or_false, Bool.or_eq_false_iff, beq_eq_false_iff_ne] at h2 h3; simp [kstB, h2, h3]))
local macro_rules | `(tactic| ktr_unf) => `(tactic| repeat' (first | (k_unfold; (try dsimp only)) | (walk1; (try dsimp only)) | (dsimp only; walk1)))
theorem siftup_ (w : World) (key : Value → List Str) (H : Addr) (its : List Value) (n : Nat) (rest : List (Addr × Obj)) (pos : Nat) (tp : Tok) (x : Value) (hx : its[pos]? = some x) (hlen : its.length < 64)
    (hr : ∀ v ∈ its, RowAt rest v (key v)) (hH : ∀ p ∈ rest, p.1 ≠ H) :
    Does w 118 [.ref H, .int pos tp] ((H, listOf its.toArray n) :: rest) 20 200
      (fun r news' => r = .none ∧ ∃ n', news' = (H, listOf (siftup (fun a b => lexLt (key a) (key b)) its pos).toArray n') :: rest) := by
  have hlt : pos < its.length := by
    rcases Nat.lt_or_ge pos its.length with h | h
    · exact h
    · rw [List.getElem?_eq_none h] at hx; cases hx
  unfold Does
  k_fill
  intro dp un gd cn cs a ccd cl outer A₀ base h₀ L m mean mg mb s Q E B F X N T hk hd hu hret
  refine wpAny_call ?_
  k_dflt ktr_enter
  rename_i g' L' h' FG' F' N' B' X' T'
  replace F' : Fr g' L' h' (fun y => List.lookup y [(Str.ofString "pos", .int pos tp), (Str.ofString "heap", .ref H)]) := by with_unfolding_all exact F'
  ktr_unf
  with_unfolding_all refine len_any (by k_asm) (List.Mem.head _) (by omega) ?_
  ktr_unf
  with_unfolding_all refine get_any (by k_asm) (List.Mem.head _) hx hlen ?_
  ktr_unf
  rename Fr _ _ _ _ => F1
  rename News _ _ _ _ => N1
  unfold AtStop
  with_unfolding_all refine ksw_while (fun c : List Value × Nat × Nat × Tok × Tok => (H, listOf c.1.toArray c.2.1) :: rest) (fun c : List Value × Nat × Nat × Tok × Tok => [(Str.ofString "pos", .int (c.2.2.1 : Nat) c.2.2.2.1), (Str.ofString "childpos", .int (2 * (c.2.2.1 : Nat) + 1) c.2.2.2.2)]) (fun _ => True) [Str.ofString "rightpos"] (fun c : List Value × Nat × Nat × Tok × Tok => c.1.length = its.length ∧ (∀ v ∈ c.1, v ∈ its) ∧ c.2.2.1 < its.length ∧ sup (fun a b => lexLt (key a) (key b)) its.length c.1 c.2.2.1 = sup (fun a b => lexLt (key a) (key b)) its.length its pos) (fun c : List Value × Nat × Nat × Tok × Tok => its.length - c.2.2.1) (its, n, pos, tp, _) F1 N1 trivial (by intro p hp; rcases List.mem_cons.mp hp with rfl | hp; rfl; cases List.mem_singleton.mp hp; rfl) ⟨rfl, fun _ h => h, hlt, rfl⟩ ?_ ?hE
  case hE => passes_own
  clear F1 N1
  rintro ⟨its1, n1, pos1, t1, tc1⟩ u h2 tk2 - ⟨hl1, hi1, hq1, he1⟩ F2 N2
  dsimp only at hl1 hi1 hq1 he1 F2 N2
  ktr_unf
  · obtain ⟨y, hy⟩ : ∃ y, its1[2 * pos1 + 1]? = some y := ⟨its1[2 * pos1 + 1]'(by omega), List.getElem?_eq_getElem _⟩
    obtain ⟨z, hz⟩ : ∃ z, its1[2 * pos1 + 1 + 1]? = some z := ⟨its1[2 * pos1 + 1 + 1]'(by omega), List.getElem?_eq_getElem _⟩
    with_unfolding_all refine get_at (2 * pos1 + 1) (by k_asm) (List.Mem.head _) (by omega) hy (by omega) ?_
    ktr_unf
    with_unfolding_all refine get_at (2 * pos1 + 1 + 1) (by k_asm) (List.Mem.head _) (by omega) hz (by omega) ?_
    with_unfolding_all refine cmp_rows (by k_asm) (hr y (hi1 _ (List.mem_of_getElem? hy))).cons (hr z (hi1 _ (List.mem_of_getElem? hz))).cons (by show un + 3 < cLine; omega) ?_
    ktr_unf
    · rename lexLt _ _ = true => hc
      have hpk : pick (fun a b => lexLt (key a) (key b)) its.length its1 (2 * pos1 + 1) = 2 * pos1 + 1 := pick_left (by omega) hy hz hc
      with_unfolding_all refine get_at (2 * pos1 + 1) (by k_asm) (List.Mem.head _) (by omega) hy (by omega) ?_
      ktr_unf
      rename Fr _ _ _ _ => F3
      rename News _ _ _ _ => N3
      with_unfolding_all refine set_at pos1 F3 N3 rfl hH (by omega) (by omega) ?_
      intro h4 F4 N4
      ktr_unf
      unfold AtStop
      rename Fr _ _ _ _ => F5
      rename News _ _ _ _ => N5
      rw [sup_go (y := y) (by omega) (by rw [hpk]; exact hy), hpk] at he1
      rw [show (2 * (pos1 : Int) + 1) = ((2 * pos1 + 1 : Nat) : Int) by omega] at F5
      refine ksw_end (its1.set pos1 y, n1, 2 * pos1 + 1, _, _) F5 N5 (fun p hp => hp) trivial (by intro p hp; rcases List.mem_cons.mp hp with rfl | hp; rfl; cases List.mem_singleton.mp hp; rfl) (by tb_rel) ⟨?_, ?_, ?_, he1⟩ ?_
      · rw [List.length_set]; exact hl1
      · intro v hv
        rcases List.mem_or_eq_of_mem_set hv with h | h
        · exact hi1 v h
        · exact h ▸ hi1 _ (List.mem_of_getElem? hy)
      · show 2 * pos1 + 1 < _
        omega
      · show _ - (2 * pos1 + 1) < _ - pos1
        omega
    · rename lexLt _ _ = false => hc
      have hpk : pick (fun a b => lexLt (key a) (key b)) its.length its1 (2 * pos1 + 1) = 2 * pos1 + 1 + 1 := pick_right (by omega) hy hz hc
      with_unfolding_all refine get_at (2 * pos1 + 1 + 1) (by k_asm) (List.Mem.head _) (by omega) hz (by omega) ?_
      ktr_unf
      rename Fr _ _ _ _ => F3
      rename News _ _ _ _ => N3
      with_unfolding_all refine set_at pos1 F3 N3 rfl hH (by omega) (by omega) ?_
      intro h4 F4 N4
      ktr_unf
      unfold AtStop
      rename Fr _ _ _ _ => F5
      rename News _ _ _ _ => N5
      rw [sup_go (y := z) (by omega) (by rw [hpk]; exact hz), hpk] at he1
      rw [show (2 * (pos1 : Int) + 1 + 1) = ((2 * pos1 + 1 + 1 : Nat) : Int) by omega] at F5
      refine ksw_end (its1.set pos1 z, n1, 2 * pos1 + 1 + 1, _, _) F5 N5 (fun p hp => hp) trivial (by intro p hp; rcases List.mem_cons.mp hp with rfl | hp; rfl; cases List.mem_singleton.mp hp; rfl) (by tb_rel) ⟨?_, ?_, ?_, he1⟩ ?_
      · rw [List.length_set]; exact hl1
      · intro v hv
        rcases List.mem_or_eq_of_mem_set hv with h | h
        · exact hi1 v h
        · exact h ▸ hi1 _ (List.mem_of_getElem? hz)
      · show 2 * pos1 + 1 + 1 < _
        omega
      · show _ - (2 * pos1 + 1 + 1) < _ - pos1
        omega
  · obtain ⟨y, hy⟩ : ∃ y, its1[2 * pos1 + 1]? = some y := ⟨its1[2 * pos1 + 1]'(by omega), List.getElem?_eq_getElem _⟩
    have hpk : pick (fun a b => lexLt (key a) (key b)) its.length its1 (2 * pos1 + 1) = 2 * pos1 + 1 := pick_one (by omega)
    with_unfolding_all refine get_at (2 * pos1 + 1) (by k_asm) (List.Mem.head _) (by omega) hy (by omega) ?_
    ktr_unf
    rename Fr _ _ _ _ => F3
    rename News _ _ _ _ => N3
    with_unfolding_all refine set_at pos1 F3 N3 rfl hH (by omega) (by omega) ?_
    intro h4 F4 N4
    ktr_unf
    unfold AtStop
    rename Fr _ _ _ _ => F5
    rename News _ _ _ _ => N5
    rw [sup_go (y := y) (by omega) (by rw [hpk]; exact hy), hpk] at he1
    rw [show (2 * (pos1 : Int) + 1) = ((2 * pos1 + 1 : Nat) : Int) by omega] at F5
    refine ksw_end (its1.set pos1 y, n1, 2 * pos1 + 1, _, _) F5 N5 (fun p hp => hp) trivial (by intro p hp; rcases List.mem_cons.mp hp with rfl | hp; rfl; cases List.mem_singleton.mp hp; rfl) (by tb_rel) ⟨?_, ?_, ?_, he1⟩ ?_
    · rw [List.length_set]; exact hl1
    · intro v hv
      rcases List.mem_or_eq_of_mem_set hv with h | h
      · exact hi1 v h
      · exact h ▸ hi1 _ (List.mem_of_getElem? hy)
    · show 2 * pos1 + 1 < _
      omega
    · show _ - (2 * pos1 + 1) < _ - pos1
      omega
  · with_unfolding_all refine set_at pos1 F2 N2 rfl hH (by omega) (by omega) ?_
    intro h4 F4 N4
    ktr_unf
    unfold AtStop
    rename Fr _ _ _ _ => F5
    rename News _ _ _ _ => N5
    have hset : ∀ v ∈ its1.set pos1 x, v ∈ its := by
      intro v hv
      rcases List.mem_or_eq_of_mem_set hv with h | h
      · exact hi1 v h
      · exact h ▸ List.mem_of_getElem? hx
    with_unfolding_all refine Does.use (siftdown_ w key H (its1.set pos1 x) n1 rest pos pos1 tp t1 x (by rw [List.getElem?_set_self (by omega)]) (by rw [List.length_set]; omega) (fun v hv => hr v (hset v hv)) hH) B' F5 X' N5 T' rfl (by show dp + 1 + 10 < recursionLimit; omega) (by show un + 3 + 100 < cLine; omega) ?_
    rintro r news6 h6 tk6 F6 N6 ⟨rfl, n6, rfl⟩
    ktr_unf
    rename Fr _ _ _ _ => F7
    rename News _ _ _ _ => N7
    rw [sup_end (by omega)] at he1
    refine hret _ _ _ _ F7 N7 ⟨rfl, n6, ?_⟩
    unfold siftup
    rw [hx]
    dsimp only
    rw [← he1]
end Mine
end
section
open PySem PySem.W PyProof.Rows
set_option Elab.async false
set_option maxRecDepth 100000
set_option maxHeartbeats 8000000
namespace Mine
local macro_rules | `(tactic| walk_at "exec While Compare cons nil") => `(tactic| refine atStop ?_)
local macro_rules | `(tactic| walk_at "KswEnd") => `(tactic| refine atStop ?_)
local macro_rules | `(tactic| walk_at "call ref") => `(tactic| ((with_reducible show wpAny _ _ (call (Value.ref 111) _ _) _ _ _); refine atStop ?_))
local macro_rules | `(tactic| walk_at "call ref") => `(tactic| ((with_reducible show wpAny _ _ (call (Value.ref 118) _ _) _ _ _); refine atStop ?_))
local macro_rules | `(tactic| ktr_unf) => `(tactic| repeat' (first | (k_unfold; (try dsimp only)) | (walk1; (try dsimp only)) | (dsimp only; walk1)))
theorem heappush_ (w : World) (key : Value → List Str) (H : Addr) (its : List Value) (n : Nat) (rest : List (Addr × Obj)) (x : Value) (hlen : its.length < 63)
    (hr : ∀ v ∈ its, RowAt rest v (key v)) (hrx : RowAt rest x (key x)) (hH : ∀ p ∈ rest, p.1 ≠ H) :
    Does w 90 [.ref H, x] ((H, listOf its.toArray n) :: rest) 20 200
      (fun r news' => r = .none ∧ ∃ n', news' = (H, listOf (pushL (fun a b => lexLt (key a) (key b)) its x).toArray n') :: rest) := by
  unfold Does
  k_fill
  intro dp un gd cn cs a ccd cl outer A₀ base h₀ L m mean mg mb s Q E B F X N T hk hd hu hret
  refine wpAny_call ?_
  k_dflt ktr_enter
  rename_i g' L' h' FG' F' N' B' X' T'
  replace F' : Fr g' L' h' (fun y => List.lookup y [(Str.ofString "item", x), (Str.ofString "heap", .ref H)]) := by with_unfolding_all exact F'
  ktr_unf
  with_unfolding_all refine append_any F' N' hH (by omega) ?_
  intro h1 n1 F1 N1
  ktr_unf
  with_unfolding_all refine len_any (by k_asm) (List.Mem.head _) (by simp; omega) ?_
  ktr_unf
  unfold AtStop
  rw [show (((its ++ [x]).length : Nat) : Int) - 1 = ((its.length : Nat) : Int) by simp]
  have hx : (its ++ [x])[its.length]? = some x := by simp
  have hr' : ∀ v ∈ its ++ [x], RowAt rest v (key v) := by
    intro v hv
    rcases List.mem_append.mp hv with h | h
    · exact hr v h
    · exact List.mem_singleton.mp h ▸ hrx
  with_unfolding_all refine Does.use (siftdown_ w key H (its ++ [x]) n1 rest 0 its.length _ _ x hx (by simp; omega) hr' hH) B' F1 X' N1 T' rfl (by show dp + 1 + 10 < recursionLimit; omega) (by show un + 3 + 100 < cLine; omega) ?_
  rintro r news6 h6 tk6 F6 N6 ⟨rfl, n6, rfl⟩
  ktr_unf
  rename Fr _ _ _ _ => F7
  rename News _ _ _ _ => N7
  exact hret _ _ _ _ F7 N7 ⟨rfl, n6, rfl⟩
theorem heappop_ (w : World) (key : Value → List Str) (H : Addr) (init : List Value) (x : Value) (n : Nat) (rest : List (Addr × Obj)) (hlen : init.length < 63)
    (hr : ∀ v ∈ init ++ [x], RowAt rest v (key v)) (hH : ∀ p ∈ rest, p.1 ≠ H) :
    Does w 97 [.ref H] ((H, listOf (init ++ [x]).toArray n) :: rest) 30 300
      (fun r news' => r = (popL (fun a b => lexLt (key a) (key b)) init x).1 ∧ ∃ n', news' = (H, listOf (popL (fun a b => lexLt (key a) (key b)) init x).2.toArray n') :: rest) := by
  unfold Does
  k_fill
  intro dp un gd cn cs a ccd cl outer A₀ base h₀ L m mean mg mb s Q E B F X N T hk hd hu hret
  refine wpAny_call ?_
  k_dflt ktr_enter
  rename_i g' L' h' FG' F' N' B' X' T'
  replace F' : Fr g' L' h' (fun y => List.lookup y [(Str.ofString "heap", .ref H)]) := by with_unfolding_all exact F'
  ktr_unf
  with_unfolding_all refine pop_any F' N' hH (by omega) ?_
  intro h1 n1 F1 N1
  ktr_unf
  · rename Fr _ _ _ _ => F7
    rename News _ _ _ _ => N7
    rename init.isEmpty = true => he
    obtain rfl : init = [] := by simpa using he
    exact hret _ _ _ _ F7 N7 ⟨rfl, n1, rfl⟩
  · rename init.isEmpty = false => he
    obtain ⟨y, t, rfl⟩ : ∃ y t, init = y :: t := by
      cases init with
      | nil => cases he
      | cons y t => exact ⟨y, t, rfl⟩
    with_unfolding_all refine get_at 0 (by k_asm) (List.Mem.head _) rfl (x := y) rfl (by omega) ?_
    ktr_unf
    rename Fr _ _ _ _ => F2
    rename News _ _ _ _ => N2
    with_unfolding_all refine set_at 0 F2 N2 rfl hH (by simp) (by omega) ?_
    intro h3 F3 N3
    ktr_unf
    unfold AtStop
    have hr' : ∀ v ∈ x :: t, RowAt rest v (key v) := by
      intro v hv
      rcases List.mem_cons.mp hv with rfl | h
      · exact hr v (by simp)
      · exact hr v (by simp [h])
    with_unfolding_all refine Does.use (siftup_ w key H (x :: t) n1 rest 0 _ x rfl (by simp at hlen ⊢; omega) hr' hH) B' F3 X' N3 T' rfl (by show dp + 1 + 20 < recursionLimit; omega) (by show un + 3 + 200 < cLine; omega) ?_
    rintro r news6 h6 tk6 F6 N6 ⟨rfl, n6, rfl⟩
    ktr_unf
    rename Fr _ _ _ _ => F7
    rename News _ _ _ _ => N7
    exact hret _ _ _ _ F7 N7 ⟨rfl, n6, rfl⟩
end Mine
end
section
set_option Elab.async false
set_option maxRecDepth 100000
namespace Mine
open PySem PySem.W PySem.Calls PyProof.Rows

def FEnd {σ : Type} (h₀ : Heap) (L : Addr) (s : Shared) (x : Str) (Led : σ → List (Addr × Obj)) (ps : σ → List (Str × Value)) (stored : List Str) (m₀ : Str → Option Value) (Inv : σ → Prop) (I : Addr) (own : List (Addr × Obj)) (s₂ : Shared) : Prop :=
  ∃ (c : σ) (h' : Heap) (tk : Nat) (m' : Str → Option Value) (news' : List (Addr × Obj)), s₂ = { s with heap := h', toks := tk } ∧ Fr h₀ L h' m' ∧ News h₀ L h' news' ∧ (∀ p ∈ Led c, p ∈ news') ∧ (∀ p ∈ own, p ∈ news') ∧ (∀ p ∈ ps c, m' p.1 = some p.2) ∧
    (∀ z, z ≠ x → (∀ p ∈ ps c, z ≠ p.1) → stored.contains z = false → m' z = m₀ z) ∧ (∀ p ∈ Led c, p.1 ≠ I) ∧ Inv c
def FPost {σ : Type} (h₀ : Heap) (L : Addr) (s : Shared) (x : Str) (Led : σ → List (Addr × Obj)) (ps : σ → List (Str × Value)) (stored : List Str) (m₀ : Str → Option Value) (Inv : σ → Prop) (I : Addr) (own : List (Addr × Obj)) (Q : Flow → Shared → Prop) (f : Flow) (s₂ : Shared) : Prop :=
  match f with
  | .ret v => Q (.ret v) s₂
  | .brk => Q .next s₂
  | _ => FEnd h₀ L s x Led ps stored m₀ Inv I own s₂

section
variable {prog : Program} {w : World} {A : Around} {E : Value → Shared → Prop} {Q : Flow → Shared → Prop} {s : Shared} {env : Env} {h₀ : Heap}
theorem for_walk {σ : Type} {x : Str} {body : List Stmt} {m₀ : Str → Option Value} {I : Addr} {fp : List Addr} {n : Nat} {P : Nat → Value → Prop} {St : Nat → Heap → Prop}
    (Led : σ → List (Addr × Obj)) (ps : σ → List (Str × Value)) (stored : List Str) (Inv : Nat → σ → Prop) (c₀ : σ)
    (W : Walks prog w A I fp [I] n P St) (hLf : env.locals ∉ fp) (hI : h₀.get? I = none) (hst : St 0 s.heap) (hSt : ∀ i h, St i h → ∃ o, h.get? I = some o)
    (F : Fr h₀ env.locals s.heap m₀) (N : News h₀ env.locals s.heap (Led c₀)) (hL : ∀ p ∈ Led c₀, p.1 ≠ I) (hk : ∀ p ∈ ps c₀, m₀ p.1 = some p.2) (hj : Inv 0 c₀)
    (turn : ∀ (i : Nat) (c : σ) (v : Value) (u : Str → Option Value) (h : Heap) (tk : Nat) (own : List (Addr × Obj)), i < n → P i v → Inv i c → (∀ p ∈ Led c, p.1 ≠ I) → (∀ p ∈ own, p.1 ∈ fp) → (∃ o, (I, o) ∈ own) →
      Fr h₀ env.locals h (fun y => if y = x then some v else kstB (fun z => if stored.contains z then u z else m₀ z) (ps c) y) → News h₀ env.locals h (Led c ++ own) →
      wpAny (model prog w) A (execs body env) (FPost h₀ env.locals s x Led ps stored m₀ (Inv (i + 1)) I own Q) E { s with heap := h, toks := tk })
    (done : ∀ (c : σ) (u : Str → Option Value) (h : Heap) (tk : Nat), Inv n c → (∀ p ∈ Led c, p.1 ≠ I) → Fr h₀ env.locals h (kstB (fun z => if z = x then u z else if stored.contains z then u z else m₀ z) (ps c)) → News h₀ env.locals h (Led c) → Q .next { s with heap := h, toks := tk }) :
    LoopAtV prog w A h₀ env x body Q E (.ref I) s := by
  have hIf : I ∈ fp := W.sub I (List.mem_singleton.mpr rfl)
  refine ⟨I, fp, [I], n, P, St, m₀, Led c₀, fun i m nx => ∃ c, nx = Led c ∧ Inv i c ∧ (∀ p ∈ ps c, m p.1 = some p.2) ∧ (∀ z, z ≠ x → (∀ p ∈ ps c, z ≠ p.1) → stored.contains z = false → m z = m₀ z), rfl, W, hLf, ?_, ?_, hst, F, N, ⟨c₀, rfl, hj, hk, fun _ _ _ _ => rfl⟩, ?_, ?_⟩
  · intro b hb; rw [List.mem_singleton.mp hb]; exact hI
  · intro p hp hb; exact hL p hp (List.mem_singleton.mp hb)
  · rintro i v m₁ news₁ s₁ own ⟨h, tk, rfl⟩ hi hP ⟨c, rfl, hc, h1, h2⟩ hnw hof hget hown hst1 F₁ N₁
    obtain ⟨o, ho⟩ := hSt _ _ hst1
    have em : (fun y => if y = x then some v else m₁ y) = (fun y => if y = x then some v else kstB (fun z => if stored.contains z then m₁ z else m₀ z) (ps c) y) := by
      funext y
      by_cases e : y = x
      · rw [if_pos e, if_pos e]
      · rw [if_neg e, if_neg e]
        refine (kstB_eq h1 fun hn => ?_).symm
        show (if stored.contains y = true then m₁ y else m₀ y) = m₁ y
        cases h3 : stored.contains y with
        | true => simp
        | false => simp only [Bool.false_eq_true, if_false]; exact (h2 y e hn h3).symm
    rw [em] at F₁
    refine wpAny_mono (turn i c v m₁ h tk own hi hP hc (fun p hp e => hnw p hp (List.mem_singleton.mpr e)) hof ⟨o, hown I hIf hI o ho⟩ F₁ (fun p hp => N₁ p ((List.mem_append.mp hp).elim (fun q => List.mem_append_right _ q) fun q => List.mem_append_left _ q))) (fun f s₂ q => ?_) fun _ _ e => e
    have fin : FEnd h₀ env.locals s x Led ps stored m₀ (Inv (i + 1)) I own s₂ → LoopStepU h₀ env.locals [I] own (fun m nx => ∃ c, nx = Led c ∧ Inv (i + 1) c ∧ (∀ p ∈ ps c, m p.1 = some p.2) ∧ (∀ z, z ≠ x → (∀ p ∈ ps c, z ≠ p.1) → stored.contains z = false → m z = m₀ z)) { s with heap := h, toks := tk } .next s₂ := by
      rintro ⟨c', h', tk', m', news', rfl, F', N', hl', ho', hp', hz', hi', hc'⟩
      exact ⟨rfl, h', tk', m', Led c', rfl, F', fun p hp => N' p ((List.mem_append.mp hp).elim (ho' p) (hl' p)), fun p hp e => hi' p hp (List.mem_singleton.mp e), c', rfl, hc', hp', hz'⟩
    cases f with
    | ret v => exact .ret q
    | brk => exact .brk q
    | next => exact .next (fin q)
    | cont => exact .cont (fin q)
  · rintro h' tk m' news' F' N' hnw ⟨c, rfl, hc, h1, h2⟩
    have em : m' = kstB (fun z => if z = x then m' z else if stored.contains z then m' z else m₀ z) (ps c) := by
      funext y
      refine (kstB_eq h1 fun hn => ?_).symm
      show (if y = x then m' y else if stored.contains y = true then m' y else m₀ y) = m' y
      by_cases e : y = x
      · rw [if_pos e]
      · rw [if_neg e]
        cases h3 : stored.contains y with
        | true => simp
        | false => simp only [Bool.false_eq_true, if_false]; exact (h2 y e hn h3).symm
    rw [em] at F'
    exact done c m' h' tk hc (fun p hp e => hnw p hp (List.mem_singleton.mpr e)) F' N'

/-- a for over a list of the ledger's -/
theorem for_list {σ : Type} {x : Str} {body : List Stmt} {m₀ : Str → Option Value} {l : Addr} {vs : List Value} {k : Nat} {news : List (Addr × Obj)}
    (Led : σ → List (Addr × Obj)) (ps : σ → List (Str × Value)) (stored : List Str) (Inv : Nat → σ → Prop) (c₀ : σ)
    (hh : A.handled = none) (F : Fr h₀ env.locals s.heap m₀) (N : News h₀ env.locals s.heap news) (hl : (l, listOf vs.toArray k) ∈ news) (hn : ∀ p ∈ Led c₀, p ∈ news) (hk : ∀ p ∈ ps c₀, m₀ p.1 = some p.2) (hj : Inv 0 c₀)
    (turn : ∀ (I : Addr) (i : Nat) (c : σ) (v : Value) (u : Str → Option Value) (h : Heap) (tk : Nat) (own : List (Addr × Obj)), vs[i]? = some v → Inv i c → (∀ p ∈ news, p.1 < I) → (∀ p ∈ Led c, p.1 ≠ I) → (∀ p ∈ own, p.1 = I ∨ p.1 = l) → (∃ o, (I, o) ∈ own) →
      Fr h₀ env.locals h (fun y => if y = x then some v else kstB (fun z => if stored.contains z then u z else m₀ z) (ps c) y) → News h₀ env.locals h (Led c ++ own) →
      wpAny (model prog w) A (execs body env) (FPost h₀ env.locals { s with heap := s.heap.push { cls := .type "list_iterator", data := .fields #[.ref l, .int 0 0] } } x Led ps stored m₀ (Inv (i + 1)) I own Q) E { s with heap := h, toks := tk })
    (done : ∀ (c : σ) (u : Str → Option Value) (h : Heap) (tk : Nat), Inv vs.length c → Fr h₀ env.locals h (kstB (fun z => if z = x then u z else if stored.contains z then u z else m₀ z) (ps c)) → News h₀ env.locals h (Led c) → Q .next { s with heap := h, toks := tk }) :
    wpAny (model prog w) A (pyIter (.ref l)) (fun it s₂ => LoopAtV prog w A h₀ env x body Q E it s₂) E s := by
  have z := N _ hl
  have hls : s.heap.IsList l vs.toArray := PySem.IsL.isList (n := k) z.1
  have hlt : l < s.heap.objs.size := Heap.lt_size z.1
  refine wpAny_pyIter_list hls ?_
  have W := Walks.list (prog := prog) (w := w) hh s.heap.objs.size l (Nat.ne_of_lt hlt) vs.toArray
  have hsz : vs.toArray.size = vs.length := List.size_toArray ..
  refine for_walk (s := { s with heap := s.heap.push { cls := .type "list_iterator", data := .fields #[.ref l, .int 0 0] } }) Led ps stored Inv c₀ W ?_ (next_is_new F) ⟨⟨_, Heap.get?_push_size _ rfl, rfl, rfl⟩, hls.at fun o e => Heap.get?_push_of_some _ e⟩
    (fun i h st => let ⟨⟨o, ho, _⟩, _⟩ := st; ⟨o, ho⟩) (F.push _) (fun p hp => ⟨Heap.get?_push_of_some _ (N p (hn p hp)).1, (N p (hn p hp)).2⟩) (fun p hp => Nat.ne_of_lt (Heap.lt_size (N p (hn p hp)).1)) hk hj ?_ ?_
  · intro hm
    rcases List.mem_cons.mp hm with e | hm
    · exact absurd F.ns.lt (e ▸ Nat.lt_irrefl _)
    · exact z.2.1 (List.mem_singleton.mp hm).symm
  · intro i c v u h tk own hi hv hc hL hof hI F' N'
    exact turn _ i c v u h tk own (by simpa using hv) hc (fun p hp => Heap.lt_size (N p hp).1) hL (fun p hp => by have := hof p hp; simpa using this) hI F' N'
  · intro c u h tk hc _ F' N'
    rw [hsz] at hc
    exact done c u h tk hc F' N'

/-- a for over an iterator of a range -/
theorem for_rangeiter {σ : Type} {x : Str} {body : List Stmt} {m₀ : Str → Option Value} {I : Addr} {a c : Int} {n : Nat} {news : List (Addr × Obj)}
    (Led : σ → List (Addr × Obj)) (ps : σ → List (Str × Value)) (stored : List Str) (Inv : Nat → σ → Prop) (c₀ : σ)
    (hh : A.handled = none) (F : Fr h₀ env.locals s.heap m₀) (N : News h₀ env.locals s.heap news) (hIt : IsRangeIter s.heap I a n c) (hI0 : h₀.get? I = none) (hIL : env.locals ≠ I) (hn : ∀ p ∈ Led c₀, p ∈ news) (hnI : ∀ p ∈ Led c₀, p.1 ≠ I) (hk : ∀ p ∈ ps c₀, m₀ p.1 = some p.2) (hj : Inv 0 c₀)
    (turn : ∀ (i : Nat) (d : σ) (t : Tok) (u : Str → Option Value) (h : Heap) (tk : Nat) (own : List (Addr × Obj)), i < n → Inv i d → (∀ p ∈ Led d, p.1 ≠ I) → (∀ p ∈ own, p.1 = I) → (∃ o, (I, o) ∈ own) →
      Fr h₀ env.locals h (fun y => if y = x then some (.int (a + i * c) t) else kstB (fun z => if stored.contains z then u z else m₀ z) (ps d) y) → News h₀ env.locals h (Led d ++ own) →
      wpAny (model prog w) A (execs body env) (FPost h₀ env.locals s x Led ps stored m₀ (Inv (i + 1)) I own Q) E { s with heap := h, toks := tk })
    (done : ∀ (d : σ) (u : Str → Option Value) (h : Heap) (tk : Nat), Inv n d → Fr h₀ env.locals h (kstB (fun z => if z = x then u z else if stored.contains z then u z else m₀ z) (ps d)) → News h₀ env.locals h (Led d) → Q .next { s with heap := h, toks := tk }) :
    LoopAtV prog w A h₀ env x body Q E (.ref I) s := by
  refine for_walk Led ps stored Inv c₀ (Walks.range (prog := prog) (w := w) hh I a c n) (fun hm => hIL (List.mem_singleton.mp hm)) hI0 (by simpa using hIt) (fun i h st => ⟨_, st⟩) F (fun p hp => N p (hn p hp)) hnI hk hj ?_ ?_
  · rintro i d v u h tk own hi ⟨t, rfl⟩ hc hL hof hI F' N'
    exact turn i d t u h tk own hi hc hL (fun p hp => List.mem_singleton.mp (hof p hp)) hI F' N'
  · intro d u h tk hc _ F' N'
    exact done d u h tk hc F' N'
/-- a for over a range -/
theorem for_range {σ : Type} {x : Str} {body : List Stmt} {m₀ : Str → Option Value} {r : Addr} {a b c : Int} {t₁ t₂ t₃ : Tok} (n : Nat) {news : List (Addr × Obj)}
    (Led : σ → List (Addr × Obj)) (ps : σ → List (Str × Value)) (stored : List Str) (Inv : Nat → σ → Prop) (c₀ : σ)
    (hh : A.handled = none) (F : Fr h₀ env.locals s.heap m₀) (N : News h₀ env.locals s.heap news) (hR : IsRange s.heap r a b c t₁ t₂ t₃) (hsm : Builtin.Range.small a b c = true) (hsz : Builtin.Range.rangeSize a b c = (n : Nat)) (hn : ∀ p ∈ Led c₀, p ∈ news) (hk : ∀ p ∈ ps c₀, m₀ p.1 = some p.2) (hj : Inv 0 c₀)
    (turn : ∀ (I : Addr) (i : Nat) (d : σ) (t : Tok) (u : Str → Option Value) (h : Heap) (tk : Nat) (own : List (Addr × Obj)), i < n → Inv i d → (∀ p ∈ news, p.1 < I) → (∀ p ∈ Led d, p.1 ≠ I) → (∀ p ∈ own, p.1 = I) → (∃ o, (I, o) ∈ own) →
      Fr h₀ env.locals h (fun y => if y = x then some (.int (a + i * c) t) else kstB (fun z => if stored.contains z then u z else m₀ z) (ps d) y) → News h₀ env.locals h (Led d ++ own) →
      wpAny (model prog w) A (execs body env) (FPost h₀ env.locals { s with heap := s.heap.push { cls := .type "range_iterator", data := .fields #[rawInt a, rawInt n, rawInt c] } } x Led ps stored m₀ (Inv (i + 1)) I own Q) E { s with heap := h, toks := tk })
    (done : ∀ (d : σ) (u : Str → Option Value) (h : Heap) (tk : Nat), Inv n d → Fr h₀ env.locals h (kstB (fun z => if z = x then u z else if stored.contains z then u z else m₀ z) (ps d)) → News h₀ env.locals h (Led d) → Q .next { s with heap := h, toks := tk }) :
    wpAny (model prog w) A (pyIter (.ref r)) (fun it s₂ => LoopAtV prog w A h₀ env x body Q E it s₂) E s := by
  refine wpAny_pyIter_range hR hsm ?_
  rw [hsz]
  refine for_rangeiter (s := { s with heap := s.heap.push { cls := .type "range_iterator", data := .fields #[rawInt a, rawInt n, rawInt c] } }) (n := n) (a := a) (c := c) (news := news) Led ps stored Inv c₀ hh (F.push _) (fun p hp => ⟨Heap.get?_push_of_some _ (N p hp).1, (N p hp).2⟩) (Heap.get?_push_size _ rfl) (next_is_new F) (Nat.ne_of_lt F.ns.lt) hn (fun p hp => Nat.ne_of_lt (Heap.lt_size (N p (hn p hp)).1)) hk hj ?_ ?_
  · intro i d t u h tk own hi hc hL hof hI F' N'
    exact turn _ i d t u h tk own hi hc (fun p hp => Heap.lt_size (N p hp).1) hL hof hI F' N'
  · intro d u h tk hc F' N'
    exact done d u h tk hc F' N'
end

theorem FEnd.intro {σ : Type} {h₀ : Heap} {L : Addr} {s : Shared} {x : Str} {Led : σ → List (Addr × Obj)} {ps : σ → List (Str × Value)} {stored : List Str} {m₀ m' : Str → Option Value} {Inv : σ → Prop} {I : Addr} {own news' : List (Addr × Obj)} {h' : Heap} {tk : Nat} (c : σ)
    (F : Fr h₀ L h' m') (N : News h₀ L h' news') (hl : ∀ p ∈ Led c, p ∈ news') (ho : ∀ p ∈ own, p ∈ news') (hk : ∀ p ∈ ps c, m' p.1 = some p.2) (hz : ∀ z, z ≠ x → (∀ p ∈ ps c, z ≠ p.1) → stored.contains z = false → m' z = m₀ z) (hi : ∀ p ∈ Led c, p.1 ≠ I) (hc : Inv c) :
    FEnd h₀ L s x Led ps stored m₀ Inv I own { s with heap := h', toks := tk } := ⟨c, h', tk, m', news', rfl, F, N, hl, ho, hk, hz, hi, hc⟩
end Mine
end
section
set_option Elab.async false
set_option maxRecDepth 100000
namespace Mine
open PySem PySem.W PySem.Calls PyProof.Rows
section
variable {prog : Program} {w : World} {A : Around} {E : Value → Shared → Prop} {s : Shared}
def rangeIterObj (a n c : Int) : Obj := { cls := .type "range_iterator", data := .fields #[rawInt a, rawInt n, rawInt c] }
theorem sub_range_iter_reversed : isSubtype (.type "range_iterator") (.type "reversed") = pure false := by rw [isSubtype_type]; kernel_rfl
theorem range_reversed (r : Addr) (a b c : Int) (t u v : Tok)
    (hc0 : ¬(!(Builtin.Range.rangeFitsLong a && Builtin.Range.rangeFitsLong b && Builtin.Range.rangeFitsLong c && Builtin.Range.rangeFitsLong (-c) && Builtin.Range.rangeFitsLong (a - c) && Builtin.Range.rangeFitsLong (Builtin.Range.rangeSize a b c))) = true) :
    Meets (Builtin.«range.__reversed__» ⟨[.ref r], []⟩) (fun _ R s => s.heap.get? r = some { cls := .type "range", dict := none, data := .fields #[.int a t, .int b u, .int c v], slots := #[] } ∧
      R (.ok (.ret (Value.ref s.heap.objs.size))) { s with heap := s.heap.push { cls := Value.type (if (Builtin.Range.rangeFitsLong a && Builtin.Range.rangeFitsLong b && Builtin.Range.rangeFitsLong c && Builtin.Range.rangeFitsLong (-c) && Builtin.Range.rangeFitsLong (a - c) && Builtin.Range.rangeFitsLong (Builtin.Range.rangeSize a b c)) = true then "range_iterator" else "longrange_iterator"), data := .fields #[rawInt (a + (Builtin.Range.rangeSize a b c - 1) * c), rawInt (Builtin.Range.rangeSize a b c), rawInt (-c)] } }) :=
  .of_wp fun prog w A R s h => by obtain ⟨hp, g, d, tk, os⟩ := s; obtain ⟨hl, h⟩ := h; wp_walk; exact ⟨_, rfl, h⟩
theorem rangeSize_up (b : Nat) : Builtin.Range.rangeSize 0 (b : Nat) 1 = (b : Nat) := by
  unfold Builtin.Range.rangeSize
  simp only [show (1 : Int) > 0 from by decide, if_true]
  split <;> omega
theorem fits_small {i : Int} (h1 : -1000 ≤ i) (h2 : i ≤ 1000) : Builtin.Range.rangeFitsLong i = true := by
  simp only [Builtin.Range.rangeFitsLong, Bool.and_eq_true, decide_eq_true_eq]
  constructor <;> omega
theorem small_up (b : Nat) (hb : b < 100) : (Builtin.Range.rangeFitsLong 0 && Builtin.Range.rangeFitsLong (b : Nat) && Builtin.Range.rangeFitsLong 1 && Builtin.Range.rangeFitsLong (-1) && Builtin.Range.rangeFitsLong (0 - 1) && Builtin.Range.rangeFitsLong (Builtin.Range.rangeSize 0 (b : Nat) 1)) = true := by
  rw [rangeSize_up, fits_small (by omega) (by omega), fits_small (i := (b : Nat)) (by omega) (by omega), fits_small (by omega) (by omega), fits_small (by omega) (by omega), fits_small (by omega) (by omega)]; rfl
theorem rangeSize_down (b : Nat) : Builtin.Range.rangeSize (b : Nat) 0 (-1) = (b : Nat) := by
  unfold Builtin.Range.rangeSize
  simp only [show ¬ (-1 : Int) > 0 from by decide, if_false, Int.neg_neg, Int.ediv_one]
  split <;> omega
theorem small_down (b : Nat) (hb : b < 100) : Builtin.Range.small (b : Nat) 0 (-1) = true := by
  unfold Builtin.Range.small
  rw [rangeSize_down, fits_small (i := (b : Nat)) (by omega) (by omega), fits_small (by omega) (by omega), fits_small (by omega) (by omega)]
  simp only [show ¬ (-1 : Int) > 0 from by decide, if_false]
  rw [fits_small (by omega) (by omega)]
  simp
theorem small_up' (b : Nat) (hb : b < 100) : Builtin.Range.small 0 (b : Nat) 1 = true := by
  unfold Builtin.Range.small
  rw [rangeSize_up, fits_small (by omega) (by omega), fits_small (i := (b : Nat)) (by omega) (by omega), fits_small (by omega) (by omega)]
  simp only [show (1 : Int) > 0 from by decide, if_true]
  rw [fits_small (by omega) (by omega)]
  simp
theorem call_range_reversed {r : Addr} {b : Nat} {t u v : Tok} {Q : Value → Shared → Prop} (hr : IsRange s.heap r 0 b 1 t u v) (hb : b < 100)
    (h : Q (.ref s.heap.objs.size) { s with heap := s.heap.push (rangeIterObj ((b : Int) - 1) b (-1)) }) : wpAny (model prog w) A (call (.builtin "range.__reversed__") [.ref r]) Q E s := by
  have hsm := small_up b hb
  refine call_meets F.slot_range_reversed ⟨_, hr, rfl⟩ F.entry_range_reversed (F.args_range_reversed_1 _) (range_reversed r 0 b 1 t u v (by rw [hsm]; decide)) ⟨hr, ?_⟩
  rw [hsm, rangeSize_up]
  have e : (0 : Int) + ((b : Nat) - 1) * 1 = (b : Int) - 1 := by omega
  rw [e]
  exact h
theorem code_reversed_range {r : Addr} {b : Nat} {t u v : Tok} {Q₁ : Value → Shared → Prop} (hr : IsRange s.heap r 0 b 1 t u v) (hb : b < 100)
    (h : Q₁ (.ref s.heap.objs.size) { s with heap := s.heap.push (rangeIterObj ((b : Int) - 1) b (-1)) }) :
    codeAny (model prog w) A (.call (.builtin "reversed.__new__") ⟨[.type "reversed", .ref r], []⟩) (wants Q₁ E) s := by
  have hT : s.TypeIs (.ref r) "range" := ⟨_, hr, rfl⟩
  refine codeAny_of_tree ?_
  show wpAny _ A.in1 (do checkBuiltinCall "reversed.__new__" ⟨[.type "reversed", .ref r], []⟩; again (.builtin "reversed.__new__" ⟨[.type "reversed", .ref r], []⟩)) _ _ s
  refine wpAny_bind (wpAny_of_eq (F.newCall_reversed_1 _) (wpAny_pure ⟨plainId_quiet F.plain_reversed_new _, codeAny_builtin F.entry_reversed_new ?_⟩))
  rw [Around.under_plainId F.plain_reversed_new _]
  unfold Builtin.«reversed.__new__»
  refine wpAny_bind (wpAny_of_eq (newClass_reversed _) ?_)
  try dsimp only
  refine wpAny_bind (wpAny_of_eq (a := ()) (by first | rfl | kernel_rfl) ?_)
  refine wpAny_bind (wpAny_of_eq (a := ()) (by first | rfl | kernel_rfl) ?_)
  try dsimp only
  refine wpAny_bind (wpAny_specialOf hT F.slot_range_reversed.lookup ?_)
  try dsimp only
  refine wpAny_bind (wpAny_of_eq (F.slot_range_reversed.bind _) ?_)
  try dsimp only
  rw [if_neg (show ¬ ((Value.builtin "range.__reversed__" == Value.none) = true) from Bool.false_ne_true)]
  refine wpAny_bind (wpAny_rule ?_)
  refine wpAny_bind (m := runValue (.call (.builtin "range.__reversed__") ⟨[.ref r], []⟩)) (show wpAny _ _ (call (.builtin "range.__reversed__") [.ref r]) _ _ _ from call_range_reversed hr hb ?_)
  exact wpAny_pure h
theorem call_reversed_range {r : Addr} {b : Nat} {t u v : Tok} {Q : Value → Shared → Prop} (hr : IsRange s.heap r 0 b 1 t u v) (hb : b < 100)
    (h : Q (.ref s.heap.objs.size) { s with heap := s.heap.push (rangeIterObj ((b : Int) - 1) b (-1)) }) : wpAny (model prog w) A (call (.type "reversed") [.ref r]) Q E s := by
  refine callType_other (U := "range_iterator") (Q₁ := fun obj s₁ => obj = .ref s.heap.objs.size ∧ s₁ = { s with heap := s.heap.push (rangeIterObj ((b : Int) - 1) b (-1)) }) (by decide +kernel) F.create_reversed ⟨_, _, F.mro_reversed⟩ F.made_reversed sub_range_iter_reversed (F.typeCall_reversed_1 _) (code_reversed_range hr hb ⟨rfl, rfl⟩) ?_
  rintro obj s₁ ⟨rfl, rfl⟩
  exact ⟨⟨_, Heap.get?_push_size _ rfl, rfl⟩, h⟩
end
end Mine
end
section
open PySem PySem.W PyProof.Rows
set_option Elab.async false
set_option maxRecDepth 100000
set_option maxHeartbeats 8000000
namespace Mine
local macro_rules | `(tactic| walk_at "KswEnd") => `(tactic| refine atStop ?_)
local macro_rules | `(tactic| walk_at "call ref") => `(tactic| ((with_reducible show wpAny _ _ (call (Value.ref 118) _ _) _ _ _); refine atStop ?_))
local macro_rules | `(tactic| walk_at "FPost") => `(tactic| dsimp only [FPost])
local macro_rules | `(tactic| walk_at "pyIter ref") => `(tactic| refine atStop ?_)
local macro_rules | `(tactic| ktr_unf) => `(tactic| repeat' (first | (k_unfold; (try dsimp only)) | (walk1; (try dsimp only)) | (dsimp only; walk1)))
theorem heapify_ (w : World) (key : Value → List Str) (H : Addr) (its : List Value) (n : Nat) (rest : List (Addr × Obj)) (hlen : its.length < 64)
    (hr : ∀ v ∈ its, RowAt rest v (key v)) (hH : ∀ p ∈ rest, p.1 ≠ H) :
    Does w 104 [.ref H] ((H, listOf its.toArray n) :: rest) 30 300
      (fun r news' => r = .none ∧ ∃ n', news' = (H, listOf (heapifyL (fun a b => lexLt (key a) (key b)) its).toArray n') :: rest) := by
  unfold Does
  k_fill
  intro dp un gd cn cs a ccd cl outer A₀ base h₀ L m mean mg mb s Q E B F X N T hk hd hu hret
  refine wpAny_call ?_
  k_dflt ktr_enter
  rename_i g' L' h' FG' F' N' B' X' T'
  replace F' : Fr g' L' h' (fun y => List.lookup y [(Str.ofString "x", .ref H)]) := by with_unfolding_all exact F'
  ktr_unf
  with_unfolding_all refine len_any (by k_asm) (List.Mem.head _) (by omega) ?_
  ktr_unf
  rename IsRange _ _ _ _ _ _ _ _ => hR
  rename Fr _ _ _ _ => F1
  rename News _ _ _ _ => N1
  have hfd : (((its.length : Nat) : Int)).fdiv 2 = ((its.length / 2 : Nat) : Int) := by rw [Int.fdiv_eq_ediv_of_nonneg _ (by decide)]; omega
  rw [hfd] at hR
  with_unfolding_all refine call_reversed_range hR (by omega) ?_
  with_unfolding_all refine wpAny_pyIter_rangeiter (Heap.get?_push_size _ rfl) ?_
  dsimp only
  have hI0 := next_is_new F1
  have hIN : ∀ p ∈ (H, listOf its.toArray n) :: rest, p.1 < _ := fun p hp => Heap.lt_size (N1 p hp).1
  have hIL := F1.ns.lt
  have F2 := F1.push (rangeIterObj ((its.length / 2 : Nat) - 1) (its.length / 2 : Nat) (-1))
  have N2 : News g' L' _ ((H, listOf its.toArray n) :: rest) := fun p hp => ⟨Heap.get?_push_of_some (rangeIterObj ((its.length / 2 : Nat) - 1) (its.length / 2 : Nat) (-1)) (N1 p hp).1, (N1 p hp).2⟩
  with_unfolding_all refine for_rangeiter (n := its.length / 2) (a := ((its.length / 2 : Nat) : Int) - 1) (c := -1) (fun d : List Value × Nat => (H, listOf d.1.toArray d.2) :: rest) (fun _ => []) [] (fun i d => d.1 = ((List.range (its.length / 2)).reverse.take i).foldl (siftup (fun a b => lexLt (key a) (key b))) its ∧ d.1.length = its.length ∧ ∀ v ∈ d.1, v ∈ its) (its, n) rfl F2 N2 (Heap.get?_push_size _ rfl) hI0 (Nat.ne_of_lt hIL) (fun p hp => hp) (fun p hp => Nat.ne_of_lt (hIN p hp)) (fun _ h => nomatch h) ⟨rfl, rfl, fun _ h => h⟩ ?_ ?_
  · rintro i ⟨its1, n1⟩ t u h tk own hi ⟨he, hl1, hm1⟩ hLI hown ⟨oI, hoI⟩ F3 N3
    dsimp only at he hl1 hm1 hLI F3 N3
    have e : ((its.length / 2 : Nat) : Int) - 1 + (i : Int) * (-1) = ((its.length / 2 - 1 - i : Nat) : Int) := by omega
    rw [e] at F3
    ktr_unf
    unfold AtStop
    obtain ⟨y, hy⟩ : ∃ y, its1[its.length / 2 - 1 - i]? = some y := ⟨its1[its.length / 2 - 1 - i]'(by omega), List.getElem?_eq_getElem _⟩
    have hH' : ∀ p ∈ rest ++ own, p.1 ≠ H := by
      intro p hp
      rcases List.mem_append.mp hp with h | h
      · exact hH p h
      · rw [hown p h]; exact (hLI (H, _) (.head _)).symm
    with_unfolding_all refine Does.use (siftup_ w key H its1 n1 (rest ++ own) (its.length / 2 - 1 - i) _ y hy (by omega) (fun v hv => (hr v (hm1 v hv)).mono fun p hp => List.mem_append_left _ hp) hH') B' F3 X' N3 T' rfl (by show dp + 1 + 20 < recursionLimit; omega) (by show un + 3 + 200 < cLine; omega) ?_
    rintro r news6 h6 tk6 F6 N6 ⟨rfl, n6, rfl⟩
    ktr_unf
    refine FEnd.intro (siftup (fun a b => lexLt (key a) (key b)) its1 (its.length / 2 - 1 - i), n6) F6 N6 ?_ (fun p hp => .tail _ (List.mem_append_right _ hp)) (fun _ h => nomatch h) ?_ ?_ ⟨?_, ?_, ?_⟩
    · intro p hp
      rcases List.mem_cons.mp hp with rfl | hp
      · exact .head _
      · exact .tail _ (List.mem_append_left _ hp)
    · intro z h1 h2 h3
      simp [kstB, h1]
    · intro p hp
      rcases List.mem_cons.mp hp with rfl | hp
      · exact hLI (H, listOf its1.toArray n1) (.head _)
      · exact hLI p (.tail _ hp)
    · show siftup _ its1 _ = _
      have hk : (List.range (its.length / 2)).reverse[i]? = some (its.length / 2 - 1 - i) := by
        rw [List.getElem?_reverse (by simpa using hi), List.length_range, List.getElem?_range (by omega)]
      rw [List.take_add_one, hk, he]
      simp
    · show (siftup _ its1 _).length = _
      rw [siftup_length]; exact hl1
    · intro v hv
      exact hm1 v (siftup_mem _ _ _ hv)
  · rintro ⟨its1, n1⟩ u h tk ⟨he, hl1, hm1⟩ F3 N3
    dsimp only at he hl1 hm1 F3 N3
    ktr_unf
    rename Fr _ _ _ _ => F7
    rename News _ _ _ _ => N7
    refine hret _ _ _ _ F7 N7 ⟨rfl, n1, ?_⟩
    rw [he]
    unfold heapifyL
    rw [List.take_of_length_le (by simp)]
end Mine
end
section
set_option Elab.async false
set_option maxRecDepth 100000
namespace Mine
open PySem PySem.W PySem.Calls PyProof.Rows

def byText (w : World) : Bool := w.params.followText "set-order"
def oneTab (led : Bool) (h : Int) : SetTable := { mask := 7, place := #[SetTable.bits h % 8], dummies := #[], finger := 0, led := led, moves := 0, plain := false }
/-- a set of the one text P -/
def oneSet (w : World) (P : Str) (t : Tok) : Obj := { cls := .type "set", dict := none, data := .set #[(hashStr w P, .str P t)] 1 (oneTab (!byText w) (hashStr w P)) }
def noSet (w : World) : Obj := { cls := .type "set", dict := none, data := .set #[] 0 (.fresh 0 0 (!byText w)) }

theorem lay_one (led : Bool) (h : Int) (x : Value) : layNew (.fresh 0 0 led) #[] h x = (#[(h, x)], { oneTab led h with plain := true }, false, false) := by rfl
theorem tab_fits (led : Bool) (h : Int) : (oneTab led h).fits 1 = true := rfl
theorem tab_room (led : Bool) (h : Int) : (oneTab led h).tooFull = false := rfl

section
variable {prog : Program} {w : World} {A : Around} {E : Value → Shared → Prop} {s : Shared}
theorem add_one {a : Addr} {P : Str} {t : Tok} {Q : Bool → Shared → Prop} (ho : s.heap.get? a = some (noSet w))
    (h : ∀ h', Heap.SameBut a s.heap h' → h'.get? a = some (oneSet w P t) → Q true { s with heap := h', toks := s.toks + 1 }) : wpAny (model prog w) A (setAdd a (.str P t)) Q E s := by
  unfold setAdd
  refine wpAny_holding (wpAny_bind (wpAny_pyHash_str ?_))
  unfold setAddHashed setAddHashedIn
  refine wpAny_holding (wpAny_bind (wpAny_setState_of ho rfl rfl ?_))
  dsimp only
  rw [if_pos (show byScan (.str P t) #[] = true by simp [byScan, Value.scannable, scanBound])]
  unfold setAddByScan
  refine wpAny_bind (wpAny_bind (wpAny_rule ?_))
  unfold setScan
  dsimp only
  rw [if_pos (show (#[] : Array (Int × Value)).all (fun e => isExactStrKey e.2) = true by simp)]
  unfold setScanStrs
  refine wpAny_bind ?_
  rw [show Array.findIdx? (fun x : Int × Value => x.snd.isStr P) #[] = none by simp]
  refine wpAny_pure ?_
  dsimp only
  rw [lay_one]
  dsimp only
  refine wpAny_bind (wpAny_pure ?_)
  rw [if_pos rfl]
  refine wpAny_bind (wpAny_pure ?_)
  refine wpAny_bind (wpAny_storeSet_of ho rfl ?_)
  rw [if_neg (show ¬ ((false = true)) by decide)]
  rw [if_neg (show ¬ ((!false && SetTable.tooFull _) = true) from fun e => Bool.false_ne_true ((show (!false && SetTable.tooFull _) = false from rfl).symm.trans e))]
  refine wpAny_pure ?_
  dsimp only
  refine wpAny_pure (h _ (Heap.SameBut.update ..) ?_)
  rw [Heap.get?_update_self _ ho rfl]
  rfl
theorem code_set_new (a : Value) {Q₁ : Value → Shared → Prop} (h : Q₁ (.ref s.heap.objs.size) { s with heap := s.heap.push (noSet w) }) :
    codeAny (model prog w) A (.call (.builtin "set.__new__") ⟨[.type "set", a], []⟩) (wants Q₁ E) s := by
  refine codeAny_of_tree ?_
  show wpAny _ A.in1 (do checkBuiltinCall "set.__new__" ⟨[.type "set", a], []⟩; again (.builtin "set.__new__" ⟨[.type "set", a], []⟩)) _ _ s
  refine wpAny_bind (wpAny_of_eq (F.newCall_set_1 a) (wpAny_pure ⟨plainId_quiet F.plain_set_new _, codeAny_builtin F.entry_set_new ?_⟩))
  rw [Around.under_plainId F.plain_set_new _]
  unfold Builtin.«set.__new__» Builtin.Frozenset.newClass
  have hsub := sub_set_self
  obtain ⟨hp, g, d, tk, os⟩ := s
  dsimp only
  wp_walk
  refine wpAny_askSetting (wpAny_pure ?_)
  dsimp only
  simp only [newObj]
  refine wpAny_bind (wpAny_alloc (wpAny_pure ?_))
  exact wpAny_pure h
set_option maxHeartbeats 3200000 in
theorem call_set_one {l : Addr} {P : Str} {t : Tok} {Q : Value → Shared → Prop} (hh : A.handled = none) (hl : s.heap.IsList l #[.str P t])
    (h : ∀ (h' : Heap) (tk : Nat), h'.get? s.heap.objs.size = some (oneSet w P t) → (∀ b o, b < s.heap.objs.size → s.heap.get? b = some o → h'.get? b = some o) → Q (.ref s.heap.objs.size) { s with heap := h', toks := tk }) :
    wpAny (model prog w) A (call (.type "set") [.ref l]) Q E s := by
  obtain ⟨c, tl, hmro⟩ := F.called_set.mro
  have hmade := F.called_set.made
  have hsub := F.called_set.sub
  refine wpAny_call (codeAny_of_tree ?_)
  show wpAny _ _ (callAny (.type "set") _) _ _ _
  refine wpAny_pure ⟨Code.quiet_builtin _ (by decide +kernel), codeAny_builtin F.entry_type_call ?_⟩
  rw [Around.under_plain (weight_type_call_type "set" [.ref l] []) rfl]
  have h1 := F.called_set.notType
  have h2 := F.called_set.canCreate
  have hct := F.typeCall_set_1 (.ref l)
  repeat (any_goals (first | assumption | wp_step))
  refine codeAny_mono (code_set_new (.ref l) (E := E) (Q₁ := fun obj s₁ => obj = .ref s.heap.objs.size ∧ s₁ = { s with heap := s.heap.push (noSet w) }) ⟨rfl, rfl⟩) fun r s₁ hr => ?_
  cases r with
  | error e => exact hr
  | ok fl =>
    cases fl with
    | ret obj =>
      obtain ⟨rfl, rfl⟩ := hr
      have hS : (s.heap.push (noSet w)).get? s.heap.objs.size = some (noSet w) := Heap.get?_push_size _ rfl
      have hT : Shared.TypeIs { s with heap := s.heap.push (noSet w) } (.ref s.heap.objs.size) "set" := ⟨_, hS, rfl⟩
      have hli := F.called_set.init.lookup
      have hbi := F.called_set.init.bind (.ref s.heap.objs.size)
      repeat (any_goals (first | assumption | wp_step))
      refine codeAny_mono (codeAny_call_builtin (R := wants (fun r s₂ => r = .none ∧ ∃ h' tk, s₂ = { s with heap := h', toks := tk } ∧ h'.get? s.heap.objs.size = some (oneSet w P t) ∧
          (∀ b o, b < s.heap.objs.size → s.heap.get? b = some o → h'.get? b = some o)) E) F.called_set.init.plain F.entry_set_init (check_set_init_1 hT ?_)) fun r₂ s₂ hr₂ => ?_
      · obtain ⟨ol, hol, hcl, nl, hdl⟩ := hl
        obtain ⟨ocls, odict, odata, oslots⟩ := ol
        simp only at hcl hdl
        subst hcl; subst hdl
        have hol' : (s.heap.push (noSet w)).get? l = some { cls := .type "list", dict := odict, data := .seq #[.str P t] nl, slots := oslots } := Heap.get?_push_of_some _ hol
        have hsls := F.sub_list_set
        have hslf := F.sub_list_frozenset
        have hne : (Value.type "list" == Value.type "dict") = false := by decide
        have hl1 : (s.heap.push (noSet w)).IsList l #[.str P t] := ⟨_, hol', rfl, nl, rfl⟩
        have hS0 : (s.heap.push (noSet w)).get? s.heap.objs.size = some { cls := .type "set", dict := none, data := .set #[] 0 (.fresh 0 0 (!byText w)) } := hS
        unfold Builtin.«set.__init__» noKeywords Builtin.Frozenset.updateFrom
        generalize hPI : pyIter = PI
        wp_walk
        subst hPI
        refine wpAny_pyIter_list hl1 ?_
        refine wpAny_bind (wpAny_runValue ?_)
        have hlS : l < s.heap.objs.size := Heap.lt_size hol
        have hh3 : A.in1.in1.in1.handled = none := by simp [hh]
        have hI : (s.heap.push (noSet w)).objs.size = s.heap.objs.size + 1 := Heap.size_push ..
        refine codeAny_builtin PyProof.Rows.F.entry_set_update_loop ?_
        rw [Around.under_plainId PyProof.Rows.F.plain_set_update_loop _]
        show wpAny _ _ (pyNext (.ref _) >>= _) _ _ _
        refine wpAny_bind (wpAny_pyNext_list_item (i := 0) (l := l) (items := #[.str P t]) (x := .str P t) ⟨_, Heap.get?_push_size _ rfl, rfl, rfl⟩ (hl1.push _) rfl fun h5 hit5 hsb5 => ?_)
        show wpAny _ _ (holding [Value.str P t] (setAdd s.heap.objs.size (.str P t)) >>= _) _ _ _
        have hS5 : h5.get? s.heap.objs.size = some (noSet w) := by
          rw [hsb5.2 _ (by rw [hI]; exact Nat.ne_of_lt (Nat.lt_succ_self _))]
          exact Heap.get?_push_of_some _ hS
        refine wpAny_bind (wpAny_holding (add_one hS5 fun h6 hsb6 hS6 => ?_))
        refine wpAny_pure ⟨plainId_quiet PyProof.Rows.F.plain_set_update_loop _, codeAny_builtin PyProof.Rows.F.entry_set_update_loop ?_⟩
        rw [Around.under_plainId PyProof.Rows.F.plain_set_update_loop _]
        show wpAny _ _ (pyNext (.ref _) >>= _) _ _ _
        have keep5 : ∀ b o, b < s.heap.objs.size → s.heap.get? b = some o → h6.get? b = some o := fun b o hb e => by
          rw [hsb6.2 b (Nat.ne_of_lt hb), hsb5.2 b (by rw [hI]; exact Nat.ne_of_lt (Nat.lt_succ_of_lt hb))]
          exact Heap.get?_push_of_some _ (Heap.get?_push_of_some _ e)
        refine wpAny_bind (wpAny_pyNext_list_end (i := 1) (l := l) (items := #[.str P t]) hh3 (hit5.at fun o e => by rw [hsb6.2 _ (by rw [hI]; exact Nat.ne_of_gt (Nat.lt_succ_self _))]; exact e) ⟨_, keep5 l _ hlS hol, rfl, nl, rfl⟩ rfl fun h7 he7 => ?_)
        show wpAny _ _ (ret Value.none) _ _ _
        refine wpAny_pure ?_
        show wpAny _ _ _ _ _ _
        refine wpAny_pure ?_
        show wpAny _ _ (ret Value.none) _ _ _
        refine wpAny_pure ⟨rfl, h7, _, rfl, ?_, fun b o hb e => ?_⟩
        · exact he7 _ _ (by rw [hI]; exact Nat.ne_of_lt (Nat.lt_succ_self _)) hS6
        · exact he7 _ _ (by rw [hI]; exact Nat.ne_of_lt (Nat.lt_succ_of_lt hb)) (keep5 b o hb e)
      · cases r₂ with
        | error e => exact hr₂
        | ok fl₂ =>
          cases fl₂ with
          | ret r =>
            obtain ⟨rfl, h', tk, rfl, hS', hk'⟩ := hr₂
            repeat (any_goals (first | assumption | wp_step))
            exact h _ _ hS' hk'
          | _ => exact hr₂.elim
    | _ => exact hr.elim
end
end Mine
end
section
set_option Elab.async false
set_option maxRecDepth 100000
namespace Mine
open PySem PySem.W PySem.Calls PyProof.Rows
theorem owner_si : Manifest.owners.lookup (String.ofList ['r', 'o', 't', 'a', 'r', 'e', 't', 'i', '_', 't', 'e', 's'].reverse) = some Manifest.sig_set_iterator := by kernel_rfl
theorem slot_si_next : Slot "set_iterator" "__next__" "set_iterator.__next__" :=
  .of (owner := "set_iterator") (n := "__next__") (by rw [typeLookup_type, builtinLookup_eq_fast]; kernel_rfl) (by decide +kernel) (by decide +kernel) (by decide +kernel)
    (by first | exact .inl (by decide +kernel) | exact .inr (by decide +kernel)) (by rw [isSubtype_type]; kernel_rfl)
theorem entry_si_next : entryFor table "set_iterator.__next__" = some Builtin.«set_iterator.__next__» := entryFor_of_tree (by kernel_rfl)
theorem args_si_next (a : Value) : argsOk "set_iterator.__next__" ⟨[a], []⟩ := by
  unfold argsOk; rw [signature?_of (id := "set_iterator.__next__") (n := ['_', '_', 't', 'x', 'e', 'n', '_', '_']) (o := ['r', 'o', 't', 'a', 'r', 'e', 't', 'i', '_', 't', 'e', 's']) (by kernel_rfl) owner_si]; kernel_rfl
theorem slot_si_iter : Slot "set_iterator" "__iter__" "set_iterator.__iter__" :=
  .of (owner := "set_iterator") (n := "__iter__") (by rw [typeLookup_type, builtinLookup_eq_fast]; kernel_rfl) (by decide +kernel) (by decide +kernel) (by decide +kernel)
    (by first | exact .inl (by decide +kernel) | exact .inr (by decide +kernel)) (by rw [isSubtype_type]; kernel_rfl)
theorem args_si_iter (a : Value) : argsOk "set_iterator.__iter__" ⟨[a], []⟩ := by
  unfold argsOk; rw [signature?_of (id := "set_iterator.__iter__") (n := ['_', '_', 'r', 'e', 't', 'i', '_', '_']) (o := ['r', 'o', 't', 'a', 'r', 'e', 't', 'i', '_', 't', 'e', 's']) (by kernel_rfl) owner_si]; kernel_rfl
theorem entry_si_iter : entryFor table "set_iterator.__iter__" = some Builtin.«dict_keyiterator.__iter__» :=
  entryFor_alias (id' := "dict_keyiterator.__iter__") (by kernel_rfl) (by first | rfl | decide +kernel | (unfold String.splitOn; simp +decide [String.splitOnAux])) (by decide +kernel) (by kernel_rfl)
theorem entry_set_iter : entryFor table "set.__iter__" = some Builtin.«frozenset.__iter__» :=
  entryFor_alias (id' := "frozenset.__iter__") (by kernel_rfl) rfl (by decide +kernel) (by kernel_rfl)

end Mine
end
section
set_option Elab.async false
set_option maxRecDepth 100000
namespace Mine
open PySem PySem.W PySem.Calls PyProof.Rows
def siObj (slot : Nat) (i : Nat) (v : Value) : Obj := { cls := .type "set_iterator", data := .fields #[rawInt slot, rawInt i, v, rawInt 1, rawInt 1] }

section
variable {prog : Program} {w : World} {A : Around} {E : Value → Shared → Prop} {s : Shared} {P : Str} {t : Tok} {D I : Addr}
theorem state_one {Q : (Array (Int × Value) × Nat × SetTable) → Shared → Prop} (ho : s.heap.get? D = some (oneSet w P t)) (h : Q (#[(hashStr w P, .str P t)], 1, oneTab (!byText w) (hashStr w P)) s) :
    wpAny (model prog w) A (setState D) Q E s := wpAny_setState_of ho rfl rfl h
theorem below_0 (j : Nat) : SetTable.below #[j] 0 = 0 := by simp [SetTable.below, SetTable.below.go]
theorem below_1 (j : Nat) : SetTable.below #[j] (j + 1) = 1 := by simp [SetTable.below, SetTable.below.go]
theorem if_no {c : Bool} {p q : Prop} (hc : c = false) (h : q) : (if c = true then p else q) := by
  subst hc; exact h
theorem pick_one_elem {α : Type} (f : Nat → Nat) (x : α) : pickOrder f #[x] = #[x] := by
  simp [pickOrder, pickOrder.go, Nat.mod_one]
theorem walk_one {Q : Array (Int × Value) → Shared → Prop} (hb : byText w = true) (ho : s.heap.get? D = some (oneSet w P t)) (h : Q #[(hashStr w P, .str P t)] s) : wpAny (model prog w) A (setWalk D) Q E s := by
  unfold setWalk
  refine wpAny_bind (state_one ho ?_)
  refine wpAny_bind (wpAny_bind (wpAny_askSetting (wpAny_pure ?_)))
  dsimp only
  rw [if_pos (show (model prog w).w.params.followText "set-order" = true from hb)]
  refine wpAny_bind (wpAny_askSetting (wpAny_pure ?_))
  rw [pick_one_elem]
  exact h
theorem next_0 {Q : Option (Value × Nat) → Shared → Prop} (ho : s.heap.get? D = some (oneSet w P t)) (h : ∀ k, (byText w = false → k = SetTable.bits (hashStr w P) % 8 + 1) → Q (some (.str P t, k)) s) :
    wpAny (model prog w) A (setNext D 0 0 1) Q E s := by
  unfold setNext
  refine wpAny_bind (state_one ho ?_)
  refine wpAny_bind (wpAny_bind (wpAny_askSetting (wpAny_pure ?_)))
  dsimp only
  by_cases hb : byText w = true
  · rw [if_pos (show (model prog w).w.params.followText "set-order" = true from hb), if_neg (by decide)]
    exact wpAny_bind (walk_one hb ho (wpAny_pure (h 0 fun e => absurd hb (by rw [e]; decide))))
  · have hb' : byText w = false := by simpa using hb
    rw [if_neg (show ¬ (model prog w).w.params.followText "set-order" = true from hb)]
    refine wpAny_ite (if_no rfl ?_)
    rw [hb']
    refine wpAny_bind (m := _) (wpAny_of_eq (a := ()) rfl (wpAny_pure ?_))
    have e1 : SetTable.below (oneTab (!false) (hashStr w P)).place 0 = 0 := below_0 _
    rw [e1]
    exact h _ fun _ => rfl
theorem next_1 {Q : Option (Value × Nat) → Shared → Prop} {k : Nat} (ho : s.heap.get? D = some (oneSet w P t)) (hk : byText w = false → k = SetTable.bits (hashStr w P) % 8 + 1) (h : Q none s) :
    wpAny (model prog w) A (setNext D k 1 1) Q E s := by
  unfold setNext
  refine wpAny_bind (state_one ho ?_)
  refine wpAny_bind (wpAny_bind (wpAny_askSetting (wpAny_pure ?_)))
  dsimp only
  by_cases hb : byText w = true
  · rw [if_pos (show (model prog w).w.params.followText "set-order" = true from hb), if_neg (by decide)]
    exact wpAny_bind (walk_one hb ho (wpAny_pure h))
  · have hb' : byText w = false := by simpa using hb
    rw [if_neg (show ¬ (model prog w).w.params.followText "set-order" = true from hb)]
    refine wpAny_ite (if_no rfl ?_)
    rw [hb', hk hb']
    refine wpAny_bind (m := _) (wpAny_of_eq (a := ()) rfl (wpAny_pure ?_))
    have e1 : SetTable.below (oneTab (!false) (hashStr w P)).place (SetTable.bits (hashStr w P) % 8 + 1) = 1 := below_1 _
    rw [e1]
    exact h
theorem iter_one {Q : Value → Shared → Prop} (ho : s.heap.get? D = some (oneSet w P t)) (h : Q (.ref s.heap.objs.size) { s with heap := s.heap.push (siObj 0 0 (.ref D)) }) :
    wpAny (model prog w) A (pyIter (.ref D)) Q E s := by
  have hT : s.TypeIs (.ref D) "set" := ⟨_, ho, rfl⟩
  refine wpAny_pyIter_slot hT F.slot_set_iter (wpAny_call_entry F.slot_set_iter hT entry_set_iter ?_ (F.args_set_iter_1 _))
  unfold Builtin.«frozenset.__iter__» Builtin.Frozenset.slot0 Builtin.Frozenset.sizeOf setEntries setDrawn
  refine wpAny_bind (wpAny_of_eq (a := D) rfl ?_)
  refine wpAny_bind (wpAny_bind (wpAny_bind (state_one ho (wpAny_pure (wpAny_pure ?_)))))
  refine wpAny_bind (wpAny_bind (state_one ho ?_))
  refine wpAny_bind (wpAny_bind (wpAny_askSetting (wpAny_pure (wpAny_pure ?_))))
  dsimp only
  refine wpAny_ite (if_no (Bool.and_false _) ?_)
  refine wpAny_bind (wpAny_pure ?_)
  refine wpAny_bind (wpAny_bind (state_one ho (wpAny_pure ?_)))
  refine wpAny_bind (wpAny_newObj_type ?_)
  exact wpAny_pure ⟨_, rfl, "set_iterator", _, ⟨_, Heap.get?_push_size _ rfl, rfl⟩, slot_si_next.lookup, h⟩
theorem iter_si {o : Obj} {Q : Value → Shared → Prop} (ho : s.heap.get? I = some o) (hc : o.cls = .type "set_iterator") (h : Q (.ref I) s) : wpAny (model prog w) A (pyIter (.ref I)) Q E s := by
  have hT : s.TypeIs (.ref I) "set_iterator" := ⟨_, ho, hc⟩
  refine wpAny_pyIter_slot hT slot_si_iter (wpAny_call_entry slot_si_iter hT entry_si_iter ?_ (args_si_iter _))
  show wpAny _ _ (ret (.ref I)) _ _ s
  exact wpAny_pure ⟨_, rfl, "set_iterator", _, hT, slot_si_next.lookup, h⟩
theorem si_item {Q : Option Value → Shared → Prop} (ho : s.heap.get? D = some (oneSet w P t)) (hi : s.heap.get? I = some (siObj 0 0 (.ref D)))
    (hQ : ∀ h' k, (byText w = false → k = SetTable.bits (hashStr w P) % 8 + 1) → h'.get? I = some (siObj k 1 (.ref D)) → Heap.SameBut I s.heap h' → Q (some (.str P t)) { s with heap := h' }) :
    wpAny (model prog w) A (pyNext (.ref I)) Q E s := by
  have hT : s.TypeIs (.ref I) "set_iterator" := ⟨_, hi, rfl⟩
  unfold pyNext
  refine wpAny_bind (wpAny_attempt (wpAny_callSpecial?_slot (name := Str.ofString "__next__") hT slot_si_next (wpAny_call_entry slot_si_next hT entry_si_next ?_ (args_si_next _))))
  unfold Builtin.«set_iterator.__next__» setEntries
  refine wpAny_bind (wpAny_of_eq (a := (Value.ref I, [])) rfl ?_)
  unfold fieldsOf
  refine wpAny_bind (wpAny_bind (wpAny_load hi (wpAny_pure ?_)))
  dsimp only [siObj, rawInt]
  refine wpAny_bind (wpAny_bind (state_one ho (wpAny_pure ?_)))
  refine wpAny_ite (if_no rfl ?_)
  refine wpAny_bind (next_0 ho fun k hk => ?_)
  dsimp only
  refine wpAny_bind (wpAny_setField hi rfl (by simp) ?_)
  have hi2 : (s.heap.update I (Obj.mapFields fun x => x.setIfInBounds 0 (Value.int (k : Nat) 0))).get? I = some (siObj k 0 (.ref D)) := Heap.get?_update_self _ hi rfl
  refine wpAny_bind (wpAny_setField hi2 rfl (by simp) ?_)
  refine wpAny_pure ⟨_, rfl, wpAny_pure (hQ _ k hk ?_ ?_)⟩
  · exact Heap.get?_update_self _ hi2 rfl
  · exact (Heap.SameBut.update ..).trans (Heap.SameBut.update ..)
theorem si_end {Q : Option Value → Shared → Prop} {k : Nat} (hh : A.handled = none) (ho : s.heap.get? D = some (oneSet w P t)) (hi : s.heap.get? I = some (siObj k 1 (.ref D))) (hk : byText w = false → k = SetTable.bits (hashStr w P) % 8 + 1)
    (hQ : ∀ h', Heap.ExtBut I s.heap h' → Q none { s with heap := h' }) : wpAny (model prog w) A (pyNext (.ref I)) Q E s := by
  have hT : s.TypeIs (.ref I) "set_iterator" := ⟨_, hi, rfl⟩
  unfold pyNext
  refine wpAny_bind (wpAny_attempt (wpAny_callSpecial?_slot (name := Str.ofString "__next__") hT slot_si_next (wpAny_call_entry slot_si_next hT entry_si_next ?_ (args_si_next _))))
  unfold Builtin.«set_iterator.__next__» setEntries
  refine wpAny_bind (wpAny_of_eq (a := (Value.ref I, [])) rfl ?_)
  unfold fieldsOf
  refine wpAny_bind (wpAny_bind (wpAny_load hi (wpAny_pure ?_)))
  dsimp only [siObj, rawInt]
  refine wpAny_bind (wpAny_bind (state_one ho (wpAny_pure ?_)))
  refine wpAny_ite (if_no rfl ?_)
  refine wpAny_bind (next_1 ho hk ?_)
  dsimp only
  refine wpAny_bind (wpAny_setField hi rfl (by simp) ?_)
  show wpAny _ _ (newExc (.type "StopIteration") [] >>= _) _ _ _
  refine wpAny_bind ?_
  simp only [newExc, newTuple]
  refine wpAny_bind (wpAny_newObj_type ?_ (by size_fits))
  refine wpAny_bind (m := firstArgMember _ _) (wpAny_of_eq (a := Value.none) (by first | rfl | (simp only [firstArgMember]; rfl)) ?_)
  refine wpAny_newObj_type ?_ (by size_fits)
  simp only [raiseNew]
  refine wpAny_bind (wpAny_handled ?_)
  rw [show A.in1.handled = none from hh]
  refine wpAny_bind (wpAny_pure (wpAny_throw ?_))
  refine wpAny_bind (wpAny_isInstance (T := "StopIteration") (b := true) ⟨_, Heap.get?_push_size _ rfl, rfl⟩ isSubtype_stop ?_)
  exact wpAny_pure (hQ _ (((Heap.SameBut.update ..).extBut.push _).push _))
theorem walks_one (hh : A.handled = none) (I D : Addr) (hne : D ≠ I) (P : Str) (t : Tok) :
    Walks prog w A I [I, D] [I] 1 (fun _ v => v = .str P t) (fun i h => h.get? D = some (oneSet w P t) ∧ ∃ k, h.get? I = some (siObj k i (.ref D)) ∧ (i = 0 → k = 0) ∧ (i = 1 → byText w = false → k = SetTable.bits (hashStr w P) % 8 + 1)) where
  sub := fun b hb => by simp at hb; simp [hb]
  frame := fun _ _ _ st hk => ⟨hk D (by simp) _ st.1, let ⟨k, a, b, c⟩ := st.2; ⟨k, hk I (by simp) _ a, b, c⟩⟩
  item := fun i s Q E hi st hQ => by
    obtain rfl : i = 0 := by omega
    obtain ⟨ho, k, hk, h0, _⟩ := st
    obtain rfl := h0 rfl
    refine si_item ho hk fun h' k' hk' hi' hs' => hQ _ h' s.toks rfl ⟨?_, k', hi', fun e => by simp at e, fun _ => hk'⟩ fun b o hb e => ?_
    · rw [hs'.2 D hne]; exact ho
    · rw [hs'.2 b (fun e => hb (by simp [e]))]; exact e
  done := fun s Q E st hQ => by
    obtain ⟨ho, k, hk, _, h1⟩ := st
    exact si_end hh ho hk (h1 rfl) fun h' he' => hQ h' s.toks fun b o hb e => he' b o (fun h => hb (by simp [h])) e
  self := fun _ _ _ _ st hQ => by
    obtain ⟨_, k, hk, _⟩ := st
    exact iter_si hk rfl hQ
theorem is_str (M : Str) (u : Tok) : (PySem.strKind prog w).is M (.str M u) = true := by
  show (M == M) = true
  exact beq_self_eq_true M
theorem set_of {h : Heap} (ho : h.get? D = some (oneSet w P t)) : h.SetOf (PySem.strKind prog w) D (fun k => decide (k = P)) 1 := by
  refine ⟨_, _, _, _, ho, ⟨rfl, rfl, rfl⟩, rfl, ?_, ?_, ?_, rfl, rfl⟩
  · intro e he
    obtain rfl : e = (hashStr w P, .str P t) := by simpa using he
    exact ⟨⟨P, is_str P t, rfl⟩, rfl⟩
  · intro k
    simp only [decide_eq_true_eq]
    constructor
    · rintro rfl
      exact ⟨_, List.mem_singleton.mpr rfl, is_str _ t⟩
    · rintro ⟨e, he, hk⟩
      obtain rfl : e = (hashStr w P, .str P t) := by simpa using he
      exact (eq_of_beq (show (P == k) = true from hk)).symm
  · show 1 < scanBound
    decide
theorem in_one {M : Str} {u : Tok} {Q : Value → Shared → Prop} (ho : s.heap.get? D = some (oneSet w P t)) (h : Q (.bool (decide (M = P))) { s with toks := s.toks + 1 }) :
    wpAny (model prog w) A (compareOp .In (.str M u) (.ref D)) Q E s :=
  wpAny_inSet_of (knd := PySem.strKind prog w) (k := M) (is_str M u) rfl (set_of ho) h
end
section
variable {prog : Program} {w : World} {A : Around} {E : Value → Shared → Prop} {s : Shared} {P : Str} {t : Tok} {D : Addr} {h₀ : Heap} {L : Addr} {m : Str → Option Value} {news : List (Addr × Obj)}
theorem new_one {l : Addr} {n : Nat} {Q : Value → Shared → Prop} (F : Fr h₀ L s.heap m) (N : News h₀ L s.heap news) (hh : A.handled = none) (hm : (l, listOf #[.str P t] n) ∈ news)
    (h : ∀ D h' tk, Fr h₀ L h' m → News h₀ L h' ((D, oneSet w P t) :: news) → (∀ p ∈ news, p.1 < D) → Q (.ref D) { s with heap := h', toks := tk }) :
    wpAny (model prog w) A (call (.type "set") [.ref l]) Q E s := by
  refine call_set_one hh (PySem.IsL.isList (n := n) (N _ hm).1) fun h' tk hS hk => ?_
  have hLlt : L < s.heap.objs.size := F.ns.lt
  refine h _ h' tk ⟨F.ns.at' fun o' e => hk L o' hLlt e, fun b o' e => hk b o' (Heap.lt_size (F.keep b o' e)) (F.keep b o' e), F.above⟩ (fun p hp => ?_) fun p hp => Heap.lt_size (N p hp).1
  rcases List.mem_cons.mp hp with rfl | hp
  · exact ⟨hS, Nat.ne_of_gt hLlt, next_is_new F⟩
  · exact ⟨hk _ _ (Heap.lt_size (N p hp).1) (N p hp).1, (N p hp).2⟩
/-- a for over such a set -/
theorem for_one {σ : Type} {Q : Flow → Shared → Prop} {env : Env} {x : Str} {body : List Stmt} {m₀ : Str → Option Value}
    (Led : σ → List (Addr × Obj)) (ps : σ → List (Str × Value)) (stored : List Str) (Inv : Nat → σ → Prop) (c₀ : σ)
    (hh : A.handled = none) (F : Fr h₀ env.locals s.heap m₀) (N : News h₀ env.locals s.heap news) (hl : (D, oneSet w P t) ∈ news) (hn : ∀ p ∈ Led c₀, p ∈ news) (hk : ∀ p ∈ ps c₀, m₀ p.1 = some p.2) (hj : Inv 0 c₀)
    (turn : ∀ (I : Addr) (c : σ) (u : Str → Option Value) (h : Heap) (tk : Nat) (own : List (Addr × Obj)), Inv 0 c → (∀ p ∈ news, p.1 < I) → (∀ p ∈ Led c, p.1 ≠ I) → (∀ p ∈ own, p.1 = I ∨ p.1 = D) → (∃ o, (I, o) ∈ own) →
      Fr h₀ env.locals h (fun y => if y = x then some (.str P t) else kstB (fun z => if stored.contains z then u z else m₀ z) (ps c) y) → News h₀ env.locals h (Led c ++ own) →
      wpAny (model prog w) A (execs body env) (FPost h₀ env.locals { s with heap := s.heap.push (siObj 0 0 (.ref D)) } x Led ps stored m₀ (Inv 1) I own Q) E { s with heap := h, toks := tk })
    (done : ∀ (c : σ) (u : Str → Option Value) (h : Heap) (tk : Nat), Inv 1 c → Fr h₀ env.locals h (kstB (fun z => if z = x then u z else if stored.contains z then u z else m₀ z) (ps c)) → News h₀ env.locals h (Led c) → Q .next { s with heap := h, toks := tk }) :
    wpAny (model prog w) A (pyIter (.ref D)) (fun it s₂ => LoopAtV prog w A h₀ env x body Q E it s₂) E s := by
  have z := N _ hl
  have hlt : D < s.heap.objs.size := Heap.lt_size z.1
  refine iter_one z.1 ?_
  refine for_walk (s := { s with heap := s.heap.push (siObj 0 0 (.ref D)) }) Led ps stored Inv c₀ (walks_one (prog := prog) (w := w) hh s.heap.objs.size D (Nat.ne_of_lt hlt) P t) ?_ (next_is_new F) ⟨Heap.get?_push_of_some _ z.1, 0, Heap.get?_push_size _ rfl, fun _ => rfl, fun e => by simp at e⟩
    (fun i h st => let ⟨_, k, hk, _⟩ := st; ⟨_, hk⟩) (F.push _) (fun p hp => ⟨Heap.get?_push_of_some _ (N p (hn p hp)).1, (N p (hn p hp)).2⟩) (fun p hp => Nat.ne_of_lt (Heap.lt_size (N p (hn p hp)).1)) hk hj ?_ ?_
  · intro hm
    rcases List.mem_cons.mp hm with e | hm
    · exact absurd F.ns.lt (e ▸ Nat.lt_irrefl _)
    · exact z.2.1 (List.mem_singleton.mp hm).symm
  · rintro i c v u h tk own hi rfl hc hL hof hI F' N'
    obtain rfl : i = 0 := by omega
    exact turn _ c u h tk own hc (fun p hp => Heap.lt_size (N p hp).1) hL (fun p hp => by have := hof p hp; simpa using this) hI F' N'
  · intro c u h tk hc _ F' N'
    exact done c u h tk hc F' N'
end
end Mine
end
section
open PySem PySem.W PyProof.Rows
set_option Elab.async false
set_option maxRecDepth 100000
set_option maxHeartbeats 8000000
namespace Mine
local macro_rules | `(tactic| walk_at "FPost") => `(tactic| dsimp only [FPost])
local macro_rules | `(tactic| walk_at "pyIter ref") => `(tactic| refine atStop ?_)
local macro_rules | `(tactic| k_all) => `(tactic| assumption)
local macro_rules | `(tactic| ktr_unf) => `(tactic| repeat' (first | (k_unfold; (try dsimp only)) | (walk1; (try dsimp only)) | (dsimp only; walk1)))
/-- a reader of one name, and what it holds -/
def readerLed (w : World) (x d D l dI : Addr) (o : Obj) (P : Str) (t t1 t2 t3 : Tok) (news : List (Addr × Obj)) : List (Addr × Obj) :=
  (dI, o) :: (l, listOf #[] 0) :: (D, oneSet w P t) :: (x, instObj 79 d) ::
    (d, dictOf [{ hash := PyData.keyHash w.params (Str.ofString "_mods"), key := .str (Str.ofString "_mods") t1, val := .ref D }, { hash := PyData.keyHash w.params (Str.ofString "_dirs"), key := .str (Str.ofString "_dirs") t2, val := .ref l },
      { hash := PyData.keyHash w.params (Str.ofString "_ignore"), key := .str (Str.ofString "_ignore") t3, val := .ref dI }] 3) :: news
def IsReader (w : World) (news news' : List (Addr × Obj)) (x : Addr) (P : Str) : Prop :=
  ∃ d D l dI o t t1 t2 t3 u v, news' = readerLed w x d D l dI o P t t1 t2 t3 news ∧ Obj.IsDictOf (PySem.strKind PySem.Challenge.rw_ny0102_01.row.prog w) o (strPairs [(.str (Str.ofString "<string>") u, .int 1 v)]) ∧ (dI == sysModules) = false ∧
    (∀ p ∈ news, p.1 < d) ∧ d < x ∧ x < D ∧ D < l ∧ l < dI
theorem ign_new (w : World) (news : List (Addr × Obj)) (l : Addr) (P : Str) (t : Tok) (n : Nat) (h1 : (l, listOf #[.str P t] n) ∈ news) :
    Does w 79 [.ref l] news 30 300 (fun r news' => ∃ x, r = .ref x ∧ IsReader w news news' x P) := by
  unfold Does
  k_fill
  intro dp un gd cn cs a ccd cl outer A₀ base h₀ L m mean mg mb s Q E B F X N T hk hd hu hret
  k_dflt (refine' call_cls ?k1 ?k2 ?k3 ?k4 ?k5 ?k6 ?_; (case k1 => k_asm); (case k2 => k_asm); (case k3 => k_asm); (case k4 => k_is); (case k5 => k_is); (case k6 => k_is))
  intro x6 d6 h6 F6 N6 l61 l62
  k_dflt (refine' code_def ?k1 ?k2 ?k3 ?k4 ?k5 ?kA ?kF ?kK ?k6 ?k7 ?k8 ?k9 ?kB ?_ ?c2 ?c3 ?c4 ?c5; (case kA => exact rfl); (case kF => exact rfl); (case kK => assumption); (case k1 => k_asm); (case k2 => k_asm); (case k3 => k_asm); (case k4 => k_asm); (case k5 => k_asm); (case k6 => k_is); (case k7 => k_is); (case k8 => ktr_room); (case k9 => first | exact BindsTo.of_eq rfl | exact binds_K (by k_in) rfl (by k_is) rfl rfl rfl | fail "k_enter: no rule for these arguments"); (case c5 => decide); (case kB => exact locs rfl); (case c2 => exact rfl); (case c3 => exact rfl); (case c4 => exact rfl))
  intro g7 L7 h7 FG7 F7 N7 B7 X7 T7
  dsimp only
  k_fold
  replace F7 : Fr g7 L7 h7 (fun y => List.lookup y [(Str.ofString "dirs", .none), (Str.ofString "modules", .ref l), (Str.ofString "self", .ref x6)]) := by with_unfolding_all exact F7
  ktr_unf
  with_unfolding_all refine kgr_truthy N7 (.tail _ (.tail _ h1)) rfl (vs := [.str P t]) rfl (by simp) ?_
  dsimp only [List.isEmpty_cons, Bool.not_false]
  ktr_unf
  with_unfolding_all refine new_one F7 N7 rfl (.tail _ (.tail _ h1)) ?_
  intro D8 h8 tk8 F8 N8 l8
  have nd6 : ∀ p ∈ news, p.1 ≠ d6 := fun p hp => Nat.ne_of_lt (l61 p hp)
  have nx6 : ∀ p ∈ news, p.1 ≠ x6 := fun p hp => Nat.ne_of_lt (Nat.lt_trans (l61 p hp) l62)
  k_lt2 l62
  k_lt l8
  ktr_unf
  rename Obj.IsDictOf _ _ _ => hdict
  rename (_ == sysModules) = false => hsys
  rename _ ∧ _ ∧ _ ∧ _ ∧ AllLt _ _ => l10
  rename _ ∧ _ ∧ _ ∧ AllLt _ _ => l9
  rename Fr _ _ _ _ => F9
  rename News _ _ _ _ => N9
  exact hret _ _ _ _ F9 N9 ⟨x6, rfl, _, _, _, _, _, _, _, _, _, _, _, rfl, hdict, hsys, fun p hp => l61 p hp, l62, l8.1, l9.1, l10.1⟩
end Mine
end
section
open PySem PySem.W PyProof.Rows
set_option Elab.async false
set_option maxRecDepth 100000
set_option maxHeartbeats 8000000
namespace Mine
local macro_rules | `(tactic| walk_at "FPost") => `(tactic| dsimp only [FPost])
local macro_rules | `(tactic| walk_at "pyIter ref") => `(tactic| refine atStop ?_)
local macro_rules | `(tactic| k_all) => `(tactic| assumption)
local macro_rules | `(tactic| ktr_unf) => `(tactic| repeat' (first | (k_unfold; (try dsimp only)) | (walk1; (try dsimp only)) | (dsimp only; walk1)))
def hit (P M : Str) : Bool := decide (M = P) || Txt.startswith M (P ++ Str.ofString ".")
theorem names_ (w : World) (news news' : List (Addr × Obj)) (x : Addr) (P M : Str) (tf tm : Tok) (hR : IsReader w news news' x P) (hM : M ≠ Str.ofString "<string>") (hPl : P.length ≤ 1000) :
    Does w 76 [.ref x, .str (Str.ofString "/f.py") tf, .str M tm] news' 30 300 (fun r news'' => (∀ p ∈ news, p ∈ news'') ∧ ∃ t, r = .int (if hit P M then 1 else 0) t) := by
  obtain ⟨d, D, l, dI, o, t, t1, t2, t3, u, v, rfl, hdict, hsys, ln, l1, l2, l3, l4⟩ := hR
  unfold Does readerLed
  k_fill
  intro dp un gd cn cs a ccd cl outer A₀ base h₀ L m mean mg mb s Q E B F X N T hk hd hu hret
  have nd : ∀ p ∈ news, p.1 ≠ d := fun p hp => Nat.ne_of_lt (ln p hp)
  have ndI : ∀ p ∈ news, p.1 ≠ dI := fun p hp => Nat.ne_of_lt (Nat.lt_trans (Nat.lt_trans (Nat.lt_trans (Nat.lt_trans (ln p hp) l1) l2) l3) l4)
  k_lt2 l1
  k_lt2 l2
  k_lt2 l3
  k_lt2 l4
  refine wpAny_call ?_
  k_dflt ktr_enter
  rename_i g' L' h' FG' F' N' B' X' T'
  replace F' : Fr g' L' h' (fun y => List.lookup y [(Str.ofString "modulename", .str M tm), (Str.ofString "filename", .str (Str.ofString "/f.py") tf), (Str.ofString "self", .ref x)]) := by with_unfolding_all exact F'
  ktr_unf
  have hval : (valueAt (strPairs [(.str (Str.ofString "<string>") u, .int 1 v)]) M).isSome = false := by
    simp only [strPairs, valueAt, List.find?]
    rw [decide_eq_false (fun e => hM e.symm)]
    rfl
  with_unfolding_all refine kda_in N' (.head _) hdict hsys (is_str M tm) false hval ?_
  ktr_unf
  with_unfolding_all refine in_one (N' _ (.tail _ (.tail _ (.head _)))).1 ?_
  ktr_unf
  · rename Fr _ _ _ _ => F7
    rename News _ _ _ _ => N7
    rename M = P => hMP
    refine hret _ _ _ _ F7 N7 ⟨fun p hp => .tail _ (.tail _ (.tail _ (.tail _ (.tail _ hp)))), _, (by rw [if_pos (by simp [hit, hMP])])⟩
  · rename ¬ M = P => hMP
    unfold AtStop
    rename Fr _ _ _ _ => F1
    rename News _ _ _ _ => N1
    with_unfolding_all refine for_one (fun _ : Unit => readerLed w x d D l dI o P t t1 t2 t3 news) (fun _ => []) [] (fun i _ => i = 1 → hit P M = false) () rfl F1 N1 (.tail _ (.tail _ (.head _))) (fun p hp => hp) (fun _ h => nomatch h) (fun e => absurd e (by decide)) ?_ ?_
    · rintro I - u2 h2 tk2 own - hIlt hLI hown ⟨oI, hoI⟩ F2 N2
      have nown : ∀ p ∈ news ++ own, p.1 ≠ dI := by
        intro p hp
        rcases List.mem_append.mp hp with h | h
        · exact ndI p h
        · rcases hown p h with e | e
          · rw [e]; exact (hLI (dI, o) (.head _)).symm
          · rw [e]; exact Nat.ne_of_lt (Nat.lt_trans l3 l4)
      simp only [readerLed, List.cons_append] at N2
      ktr_unf
      · rename Fr _ _ _ _ => F7
        rename News _ _ _ _ => N7
        rename Txt.startswith _ _ = true => hst
        refine hret _ _ _ _ F7 N7 ⟨fun p hp => .tail _ (.tail _ (.tail _ (.tail _ (.tail _ (List.mem_append_left _ hp))))), _, (by rw [if_pos (by simp [hit, hst])])⟩
      · rename Txt.startswith _ _ = false => hst
        rename Fr _ _ _ _ => F7
        rename News _ _ _ _ => N7
        refine FEnd.intro () F7 N7 ?_ ?_ (fun _ h => nomatch h) ?_ hLI ?_
        · intro p hp
          simp only [readerLed] at hp
          rw [← List.cons_append, ← List.cons_append, ← List.cons_append, ← List.cons_append, ← List.cons_append]
          exact List.mem_append_left _ hp
        · intro p hp
          exact .tail _ (.tail _ (.tail _ (.tail _ (.tail _ (List.mem_append_right _ hp)))))
        · intro z h1 h2 h3
          simp [kstB, h1]
        · intro _
          simp [hit, hst, hMP]
    · rintro - u2 h2 tk2 hno F2 N2
      simp only [readerLed] at N2
      ktr_unf
      unfold AtStop
      rename Fr _ _ _ _ => F1
      rename News _ _ _ _ => N1
      with_unfolding_all refine for_list (l := l) (vs := []) (k := 0) (fun _ : Unit => readerLed w x d D l dI o P t t1 t2 t3 news) (fun _ => []) [] (fun i _ => True) () rfl F1 N1 (.tail _ (.head _)) (fun p hp => hp) (fun _ h => nomatch h) trivial ?_ ?_
      · intro I i c v u h tk own hv
        simp at hv
      · rintro - u3 h3 tk3 - F3 N3
        simp only [readerLed] at N3
        ktr_unf
        rename Fr _ _ _ _ => F7
        rename News _ _ _ _ => N7
        exact hret _ _ _ _ F7 N7 ⟨fun p hp => .tail _ (.tail _ (.tail _ (.tail _ (.tail _ hp)))), _, (by rw [if_neg (by rw [hno rfl]; decide)])⟩
end Mine
end
section
open PySem PySem.W PyProof.Rows
set_option Elab.async false
set_option maxRecDepth 100000
set_option maxHeartbeats 8000000
namespace Mine
local macro_rules | `(tactic| walk_at "FPost") => `(tactic| dsimp only [FPost])
local macro_rules | `(tactic| walk_at "pyIter ref") => `(tactic| refine atStop ?_)
local macro_rules | `(tactic| walk_at "call ref") => `(tactic| refine atStop ?_)
local macro_rules | `(tactic| ktr_unf) => `(tactic| repeat' (first | (k_unfold; (try dsimp only)) | (walk1; (try dsimp only)) | (dsimp only; walk1)))
abbrev dot : Str := Str.ofString "."
/-- the greatest count of parts that is hit -/
def sharedN (xs : List Str) (M : Str) : Nat → Nat
  | 0 => 0
  | k + 1 => if hit (Txt.join dot (xs.take (k + 1))) M then k + 1 else sharedN xs M k
theorem sharedN_hit {xs : List Str} {M : Str} {k : Nat} (hk : 1 ≤ k) (h : hit (Txt.join dot (xs.take k)) M = true) : sharedN xs M k = k := by
  obtain ⟨k, rfl⟩ : ∃ j, k = j + 1 := ⟨k - 1, by omega⟩
  rw [sharedN, if_pos h]
theorem sharedN_miss {xs : List Str} {M : Str} {k : Nat} (hk : 1 ≤ k) (h : hit (Txt.join dot (xs.take k)) M = false) : sharedN xs M (k - 1) = sharedN xs M k := by
  obtain ⟨k, rfl⟩ : ∃ j, k = j + 1 := ⟨k - 1, by omega⟩
  rw [Nat.add_sub_cancel]
  conv => rhs; rw [sharedN, if_neg (by rw [h]; decide)]
theorem shared_ (w : World) (news : List (Addr × Obj)) (A₁ A₂ : Addr) (vs us : List Value) (n₁ n₂ : Nat) (xs ys : List Str) (h1 : (A₁, listOf vs.toArray n₁) ∈ news) (h2 : (A₂, listOf us.toArray n₂) ∈ news) (hx : StrsAre vs xs) (hy : StrsAre us ys)
    (hlen : xs.length < 10) (hlen2 : ys.length < 10) (hcx : ∀ y ∈ xs, y.length ≤ 10) (hcy : ∀ y ∈ ys, y.length ≤ 10) (hP : ∀ k, (Txt.join dot (xs.take k)).length ≤ 1000) (hM : Txt.join dot ys ≠ Str.ofString "<string>") :
    Does w 130 [.ref A₁, .ref A₂] news 50 500 (fun r news' => (∃ t, r = .int (sharedN xs (Txt.join dot ys) xs.length : Nat) t) ∧ ∀ p ∈ news, p ∈ news') := by
  unfold Does
  k_fill
  intro dp un gd cn cs a ccd cl outer A₀ base h₀ L m mean mg mb s Q E B F X N T hk hd hu hret
  refine wpAny_call ?_
  k_dflt ktr_enter
  rename_i g' L' h' FG' F' N' B' X' T'
  replace F' : Fr g' L' h' (fun y => List.lookup y [(Str.ofString "row", .ref A₂), (Str.ofString "ahead", .ref A₁)]) := by with_unfolding_all exact F'
  ktr_unf
  have hvl := strs_len hx
  with_unfolding_all refine len_any (by k_asm) h1 (by omega) ?_
  ktr_unf
  unfold AtStop
  rename IsRange _ _ _ _ _ _ _ _ => hR
  rename Fr _ _ _ _ => F1
  rename News _ _ _ _ => N1
  with_unfolding_all refine for_range vs.length (fun _ : Unit => news) (fun _ => []) [Str.ofString "reader", Str.ofString "answer"] (fun i _ => sharedN xs (Txt.join dot ys) (xs.length - i) = sharedN xs (Txt.join dot ys) xs.length) () rfl F1 N1 hR (small_down _ (by omega)) (rangeSize_down _) (fun p hp => hp) (fun _ h => nomatch h) rfl ?_ ?_
  · rintro I i - t u h tk own hi hinv hIlt hLI hown ⟨oI, hoI⟩ F3 N3
    have e : ((vs.length : Nat) : Int) + (i : Int) * (-1) = ((vs.length - i : Nat) : Int) := by omega
    rw [e] at F3
    ktr_unf
    with_unfolding_all refine slice_upto (s := ⟨h, _, _, _, _⟩) F3 N3 (List.mem_append_left _ h1) (by omega) ?_
    intro D1 h4 F4 N4 l4
    ktr_unf
    with_unfolding_all refine join_any N4 (List.Mem.head _) (strs_take hx _) (by simp; omega) (fun y hy => hcx y (List.mem_of_mem_take hy)) (by decide) ?_
    intro t5 tk5
    ktr_unf
    unfold AtStop
    rename Fr _ _ _ _ => F5
    rename News _ _ _ _ => N5
    with_unfolding_all refine Does.use (ign_new w _ _ (Txt.join dot (xs.take (vs.length - i))) t5 0 (.head _)) B' F5 X' N5 T' rfl (by show dp + 1 + 30 < recursionLimit; omega) (by show un + 3 + 300 < cLine; omega) ?_
    rintro r news6 h6 tk6 F6 N6 ⟨x6, rfl, hRd⟩
    have hRd' := hRd
    obtain ⟨d, D, l, dI, o, t₀, t1, t2, t3, u', v', rfl, hdict, hsys, ln, l1, l2, l3, l4⟩ := hRd'
    unfold readerLed at N6
    ktr_unf
    rename News _ _ _ _ => N7
    with_unfolding_all refine join_any N7 (.tail _ (.tail _ (.tail _ (.tail _ (.tail _ (.tail _ (.tail _ (List.mem_append_left _ h2)))))))) hy (by omega) hcy (by decide) ?_
    intro t8 tk8
    ktr_unf
    unfold AtStop
    rename Fr _ _ _ _ => F8
    with_unfolding_all refine Does.use (names_ w _ _ x6 _ _ _ _ hRd hM (hP _)) B' F8 X' N7 T' rfl (by show dp + 1 + 30 < recursionLimit; omega) (by show un + 3 + 300 < cLine; omega) ?_
    rintro r news9 h9 tk9 F9 N9 ⟨hsub, t9, rfl⟩
    have hk1 : vs.length - i = (vs.length - i - 1) + 1 := by omega
    cases hh : hit (Txt.join dot (xs.take (vs.length - i))) (Txt.join dot ys) with
    | true =>
      rw [if_pos rfl]
      ktr_unf
      rename Fr _ _ _ _ => F10
      rename News _ _ _ _ => N10
      refine hret _ _ _ _ F10 N10 ⟨⟨t, ?_⟩, fun p hp => hsub p (.tail _ (.tail _ (List.mem_append_left _ hp)))⟩
      rw [hvl] at hh
      rw [← hinv, sharedN_hit (by omega) hh, hvl]
    | false =>
      rw [if_neg (by decide)]
      ktr_unf
      rename Fr _ _ _ _ => F10
      rename News _ _ _ _ => N10
      refine FEnd.intro () F10 N10 (fun p hp => hsub p (.tail _ (.tail _ (List.mem_append_left _ hp)))) (fun p hp => hsub p (.tail _ (.tail _ (List.mem_append_right _ hp)))) (fun _ h => nomatch h) ?_ hLI ?_
      · intro z h1 h2 h3
        simp only [List.contains_cons, List.contains_nil, Bool.or_false, Bool.or_eq_false_iff, beq_eq_false_iff_ne, ne_eq] at h3
        simp [kstB, h1, h3]
      · rw [hvl] at hh
        rw [← hinv, ← sharedN_miss (k := xs.length - i) (by omega) hh, Nat.sub_sub]
  · rintro - u h tk hinv F3 N3
    ktr_unf
    rename Fr _ _ _ _ => F7
    rename News _ _ _ _ => N7
    refine hret _ _ _ _ F7 N7 ⟨⟨_, (by rw [← hinv, hvl, Nat.sub_self]; rfl)⟩, fun p hp => hp⟩
end Mine
end
section
set_option Elab.async false
set_option maxRecDepth 100000
namespace Mine
open PySem PySem.W PySem.Calls PyProof.Rows
theorem off1_mem {D : Addr} : ∀ {l : List (Addr × Obj)}, LCg.Off1 D l → ∀ p ∈ l, p.1 ≠ D
  | [], _, _, h => nomatch h
  | _ :: _, x, p, h => by
    rcases List.mem_cons.mp h with rfl | h
    · exact x.1
    · exact off1_mem x.2 p h
section
variable {prog : Program} {w : World} {A : Around} {h₀ : Heap} {L : Addr} {m : Str → Option Value} {env : Env} {elt : Expr} {x : Str} {scope : Scope} {cl : List (Str × Addr)} {s : Shared} {S : List (Addr × Obj) → Prop} {P : Nat → Value → Prop}
  {Fin : List Value → List (Addr × Obj) → Prop}
theorem comp_end_mono {s₁ s₂ : Shared} {I C D : Addr} {oI oC oD : Obj} {r r' : Value → List (Addr × Obj) → Prop} {y : Value} (hr : ∀ y news', r y news' → r' y news') (h : LCg.CompEnd h₀ L m s₁ I oI C oC D oD S r y s₂) : LCg.CompEnd h₀ L m s₁ I oI C oC D oD S r' y s₂ := by
  obtain ⟨h', tk, news', e, F, N, off, hS, q⟩ := h
  exact ⟨h', tk, news', e, F, N, off, hS, hr _ _ q⟩
theorem comp_inv (J : Nat → List Value → List (Addr × Obj) → Prop) (n : Nat)
    (turn : ∀ i ys news v I oI C oC D m₂ h tk (E' : Value → Shared → Prop), i < n → J i ys news → P i v → LCg.NsObj oC m₂ → m₂ x = some v → Fr h₀ L h m → News h₀ L h ((I, oI) :: (C, oC) :: (D, LCg.lst ys) :: news) → LCg.Off3 I C D news → ((@Ne Nat I C) ∧ (@Ne Nat I D) ∧ (@Ne Nat C D)) →
      wpAny (model prog w) A (eval elt (compEnvC scope cl C env)) (LCg.CompEnd h₀ L m { s with heap := h, toks := tk } I oI C oC D (LCg.lst ys) S (fun y news' => J (i + 1) (ys ++ [y]) news')) E' { s with heap := h, toks := tk })
    (done : ∀ ys news, J n ys news → Fin ys news) : ∀ (k i : Nat) (ys : List Value) (news : List (Addr × Obj)), n - i = k → i ≤ n → J i ys news → LCg.CompRest prog w A h₀ L m env elt x scope cl s S P Fin k i ys news := by
  intro k
  induction k with
  | zero =>
    intro i ys news hk hi hj
    obtain rfl : i = n := by omega
    exact LCg.CompRest.zero (done ys news hj)
  | succ k ih =>
    intro i ys news hk hi hj
    refine LCg.CompRest.succ fun v I oI C oC D m₂ h tk E' hP hC hx F N off ne => ?_
    refine wpAny_mono (turn i ys news v I oI C oC D m₂ h tk E' (by omega) hj hP hC hx F N off ne) (fun y s₂ q => ?_) fun _ _ e => e
    exact comp_end_mono (fun y news' hj' => ih (i + 1) _ news' (by omega) (by omega) hj') q
end
end Mine
end
section
open PySem PySem.W PyProof.Rows
set_option Elab.async false
set_option maxRecDepth 100000
set_option maxHeartbeats 8000000
namespace Mine
local macro_rules | `(tactic| walk_at "CompSrc") => `(tactic| refine atStop ?_)
local macro_rules | `(tactic| ktr_unf) => `(tactic| repeat' (first | (k_unfold; (try dsimp only)) | (walk1; (try dsimp only)) | (dsimp only; walk1)))
def part (d : Nat) : Str := match d with
  | 0 => Str.ofString "a"
  | 1 => Str.ofString "ab"
  | _ => Str.ofString "b"
def digit (x : Int) (k : Nat) : Nat := (((x.fdiv 4).fdiv (3 ^ k)).fmod 3).toNat
def rowOf (x : Int) : List Nat := (List.range ((x.fmod 4 + 1).toNat)).map (digit x)
theorem row_ (w : World) (news : List (Addr × Obj)) (x : Int) (tx : Tok) :
    Does w 123 [.int x tx] news 30 300 (fun r news' => ∃ D vs n, r = .ref D ∧ news' = (D, listOf vs.toArray n) :: news ∧ StrsAre vs ((rowOf x).map part) ∧ ∀ p ∈ news, p.1 ≠ D) := by
  unfold Does
  k_fill
  intro dp un gd cn cs a ccd cl outer A₀ base h₀ L m mean mg mb s Q E B F X N T hk hd hu hret
  refine wpAny_call ?_
  k_dflt (refine' code_defC ?k1 ?k2 ?k3 ?k4 ?k5 ?kA ?kF ?kK ?k6 ?k7 ?k8 ?k9 ?kB ?kD ?_ ?c2 ?c3 ?c4; (case kA => exact rfl); (case kF => exact rfl); (case kK => assumption); (case k1 => k_asm); (case k2 => k_asm); (case k3 => k_asm); (case k4 => k_asm); (case k5 => k_asm); (case k6 => k_is); (case k7 => k_is); (case k8 => ktr_room); (case k9 => exact BindsTo.of_eq rfl); (case kB => exact rfl); (case kD => decide +kernel); (case c2 => exact rfl); (case c3 => exact rfl); (case c4 => exact rfl))
  intro g' L' h' tk' cells' FG' F' N' Y' B' X' T' l1
  k_cells Y'
  (try simp only [List.cons_append, List.nil_append] at N')
  (try dsimp only)
  (try k_fold)
  rename Obj => oc
  rename oc.data = _ => hoc
  replace F' : Fr g' L' h' (fun _ => none) := by with_unfolding_all exact F'
  replace hoc : oc.data = Data.cell (some (.int x tx)) := by with_unfolding_all exact hoc
  ktr_unf
  unfold AtStop
  rename IsRange _ _ _ _ _ _ _ _ => hR
  rename Fr _ _ _ _ => F1
  rename News _ _ _ _ => N1
  have hm0 : 0 ≤ x.fmod 4 := Int.fmod_nonneg_of_pos x (by decide)
  have hm4 : x.fmod 4 < 4 := Int.fmod_lt_of_pos x (by decide)
  have hfm : x.fmod 4 + 1 = (((x.fmod 4 + 1).toNat : Nat) : Int) := by omega
  rw [hfm] at hR
  with_unfolding_all refine LCg.CompSrc.range (n := (x.fmod 4 + 1).toNat) rfl F1 N1 hR (small_up' _ (by omega)) (rangeSize_up _) (by rw [PySem.sizeLine_eq]; omega) ?_
  intro gg
  refine comp_inv (fun i ys news' => news' = (L' + 1, oc) :: news ∧ StrsAre ys ((rowOf x).take i |>.map part)) _ ?_ ?_ _ 0 _ _ rfl (Nat.zero_le _) ⟨rfl, .nil⟩
  · rintro i ys news' v I oI C oC D m₂ h2 tk2 E' hi ⟨rfl, hys⟩ ⟨tv, rfl⟩ hC hk2 F2 N2 off ne
    replace hi : i < (x.fmod 4 + 1).toNat := hi
    have hi4 : i < 4 := by omega
    rw [Int.zero_add] at hk2
    ktr_unf
    rw [Int.toNat_natCast]
    have hp3 : (3 : Int) ^ i ≠ 0 := Int.ne_of_gt (Int.pow_pos (by decide))
    refine floordiv_int hp3 ?_ (.inl (PyProof.noPylong_of_log2 (by
      rcases (show i = 0 ∨ i = 1 ∨ i = 2 ∨ i = 3 by omega) with e | e | e | e <;> subst e <;> decide +kernel)))
    ktr_unf
    have hd0 : 0 ≤ ((x.fdiv 4).fdiv (3 ^ i)).fmod 3 := Int.fmod_nonneg_of_pos _ (by decide)
    have hd3 : ((x.fdiv 4).fdiv (3 ^ i)).fmod 3 < 3 := Int.fmod_lt_of_pos _ (by decide)
    have hdig : ((x.fdiv 4).fdiv (3 ^ i)).fmod 3 = ((digit x i : Nat) : Int) := by unfold digit; omega
    have hdl : digit x i < 3 := by unfold digit; omega
    obtain ⟨tt, htt⟩ : ∃ tt, [Value.str (Str.ofString "a") tk2, Value.str (Str.ofString "ab") (tk2 + 1), Value.str (Str.ofString "b") (tk2 + 1 + 1)][digit x i]? = some (.str (part (digit x i)) tt) := by
      rcases (show digit x i = 0 ∨ digit x i = 1 ∨ digit x i = 2 by omega) with e | e | e <;> rw [e] <;> exact ⟨_, rfl⟩
    rename News _ _ _ _ => N3
    rename Fr _ _ _ _ => F3
    with_unfolding_all refine get_at (digit x i) N3 (.head _) hdig htt (by simp) ?_
    refine LCg.CompEnd.intro F3 N3 ((L' + 1, oc) :: news) (fun p hp => .tail _ hp) off trivial ⟨rfl, ?_⟩
    have hget : (rowOf x)[i]? = some (digit x i) := by
      unfold rowOf
      rw [List.getElem?_map, List.getElem?_range hi]
      rfl
    rw [List.take_add_one, hget]
    simp only [Option.toList, List.map_append, List.map_cons, List.map_nil]
    exact strs_append hys (.cons _ _ .nil)
  · rintro ys news' ⟨rfl, hys⟩
    intro D h3 tk3 F3 N3 off
    ktr_unf
    rename Fr _ _ _ _ => F7
    rename News _ _ _ _ => N7
    have hlen : (rowOf x).length = (x.fmod 4 + 1).toNat := by simp [rowOf]
    replace hys : StrsAre ys ((rowOf x).take ((x.fmod 4 + 1).toNat) |>.map part) := hys
    rw [← hlen, List.take_length] at hys
    refine hret _ ((D, listOf ys.toArray ys.length) :: news) _ _ F7 (fun p hp => N7 p ?_) ⟨D, ys, _, rfl, rfl, hys, fun p hp => ?_⟩
    · rcases List.mem_cons.mp hp with rfl | hp
      · exact .head _
      · exact .tail _ (.tail _ hp)
    · exact off1_mem off.2 p hp
end Mine
end
section
set_option Elab.async false
set_option maxRecDepth 100000
namespace Mine
open PySem PySem.W PySem.Calls PyProof.Rows PySem.SeqAt
theorem strs_inj : ∀ {vs : List Value} {xs ys : List Str}, StrsAre vs xs → StrsAre vs ys → xs = ys
  | _, _, _, .nil, .nil => rfl
  | _, _, _, .cons _ _ h, .cons _ _ g => by rw [strs_inj h g]
theorem strs_item {vs : List Value} {xs : List Str} (h : StrsAre vs xs) (i : Nat) (hi : i < vs.toArray.size) (hx : i < xs.length) : ∃ t, vs.toArray[i] = .str xs[i] t := by
  obtain ⟨t, ht⟩ := strs_get h i hx
  refine ⟨t, ?_⟩
  have : vs.toArray[i]? = some (.str xs[i] t) := by simpa using ht
  rw [Array.getElem?_eq_getElem hi] at this
  exact Option.some.inj this
section
variable {A : Around} {s : Shared} {h₀ : Heap} {L : Addr} {news : List (Addr × Obj)}
theorem eqAt_lists {a b : Addr} {vs us : List Value} {xs ys : List Str} {n k : Nat} (ha : s.heap.get? a = some (listOf vs.toArray n)) (hb : s.heap.get? b = some (listOf us.toArray k)) (hx : StrsAre vs xs) (hy : StrsAre us ys) (hne : a ≠ b) (hu : A.units < cLine) :
    EqAt A s (.ref a) (.ref b) (decide (xs = ys)) := by
  have lx := strs_len hx
  have ly := strs_len hy
  refine EqAt.of_refs hne ?_
  have la : s.heap.IsList a vs.toArray := PySem.IsL.isList (n := n) ha
  have lb : s.heap.IsList b us.toArray := PySem.IsL.isList (n := k) hb
  by_cases hl : xs.length = ys.length
  · have e : decide (xs = ys) = (List.range vs.toArray.size).all (fun j => xs[j]? == ys[j]?) := by
      rw [List.size_toArray, lx]
      rw [Bool.eq_iff_iff, decide_eq_true_eq, List.all_eq_true]
      constructor
      · rintro rfl j _; simp
      · intro h
        apply List.ext_getElem? 
        intro j
        by_cases hj : j < xs.length
        · exact eq_of_beq (h j (List.mem_range.mpr hj))
        · rw [List.getElem?_eq_none (by omega), List.getElem?_eq_none (by omega)]
    rw [e]
    refine RcAt.lists la lb (by simp; omega) hu fun j h1 h2 => ?_
    have hj : j < xs.length := by simpa [lx] using h1
    have hj2 : j < ys.length := by omega
    obtain ⟨t, et⟩ := strs_item hx j h1 hj
    obtain ⟨u, eu⟩ := strs_item hy j h2 hj2
    rw [et, eu, List.getElem?_eq_getElem hj, List.getElem?_eq_getElem hj2]
    have := EqAt.str_str (A := A.in1) (s := s) xs[j] t ys[j] u
    simpa using this
  · have e : decide (xs = ys) = false := decide_eq_false fun h => hl (by rw [h])
    rw [e]
    exact RcAt.lists_lengths la lb (by simp; omega) hu
end
end Mine
end
section
open PySem PySem.W PyProof.Rows
set_option Elab.async false
set_option maxRecDepth 100000
set_option maxHeartbeats 8000000
namespace Mine
local macro_rules | `(tactic| walk_at "exec For Name Name cons nil") => `(tactic| (k_here; (rename Fr _ _ _ _ => lF'); (with_unfolding_all refine' For_invVF lF' ?k1 ?k2 ?_; (case k1 => exact rfl); (case k2 => exact rfl); k_whole)))
local macro_rules | `(tactic| walk_at "FPost") => `(tactic| dsimp only [FPost])
local macro_rules | `(tactic| walk_at "pyIter ref") => `(tactic| refine atStop ?_)
local macro_rules | `(tactic| walk_at "compareOp NotIn ref ref") => `(tactic| refine atStop ?_)
local macro_rules | `(tactic| ktr_unf) => `(tactic| repeat' (first | (k_unfold; (try dsimp only)) | (walk1; (try dsimp only)) | (dsimp only; walk1)))

def addBeg (found : List (List Str)) (p : List Str) : List (List Str) := if p ∈ found then found else found ++ [p]
def begRow (found : List (List Str)) (row : List Str) : List (List Str) := (List.range row.length).foldl (fun f k => addBeg f (row.take (k + 1))) found
def begAll (rows : List (List Str)) : List (List Str) := rows.foldl begRow []
inductive RowsAre (l : List (Addr × Obj)) : List Value → List (List Str) → Prop
  | nil : RowsAre l [] []
  | cons {v vs r rs} : RowAt l v r → RowsAre l vs rs → RowsAre l (v :: vs) (r :: rs)
theorem RowsAre.mono {l l' : List (Addr × Obj)} (hs : ∀ p ∈ l, p ∈ l') : ∀ {vs : List Value} {rs : List (List Str)}, RowsAre l vs rs → RowsAre l' vs rs
  | _, _, .nil => .nil
  | _, _, .cons h t => .cons (h.mono hs) (t.mono hs)
theorem RowsAre.snoc {l : List (Addr × Obj)} {v : Value} {r : List Str} (h : RowAt l v r) : ∀ {vs : List Value} {rs : List (List Str)}, RowsAre l vs rs → RowsAre l (vs ++ [v]) (rs ++ [r])
  | _, _, .nil => .cons h .nil
  | _, _, .cons g t => .cons g (t.snoc h)
theorem RowsAre.length {l : List (Addr × Obj)} : ∀ {vs : List Value} {rs : List (List Str)}, RowsAre l vs rs → vs.length = rs.length
  | _, _, .nil => rfl
  | _, _, .cons _ t => congrArg (· + 1) t.length
theorem RowsAre.mem {l : List (Addr × Obj)} {v : Value} : ∀ {vs : List Value} {rs : List (List Str)}, RowsAre l vs rs → v ∈ vs → ∃ r, RowAt l v r
  | _, _, .nil, h => nomatch h
  | _, _, .cons g t, h => by
    rcases List.mem_cons.mp h with rfl | h
    · exact ⟨_, g⟩
    · exact t.mem h
theorem rowAt_inj {h₀ h : Heap} {L : Addr} {l : List (Addr × Obj)} {v : Value} {r r' : List Str} (N : News h₀ L h l) (a : RowAt l v r) (b : RowAt l v r') : r = r' := by
  obtain ⟨x, vs, n, rfl, hm, hx⟩ := a
  obtain ⟨y, us, k, e, hm', hy⟩ := b
  cases e
  have := (N _ hm).1.symm.trans (N _ hm').1
  simp only [Option.some.injEq, Obj.mk.injEq, Data.seq.injEq, true_and, and_true] at this
  have e : vs = us := by simpa using this.1
  subst e
  exact strs_inj hx hy
open Classical in
theorem any_rows {h₀ h : Heap} {L : Addr} {l : List (Addr × Obj)} {p : List Str} (N : News h₀ L h l) : ∀ {vs : List Value} {rs : List (List Str)}, RowsAre l vs rs → vs.any (fun v => decide (RowAt l v p)) = decide (p ∈ rs)
  | _, _, .nil => by simp
  | _, _, .cons (v := v) (r := r) g t => by
    rw [List.any_cons, any_rows N t]
    by_cases e : r = p
    · subst e
      simp [g]
    · have : ¬ RowAt l v p := fun q => e (rowAt_inj N g q)
      have e' : ¬ p = r := fun q => e q.symm
      simp [this, e']

theorem begin_ (w : World) (key : Value → List Str) (R : Addr) (its : List Value) (n : Nat) (news : List (Addr × Obj)) (hm : (R, listOf its.toArray n) ∈ news) (hr : ∀ v ∈ its, RowAt news v (key v)) (hlen : its.length < 20) (hk : ∀ v ∈ its, (key v).length < 10) :
    Does w 137 [.ref R] news 30 300 (fun r news' => (∀ p ∈ news, p ∈ news') ∧ ∃ (Fd : Addr) (fs : List Value) (n' : Nat), r = .ref Fd ∧ (Fd, listOf fs.toArray n') ∈ news' ∧ fs.length = (begAll (its.map key)).length ∧ fs.length < 1000) := by
  unfold Does
  k_fill
  intro dp un gd cn cs a ccd cl outer A₀ base h₀ L m mean mg mb s Q E B F X N T hck hd hu hret
  refine wpAny_call ?_
  k_dflt ktr_enter
  rename_i g' L' h' FG' F' N' B' X' T'
  replace F' : Fr g' L' h' (fun y => List.lookup y [(Str.ofString "rows", .ref R)]) := by with_unfolding_all exact F'
  ktr_unf
  unfold AtStop
  rename Fr _ _ _ _ => F1
  rename News _ _ _ _ => N1
  rename_i Fd h5 lFd h6
  with_unfolding_all refine for_list (l := R) (vs := its) (k := n) (fun c : List Value × Nat × List (Addr × Obj) × List (List Str) => (Fd, listOf c.1.toArray c.2.1) :: (c.2.2.1 ++ news)) (fun _ => []) [Str.ofString "k"] (fun i c => c.2.2.2 = begAll ((its.take i).map key) ∧ RowsAre c.2.2.1 c.1 c.2.2.2 ∧ (∀ p ∈ c.2.2.1, p.1 ≠ Fd) ∧ c.1.length ≤ 10 * i) ([], 0, [], []) rfl F1 N1 (.tail _ hm) (fun p hp => hp) (fun _ h => nomatch h) (by refine ⟨rfl, .nil, ?_, Nat.zero_le _⟩; intro p hp; cases hp) ?_ ?_
  · rintro I i ⟨fs0, n0, ex0, rows0⟩ v u h tk own hv ⟨hrows0, hra0, hex0, hl0⟩ hIlt hLI hown ⟨oI, hoI⟩ F2 N2
    dsimp only at hrows0 hra0 hex0 hl0 hLI F2 N2
    have hvm : v ∈ its := List.mem_of_getElem? hv
    have hi : i < its.length := by
      rcases Nat.lt_or_ge i its.length with h | h
      · exact h
      · rw [List.getElem?_eq_none h] at hv; cases hv
    obtain ⟨ra, rvs, rn, rfl, hrm, hrs⟩ := hr v hvm
    have hrl := strs_len hrs
    have hkl := hk _ hvm
    have hRFd : R ≠ Fd := Nat.ne_of_lt (lFd _ hm)
    have hnFd : ∀ p ∈ news ++ own, p.1 ≠ Fd := by
      intro p hp
      rcases List.mem_append.mp hp with q | q
      · exact Nat.ne_of_lt (lFd p q)
      · rcases hown p q with e | e
        · rw [e]; exact (hLI (Fd, listOf fs0.toArray n0) (.head _)).symm
        · rw [e]; exact hRFd
    replace N2 : News g' L' h ((Fd, listOf fs0.toArray n0) :: (ex0 ++ (news ++ own))) := by
      intro p hp
      refine N2 p ?_
      rcases List.mem_cons.mp hp with rfl | hp
      · exact .head _
      · rw [← List.append_assoc] at hp
        exact .tail _ hp
    ktr_unf
    with_unfolding_all refine len_any N2 (.tail _ (List.mem_append_right _ (List.mem_append_left _ hrm))) (by omega) ?_
    ktr_unf
    unfold AtStop
    rename IsRange _ _ _ _ _ _ _ _ => hR
    rename Fr _ _ _ _ => F3
    rename News _ _ _ _ => N3
    with_unfolding_all refine for_range rvs.length (fun c : List Value × Nat × List (Addr × Obj) × List (List Str) => (Fd, listOf c.1.toArray c.2.1) :: (c.2.2.1 ++ (news ++ own))) (fun _ => []) [] (fun j c => c.2.2.2 = (List.range j).foldl (fun f k => addBeg f ((key (.ref ra)).take (k + 1))) rows0 ∧ RowsAre c.2.2.1 c.1 c.2.2.2 ∧ (∀ p ∈ c.2.2.1, p.1 ≠ Fd) ∧ (∀ p ∈ c.2.2.1, p.1 ≠ I) ∧ c.1.length ≤ 10 * i + j) (fs0, n0, ex0, rows0) rfl F3 N3 hR (small_up' _ (by omega)) (rangeSize_up _) (fun p hp => hp) (fun _ h => nomatch h) (by refine ⟨rfl, hra0, hex0, ?_, hl0⟩; intro p hp; exact hLI p (.tail _ (List.mem_append_left _ hp))) ?_ ?_
    · rintro I2 j ⟨fs1, n1, ex1, rows1⟩ t u1 h1 tk1 own2 hj ⟨hrows1, hra1, hex1, hexI1, hl1⟩ hIlt2 hLI2 hown2 ⟨oI2, hoI2⟩ F4 N4
      dsimp only at hrows1 hra1 hex1 hexI1 hl1 hLI2 F4 N4
      have e : (0 : Int) + (j : Int) * 1 = ((j : Nat) : Int) := by omega
      rw [e] at F4
      ktr_unf
      rw [show ((j : Nat) : Int) + 1 = ((j + 1 : Nat) : Int) by omega]
      have hIn4 : (ra, listOf rvs.toArray rn) ∈ (Fd, listOf fs1.toArray n1) :: (ex1 ++ (news ++ own)) ++ own2 := List.mem_append_left _ (.tail _ (List.mem_append_right _ (List.mem_append_left _ hrm)))
      with_unfolding_all refine slice_upto (s := ⟨h1, _, _, _, _⟩) F4 N4 hIn4 (by omega) ?_
      intro D1 h7 F7 N7 l7
      ktr_unf
      unfold AtStop
      have hfsIn : ∀ p ∈ ex1, p ∈ (D1, listOf (rvs.take (j + 1)).toArray 0) :: ((Fd, listOf fs1.toArray n1) :: (ex1 ++ (news ++ own)) ++ own2) := fun p hp => .tail _ (List.mem_append_left _ (.tail _ (List.mem_append_left _ hp)))
      have hraN := hra1.mono hfsIn
      have hFdIn : (Fd, listOf fs1.toArray n1) ∈ (D1, listOf (rvs.take (j + 1)).toArray 0) :: ((Fd, listOf fs1.toArray n1) :: (ex1 ++ (news ++ own)) ++ own2) := .tail _ (List.mem_append_left _ (.head _))
      have hany := any_rows (p := (key (.ref ra)).take (j + 1)) N7 hraN
      with_unfolding_all refine PySem.SeqAt.notIn_listAt (items := fs1.toArray) (fun v => @decide (RowAt ((D1, listOf (rvs.take (j + 1)).toArray 0) :: ((Fd, listOf fs1.toArray n1) :: (ex1 ++ (news ++ own)) ++ own2)) v ((key (.ref ra)).take (j + 1))) (Classical.propDecidable _)) (PySem.IsL.isList (n := n1) (N7 _ hFdIn).1) ?_ ?_
      · intro y hy
        obtain ⟨r, hyr⟩ := hra1.mem (by simpa using hy)
        have hyr' := hyr
        obtain ⟨b, bvs, bn, rfl, hbm, hbs⟩ := hyr
        have hlt : b < D1 := l7 _ (List.mem_append_left _ (.tail _ (List.mem_append_left _ hbm)))
        have e2 : @decide (RowAt ((D1, listOf (rvs.take (j + 1)).toArray 0) :: ((Fd, listOf fs1.toArray n1) :: (ex1 ++ (news ++ own)) ++ own2)) (.ref b) ((key (.ref ra)).take (j + 1))) (Classical.propDecidable _) = decide (r = (key (.ref ra)).take (j + 1)) := by
          by_cases hq : r = (key (.ref ra)).take (j + 1)
          · rw [decide_eq_true hq]
            exact @decide_eq_true _ (Classical.propDecidable _) (hq ▸ hyr'.mono hfsIn)
          · rw [decide_eq_false hq]
            exact @decide_eq_false _ (Classical.propDecidable _) fun q => hq (rowAt_inj N7 (hyr'.mono hfsIn) q)
        rw [e2]
        refine eqAt_lists (n := bn) (k := 0) ?_ ?_ hbs (strs_take hrs (j + 1)) (Nat.ne_of_lt hlt) ?_
        · exact (N7 _ (hfsIn _ hbm)).1
        · exact (N7 _ (.head _)).1
        · show un + 3 + 1 < cLine
          omega
      · rw [List.any_toArray, hany]
        by_cases hp : (key (.ref ra)).take (j + 1) ∈ rows1
        · rw [decide_eq_true hp, Bool.not_true]
          ktr_unf
          refine FEnd.intro (fs1, n1, ex1, rows1) F7 N7 (fun p hp => .tail _ (List.mem_append_left _ hp)) (fun p hp => .tail _ (List.mem_append_right _ hp)) (fun _ h => nomatch h) ?_ hLI2 ⟨?_, hra1, hex1, hexI1, ?_⟩
          · intro z h1 h2 h3
            simp [kstB, h1]
          · show rows1 = _
            rw [List.range_succ, List.foldl_append, ← hrows1]
            show rows1 = addBeg rows1 _
            rw [addBeg, if_pos hp]
          · show fs1.length ≤ _
            omega
        · rw [decide_eq_false hp, Bool.not_false]
          ktr_unf
          rw [show ((j : Nat) : Int) + 1 = ((j + 1 : Nat) : Int) by omega]
          with_unfolding_all refine slice_upto (s := ⟨h7, _, _, _, _⟩) F7 N7 (.tail _ hIn4) (by omega) ?_
          intro D2 h8 F8 N8 l8
          have hFdD1 : Fd < D1 := l7 (Fd, listOf fs1.toArray n1) (List.mem_append_left _ (.head _))
          have hFdD2 : Fd < D2 := l8 (Fd, listOf fs1.toArray n1) hFdIn
          have hoff : ∀ p ∈ (D2, listOf (rvs.take (j + 1)).toArray 0) :: ((ex1 ++ (news ++ own)) ++ own2), p.1 ≠ Fd := by
            intro p hp
            rcases List.mem_cons.mp hp with rfl | hp
            · exact Nat.ne_of_gt hFdD2
            · rcases List.mem_append.mp hp with q | q
              · rcases List.mem_append.mp q with q | q
                · exact hex1 p q
                · exact hnFd p q
              · rw [hown2 p q]; exact (hLI2 (Fd, listOf fs1.toArray n1) (.head _)).symm
          have N9 : News g' L' h8 ((Fd, listOf fs1.toArray n1) :: ((D2, listOf (rvs.take (j + 1)).toArray 0) :: ((ex1 ++ (news ++ own)) ++ own2))) := by
            intro p hp
            refine N8 p ?_
            rcases List.mem_cons.mp hp with rfl | hp
            · exact .tail _ hFdIn
            · rcases List.mem_cons.mp hp with rfl | hp
              · exact .head _
              · exact .tail _ (.tail _ (List.mem_append.mpr ((List.mem_append.mp hp).imp (fun q => .tail _ q) id)))
          clear N8
          ktr_unf
          with_unfolding_all refine append_any F8 N9 hoff (by omega) ?_
          intro h10 n10 F10 N10
          ktr_unf
          refine FEnd.intro (fs1 ++ [.ref D2], n10, (D2, listOf (rvs.take (j + 1)).toArray 0) :: ex1, rows1 ++ [(key (.ref ra)).take (j + 1)]) F10 N10 ?_ ?_ (fun _ h => nomatch h) ?_ ?_ ⟨?_, ?_, ?_, ?_, ?_⟩
          · intro p hp
            rcases List.mem_cons.mp hp with rfl | hp
            · exact .head _
            · rcases List.mem_cons.mp hp with rfl | hp
              · exact .tail _ (.head _)
              · exact .tail _ (.tail _ (List.mem_append_left _ hp))
          · intro p hp
            exact .tail _ (.tail _ (List.mem_append_right _ hp))
          · intro z h1 h2 h3
            simp [kstB, h1]
          · have hI2 : ∀ {D}, (∀ p ∈ ((D1, listOf (rvs.take (j + 1)).toArray 0) :: ((Fd, listOf fs1.toArray n1) :: (ex1 ++ (news ++ own)) ++ own2)), p.1 < D) → I2 < D := fun hq => hq (I2, oI2) (.tail _ (List.mem_append_right _ hoI2))
            intro p hp
            rcases List.mem_cons.mp hp with rfl | hp
            · exact hLI2 (Fd, listOf fs1.toArray n1) (.head _)
            · rcases List.mem_cons.mp hp with rfl | hp
              · exact Nat.ne_of_gt (hI2 l8)
              · exact hLI2 p (.tail _ hp)
          · show rows1 ++ _ = _
            rw [List.range_succ, List.foldl_append, ← hrows1]
            show _ = addBeg rows1 _
            rw [addBeg, if_neg hp]
          · exact (hra1.mono fun _ hq => .tail _ hq).snoc ⟨D2, _, 0, rfl, .head _, strs_take hrs (j + 1)⟩
          · intro p hp
            rcases List.mem_cons.mp hp with rfl | hp
            · exact Nat.ne_of_gt hFdD2
            · exact hex1 p hp
          · intro p hp
            rcases List.mem_cons.mp hp with rfl | hp
            · exact Nat.ne_of_gt (l8 (I, oI) (.tail _ (List.mem_append_left _ (.tail _ (List.mem_append_right _ (List.mem_append_right _ hoI))))))
            · exact hexI1 p hp
          · show (fs1 ++ [_]).length ≤ _
            simp
            omega
    · rintro ⟨fs1, n1, ex1, rows1⟩ u1 h1 tk1 ⟨hrows1, hra1, hex1, hexI1, hl1⟩ F4 N4
      dsimp only at hrows1 hra1 hex1 hexI1 hl1 F4 N4
      ktr_unf
      refine FEnd.intro (fs1, n1, ex1, rows1) F4 N4 ?_ ?_ (fun _ h => nomatch h) ?_ ?_ ⟨?_, hra1, hex1, ?_⟩
      · intro p hp
        rcases List.mem_cons.mp hp with rfl | hp
        · exact .head _
        · rcases List.mem_append.mp hp with q | q
          · exact .tail _ (List.mem_append_left _ q)
          · exact .tail _ (List.mem_append_right _ (List.mem_append_left _ q))
      · intro p hp
        exact .tail _ (List.mem_append_right _ (List.mem_append_right _ hp))
      · intro z h1 h2 h3
        simp only [List.contains_cons, List.contains_nil, Bool.or_false, beq_eq_false_iff_ne, ne_eq] at h3
        simp [kstB, h1, h3]
      · intro p hp
        rcases List.mem_cons.mp hp with rfl | hp
        · exact hLI (Fd, listOf fs0.toArray n0) (.head _)
        · rcases List.mem_append.mp hp with q | q
          · exact hexI1 p q
          · exact hLI p (.tail _ (List.mem_append_right _ q))
      · show rows1 = _
        rw [List.take_add_one, hv, hrows1, hrows0, hrl]
        simp [begAll, begRow]
      · show fs1.length ≤ _
        omega
  · rintro ⟨fs0, n0, ex0, rows0⟩ u h tk ⟨hrows0, hra0, hex0, hl0⟩ F2 N2
    dsimp only at hrows0 hra0 hex0 hl0 F2 N2
    ktr_unf
    rename Fr _ _ _ _ => F7
    rename News _ _ _ _ => N7
    refine hret _ _ _ _ F7 N7 ⟨fun p hp => .tail _ (List.mem_append_right _ hp), Fd, fs0, n0, rfl, .head _, ?_, by omega⟩
    rw [hra0.length, hrows0, List.take_length]
end Mine
end
section
set_option Elab.async false
set_option maxRecDepth 100000
namespace Mine
open PySem PySem.W PyProof.Rows
/-- the law's own statements and scope -/
def lawFd : List Stmt × Scope := match PySem.Challenge.pw_ny0102_01.main.body.getLast? with
  | some (.FunctionDef _ _ body _ _ _ scope _ _ _) => (body, scope)
  | _ => ([], { kind := .function, names := [], isGenerator := false, isCoroutine := false })
def lawEnv (L fa : Addr) (cdv : Value) : Env := envOf (Str.ofString "law") lawFd.2 L fa cdv
def rowS (x : Int) : List Str := (rowOf x).map part
end Mine
end
section
open PySem PySem.W PyProof.Rows
set_option Elab.async false
set_option maxRecDepth 100000
set_option maxHeartbeats 8000000
namespace Mine
local macro_rules | `(tactic| walk_at "FPost") => `(tactic| dsimp only [FPost])
local macro_rules | `(tactic| walk_at "pyIter ref") => `(tactic| refine atStop ?_)
local macro_rules | `(tactic| walk_at "call ref") => `(tactic| refine atStop ?_)
local macro_rules | `(tactic| walk_at "CompSrc") => `(tactic| refine atStop ?_)
local macro_rules | `(tactic| ktr_unf) => `(tactic| repeat' (first | (k_unfold; (try dsimp only)) | (walk1; (try dsimp only)) | (dsimp only; walk1)))
theorem law_1 (w : World) (base h₀ : Heap) (L fa : Addr) (cdv : Value) (s : Shared) (mean : ExcName → Option Value) (mg mb : Str → Option Value) (sc : Addr) (vs : List Value) (ns : List Int) (Q : Flow → Shared → Prop) (E : Value → Shared → Prop)
    (B : Below callerA base [] h₀) (X : (hd.heap_39 w.params).In h₀) (T : Top hd.view_39 (looseW hd.view_39 []) mean mg mb h₀) (F : Fr h₀ L s.heap (fun x => List.lookup x [(Str.ofString "script", .ref sc)])) (N : News h₀ L s.heap [])
    (hL : h₀.IsList sc vs.toArray) (hI : IntsAre vs ns) (hlen : ns.length ≤ 63)
    (rest : ∀ (h' : Heap) (tk : Nat) (Dr : Addr) (ys : List Value) (nr : Nat) (rl : List (Addr × Obj)), Fr h₀ L h' (fun z => if z = Str.ofString "rows" then some (.ref Dr) else List.lookup z [(Str.ofString "script", .ref sc)]) → News h₀ L h' ((Dr, listOf ys.toArray nr) :: rl) →
      RowsAre rl ys ((ns.take 7 ++ [4, 26, 25, 0, 5]).map rowS) → (∀ p ∈ rl, p.1 ≠ Dr) →
      wpAny (model PySem.Challenge.rw_ny0102_01.row.prog w) (callerA.deeper (lawEnv L fa cdv)) (execs (lawFd.1.drop 1) (lawEnv L fa cdv)) Q E { s with heap := h', toks := tk }) :
    wpAny (model PySem.Challenge.rw_ny0102_01.row.prog w) (callerA.deeper (lawEnv L fa cdv)) (execs lawFd.1 (lawEnv L fa cdv)) Q E s := by
  revert X
  k_fill
  intro X
  unfold lawEnv
  with_unfolding_all (conv in (execs _ _) => arg 1; whnf)
  with_unfolding_all (conv in (occs := *) lawFd.2 => all_goals whnf)
  have hcond : ¬ ((63 : Nat) : Int) < (ns.length : Int) := by omega
  ktr_unf
  unfold AtStop
  rename Fr _ _ _ _ => F1
  rename News _ _ _ _ => N1
  rename IntsAre _ (_ ++ _) => hI1
  have hlen1 := IntsAre.length hI1
  rename_i ws0 _ _ _ _ _ l0 _ _ D1 ws1 h1 l1
  have hn1 : (ns.take 7 ++ [4, 26, 25, 0, 5] : List Int).length < 13 := by simp; omega
  with_unfolding_all refine LCg.CompSrc.ledger (its := ws1.toArray) (k := 0) rfl F1 N1 (.head _) (by rw [PySem.sizeLine_eq, List.size_toArray]; omega) ?_
  intro gg
  generalize hbase : [(D1, listOf ws1.toArray 0), _, _] = bs at N1
  refine comp_inv (fun i ys news' => ∃ rl, news' = rl ++ bs ∧ RowsAre rl ys (((ns.take 7 ++ [4, 26, 25, 0, 5] : List Int).take i).map rowS)) _ ?_ ?_ _ 0 _ _ rfl (Nat.zero_le _) ⟨[], by rw [List.nil_append]; first | exact hbase | skip, .nil⟩
  · rintro i ys news' v I oI C oC D m₂ h2 tk2 E' hi ⟨rl, rfl, hys⟩ hP hC hx2 F2 N2 off ne
    dsimp only
    replace hi : i < (ns.take 7 ++ [4, 26, 25, 0, 5] : List Int).length := by rw [← hlen1]; exact hi
    obtain ⟨tv, htv⟩ := hI1.get i (ns.take 7 ++ [4, 26, 25, 0, 5] : List Int)[i] (by simp [hi])
    obtain rfl : v = .int (ns.take 7 ++ [4, 26, 25, 0, 5] : List Int)[i] tv := by
      have : ws1[i]? = some v := by simpa using hP
      rw [htv] at this
      exact (Option.some.inj this).symm
    refine Call_ ?_
    ktr_unf
    unfold AtStop
    with_unfolding_all refine Does.use (row_ w _ _ tv) B F2 X N2 T rfl (by decide) (by decide) ?_
    rintro r news6 h6 tk6 F6 N6 ⟨D6, vs6, n6, rfl, rfl, hvs6, hD6⟩
    refine LCg.CompEnd.intro F6 N6 ((D6, listOf vs6.toArray n6) :: (rl ++ bs)) ?_ ?_ ?_ ⟨(D6, listOf vs6.toArray n6) :: rl, rfl, ?_⟩
    · intro p hp
      rcases List.mem_cons.mp hp with rfl | hp
      · exact .tail _ (.head _)
      · rcases List.mem_cons.mp hp with rfl | hp
        · exact .tail _ (.tail _ (.head _))
        · rcases List.mem_cons.mp hp with rfl | hp
          · exact .tail _ (.tail _ (.tail _ (.head _)))
          · rcases List.mem_cons.mp hp with rfl | hp
            · exact .head _
            · exact .tail _ (.tail _ (.tail _ (.tail _ hp)))
    · exact ⟨⟨(hD6 (I, oI) (.head _)).symm, (hD6 (C, oC) (.tail _ (.head _))).symm, (hD6 (D, LCg.lst ys) (.tail _ (.tail _ (.head _)))).symm⟩, off⟩
    · refine .inr ⟨listOf ws1.toArray 0, .tail _ (List.mem_append_right _ ?_), rfl, 0, rfl⟩
      rw [← hbase]; exact .head _
    · rw [List.take_add_one, List.getElem?_eq_getElem hi]
      simp only [Option.toList, List.map_append, List.map_cons, List.map_nil]
      exact (hys.mono fun _ hp => .tail _ hp).snoc ⟨D6, vs6, n6, rfl, .head _, hvs6⟩
  · rintro ys news' ⟨rl, rfl, hys⟩
    intro D h2 tk2 F2 N2 off
    dsimp only
    replace hys : RowsAre rl ys (((ns.take 7 ++ [4, 26, 25, 0, 5] : List Int).take ws1.length).map rowS) := hys
    rw [hlen1, List.take_length] at hys
    have q := rest h2 tk2 D ys ys.length (rl ++ bs) F2 N2 (hys.mono fun _ hp => List.mem_append_left _ hp) (off1_mem off)
    unfold lawEnv at q
    with_unfolding_all exact q
end Mine
end
section
open PySem PySem.W PyProof.Rows
set_option Elab.async false
set_option maxRecDepth 100000
set_option maxHeartbeats 8000000
namespace Mine
local macro_rules | `(tactic| walk_at "exec For Name Subscript cons nil") => `(tactic| (k_here; (rename Fr _ _ _ _ => lF'); (with_unfolding_all refine' For_invVF lF' ?k1 ?k2 ?_; (case k1 => exact rfl); (case k2 => exact rfl); k_whole)))
local macro_rules | `(tactic| walk_at "FPost") => `(tactic| dsimp only [FPost])
local macro_rules | `(tactic| walk_at "pyIter ref") => `(tactic| refine atStop ?_)
local macro_rules | `(tactic| walk_at "call ref") => `(tactic| refine atStop ?_)
local macro_rules | `(tactic| walk_at "CompSrc") => `(tactic| refine atStop ?_)
local macro_rules | `(tactic| ktr_unf) => `(tactic| repeat' (first | (k_unfold; (try dsimp only)) | (walk1; (try dsimp only)) | (dsimp only; walk1)))
theorem law_2 (w : World) (base h₀ : Heap) (L fa : Addr) (cdv : Value) (s : Shared) (mean : ExcName → Option Value) (mg mb : Str → Option Value) (sc Dr : Addr) (ys : List Value) (nr : Nat) (rl : List (Addr × Obj)) (key : Value → List Str) (Q : Flow → Shared → Prop)
    (B : Below callerA base [] h₀) (X : (hd.heap_39 w.params).In h₀) (T : Top hd.view_39 (looseW hd.view_39 []) mean mg mb h₀) (F : Fr h₀ L s.heap (fun z => if z = Str.ofString "rows" then some (.ref Dr) else List.lookup z [(Str.ofString "script", .ref sc)])) (N : News h₀ L s.heap ((Dr, listOf ys.toArray nr) :: rl))
    (hkey : ∀ v ∈ ys, RowAt rl v (key v)) (hn : ys.length < 20) (hDr : ∀ p ∈ rl, p.1 ≠ Dr)
    (rest : ∀ (h' : Heap) (tk : Nat) (H T nh nt th : Nat) (u : Str → Option Value), Fr h₀ L h' (fun z => if z = Str.ofString "row" then u z else if z = Str.ofString "told" then some (.ref T) else if z = Str.ofString "heap" then some (.ref H) else if z = Str.ofString "half" then some (.int (ys.length / 2 : Nat) th) else if z = Str.ofString "rows" then some (.ref Dr) else List.lookup z [(Str.ofString "script", .ref sc)]) →
      News h₀ L h' ((H, listOf ((ys.drop (ys.length / 2)).foldl (pushL fun a b => lexLt (key a) (key b)) (heapifyL (fun a b => lexLt (key a) (key b)) (ys.take (ys.length / 2)))).toArray nh) :: (T, listOf (List.replicate (1 + (ys.length - ys.length / 2)) Value.none).toArray nt) :: (Dr, listOf ys.toArray nr) :: rl) →
      (∀ p ∈ (Dr, listOf ys.toArray nr) :: rl, p.1 < H) → H < T →
      wpAny (model PySem.Challenge.rw_ny0102_01.row.prog w) (callerA.deeper (lawEnv L fa cdv)) (execs (lawFd.1.drop 5) (lawEnv L fa cdv)) Q (fun _ _ => False) { s with heap := h', toks := tk }) :
    wpAny (model PySem.Challenge.rw_ny0102_01.row.prog w) (callerA.deeper (lawEnv L fa cdv)) (execs (lawFd.1.drop 1) (lawEnv L fa cdv)) Q (fun _ _ => False) s := by
  revert X
  k_fill
  intro X
  unfold lawEnv
  with_unfolding_all (conv in (execs _ _) => arg 1; whnf)
  with_unfolding_all (conv in (occs := *) lawFd.2 => all_goals whnf)
  ktr_unf
  with_unfolding_all refine len_any N (.head _) (by omega) ?_
  ktr_unf
  rename Fr _ _ _ _ => F1
  rename News _ _ _ _ => N1
  rename_i h1
  have hfd : (((ys.length : Nat) : Int)).fdiv 2 = ((ys.length / 2 : Nat) : Int) := by rw [Int.fdiv_eq_ediv_of_nonneg _ (by decide)]; omega
  rw [hfd] at F1 ⊢
  with_unfolding_all refine slice_upto (s := ⟨h1, _, _, _, _⟩) F1 N1 (.head _) (by omega) ?_
  intro H h2 F2 N2 lH
  ktr_unf
  unfold AtStop
  rename Fr _ _ _ _ => F3
  rename News _ _ _ _ => N3
  have hkt : ∀ v ∈ ys.take (ys.length / 2), RowAt ((Dr, listOf ys.toArray nr) :: rl) v (key v) := fun v hv => (hkey v (List.mem_of_mem_take hv)).cons
  with_unfolding_all refine Does.use (heapify_ w key H (ys.take (ys.length / 2)) 0 ((Dr, listOf ys.toArray nr) :: rl) (by simp; omega) hkt (fun p hp => Nat.ne_of_lt (lH p hp))) B F3 X N3 T rfl (by decide) (by decide) ?_
  rintro r news4 h4 tk4 F4 N4 ⟨rfl, n4, rfl⟩
  ktr_unf
  rename Fr _ _ _ _ => F5
  rename News _ _ _ _ => N5
  rename_i T5 _ l5 h5
  with_unfolding_all refine slice_from (s := ⟨h5, _, _, _, _⟩) F5 N5 (.tail _ (.tail _ (.head _))) (by omega) ?_
  intro Sl h6 F6 N6 l6
  ktr_unf
  unfold AtStop
  have hTH : H < T5 := l5.1
  have hTr : ∀ p ∈ (Dr, listOf ys.toArray nr) :: rl, p.1 ≠ T5 := fun p hp => Nat.ne_of_lt (Nat.lt_trans (lH p hp) hTH)
  have hlt : ∀ v ∈ ys.drop (ys.length / 2), v ∈ ys := fun v hv => List.mem_of_mem_drop hv
  with_unfolding_all refine for_list (l := Sl) (vs := ys.drop (ys.length / 2)) (k := 0) (fun c : List Value × Nat × List Value × Nat => (H, listOf c.1.toArray c.2.1) :: (T5, listOf c.2.2.1.toArray c.2.2.2) :: (Dr, listOf ys.toArray nr) :: rl) (fun _ => []) [] (fun i c => c.1 = ((ys.drop (ys.length / 2)).take i).foldl (pushL fun a b => lexLt (key a) (key b)) (heapifyL (fun a b => lexLt (key a) (key b)) (ys.take (ys.length / 2))) ∧ (∀ v ∈ c.1, v ∈ ys) ∧ c.1.length = ys.length / 2 + i ∧ c.2.2.1 = List.replicate (1 + i) Value.none) (heapifyL (fun a b => lexLt (key a) (key b)) (ys.take (ys.length / 2)), n4, [Value.none], 0) rfl F6 N6 (.head _) ?hsub (fun _ h => nomatch h) (by refine ⟨rfl, ?_, ?_, rfl⟩; exact fun v hv => List.mem_of_mem_take (heapify_mem _ _ hv); exact (heapify_length _).trans (by simp; omega)) ?_ ?_
  case hsub =>
    intro p hp
    rcases List.mem_cons.mp hp with rfl | hp
    · exact .tail _ (.tail _ (.head _))
    · rcases List.mem_cons.mp hp with rfl | hp
      · exact .tail _ (.head _)
      · exact .tail _ (.tail _ (.tail _ hp))
  · rintro I i ⟨hp0, nh0, tv0, nt0⟩ v u h tk own hv ⟨he0, hm0, hl0, ht0⟩ hIlt hLI hown ⟨oI, hoI⟩ F7 N7
    dsimp only at he0 hm0 hl0 ht0 hLI F7 N7
    have hi : i < ys.length - ys.length / 2 := by
      have : i < (ys.drop (ys.length / 2)).length := by
        rcases Nat.lt_or_ge i (ys.drop (ys.length / 2)).length with h | h
        · exact h
        · rw [List.getElem?_eq_none h] at hv; cases hv
      simpa using this
    have hvm : v ∈ ys := hlt v (List.mem_of_getElem? hv)
    have hSlne : ∀ p ∈ (T5, listOf #[Value.none] 0) :: (H, listOf (heapifyL (fun a b => lexLt (key a) (key b)) (ys.take (ys.length / 2))).toArray n4) :: (Dr, listOf ys.toArray nr) :: rl, p.1 ≠ Sl := fun p hp => Nat.ne_of_lt (l6 p hp)
    simp only [List.cons_append] at N7
    ktr_unf
    unfold AtStop
    have hoff : ∀ p ∈ (T5, listOf tv0.toArray nt0) :: (Dr, listOf ys.toArray nr) :: (rl ++ own), p.1 ≠ H := by
      intro p hp
      rcases List.mem_cons.mp hp with rfl | hp
      · exact Nat.ne_of_gt hTH
      · rw [← List.cons_append] at hp
        rcases List.mem_append.mp hp with q | q
        · exact Nat.ne_of_lt (lH p q)
        · rcases hown p q with e | e
          · rw [e]; exact (hLI (H, listOf hp0.toArray nh0) (.head _)).symm
          · rw [e]; exact (hSlne (H, _) (.tail _ (.head _))).symm
    have hsubr : ∀ p ∈ rl, p ∈ (T5, listOf tv0.toArray nt0) :: (Dr, listOf ys.toArray nr) :: (rl ++ own) := fun p hp => .tail _ (.tail _ (List.mem_append_left _ hp))
    rename Fr _ _ _ _ => F8
    rename News _ _ _ _ => N8
    with_unfolding_all refine Does.use (heappush_ w key H hp0 nh0 ((T5, listOf tv0.toArray nt0) :: (Dr, listOf ys.toArray nr) :: (rl ++ own)) v (by omega) (fun x hx => (hkey x (hm0 x hx)).mono hsubr) ((hkey v hvm).mono hsubr) hoff) B F8 X N8 T rfl (by decide) (by decide) ?_
    rintro r news9 h9 tk9 F9 N9 ⟨rfl, n9, rfl⟩
    have hoffT : ∀ p ∈ (H, listOf (pushL (fun a b => lexLt (key a) (key b)) hp0 v).toArray n9) :: (Dr, listOf ys.toArray nr) :: (rl ++ own), p.1 ≠ T5 := by
      intro p hp
      rcases List.mem_cons.mp hp with rfl | hp
      · exact Nat.ne_of_lt hTH
      · rw [← List.cons_append] at hp
        rcases List.mem_append.mp hp with q | q
        · exact hTr p q
        · rcases hown p q with e | e
          · rw [e]; exact (hLI (T5, listOf tv0.toArray nt0) (.tail _ (.head _))).symm
          · rw [e]; exact (hSlne (T5, _) (.head _)).symm
    have N10 : News h₀ L h9 ((T5, listOf tv0.toArray nt0) :: (H, listOf (pushL (fun a b => lexLt (key a) (key b)) hp0 v).toArray n9) :: (Dr, listOf ys.toArray nr) :: (rl ++ own)) := by
      intro p hp
      refine N9 p ?_
      rcases List.mem_cons.mp hp with rfl | hp
      · exact .tail _ (.head _)
      · rcases List.mem_cons.mp hp with rfl | hp
        · exact .head _
        · exact .tail _ (.tail _ hp)
    clear N9
    ktr_unf
    with_unfolding_all refine append_any F9 N10 hoffT (by rw [ht0]; simp; omega) ?_
    intro h11 n11 F11 N11
    ktr_unf
    refine FEnd.intro (pushL (fun a b => lexLt (key a) (key b)) hp0 v, n9, tv0 ++ [Value.none], n11) F11 N11 ?_ ?_ (fun _ h => nomatch h) ?_ ?_ ⟨?_, ?_, ?_, ?_⟩
    · intro p hp
      rcases List.mem_cons.mp hp with rfl | hp
      · exact .tail _ (.head _)
      · rcases List.mem_cons.mp hp with rfl | hp
        · exact .head _
        · rw [← List.cons_append]
          exact .tail _ (.tail _ (List.mem_append_left _ hp))
    · intro p hp
      exact .tail _ (.tail _ (.tail _ (List.mem_append_right _ hp)))
    · intro z h1 h2 h3
      simp [kstB, h1]
    · intro p hp
      rcases List.mem_cons.mp hp with rfl | hp
      · exact hLI (H, listOf hp0.toArray nh0) (.head _)
      · rcases List.mem_cons.mp hp with rfl | hp
        · exact hLI (T5, listOf tv0.toArray nt0) (.tail _ (.head _))
        · exact hLI p (.tail _ (.tail _ hp))
    · show pushL _ hp0 v = _
      rw [List.take_add_one, hv, List.foldl_append, ← he0]
      rfl
    · intro x hx
      rcases pushL_mem _ _ _ hx with q | q
      · exact hm0 x q
      · rw [q]; exact hvm
    · show (pushL _ hp0 v).length = _
      rw [pushL_length, hl0]
      omega
    · show tv0 ++ [Value.none] = _
      rw [ht0, ← List.replicate_succ']
      rfl
  · rintro ⟨hp0, nh0, tv0, nt0⟩ u h tk ⟨he0, hm0, hl0, ht0⟩ F7 N7
    dsimp only at he0 hm0 hl0 ht0 F7 N7
    have hdl : (ys.drop (ys.length / 2)).length = ys.length - ys.length / 2 := by simp
    rw [List.take_length] at he0
    rw [hdl] at ht0
    rw [he0, ht0] at N7
    have q := rest h tk H T5 nh0 nt0 _ u F7 N7 lH hTH
    unfold lawEnv at q
    with_unfolding_all exact q
end Mine
end
section
set_option Elab.async false
namespace Mine
open PySem PySem.W PyProof.Rows
def lcp : List Str → List Str → Nat
  | x :: xs, y :: ys => if x = y then lcp xs ys + 1 else 0
  | _, _ => 0
theorem lcp_comm : ∀ xs ys : List Str, lcp xs ys = lcp ys xs
  | [], [] => rfl
  | [], _ :: _ => rfl
  | _ :: _, [] => rfl
  | x :: xs, y :: ys => by
    by_cases h : x = y
    · subst h; simp [lcp, lcp_comm xs ys]
    · have h' : ¬ y = x := fun e => h e.symm
      simp [lcp, h, h']
theorem lcp_le : ∀ xs ys : List Str, lcp xs ys ≤ xs.length
  | [], [] => Nat.le_refl _
  | [], _ :: _ => Nat.le_refl _
  | _ :: _, [] => Nat.zero_le _
  | x :: xs, y :: ys => by
    have := lcp_le xs ys
    simp only [lcp, List.length_cons]
    split <;> omega
theorem lcp_le' (xs ys : List Str) : lcp xs ys ≤ ys.length := lcp_comm xs ys ▸ lcp_le ys xs
theorem lcp_back : ∀ xs ys : List Str, xs.take (lcp xs ys) ++ ys.drop (lcp xs ys) = ys
  | [], [] => rfl
  | [], _ :: _ => rfl
  | _ :: _, [] => rfl
  | x :: xs, y :: ys => by
    by_cases h : x = y
    · subst h; simp [lcp, lcp_back xs ys]
    · simp [lcp, h]
theorem take_pre : ∀ (xs ys : List Str) (j : Nat), j ≤ xs.length → (xs.take j <+: ys ↔ j ≤ lcp xs ys)
  | _, _, 0, _ => by simp
  | [], _, j + 1, h => absurd h (Nat.not_succ_le_zero _)
  | x :: xs, [], j + 1, _ => by simp [lcp]
  | x :: xs, y :: ys, j + 1, h => by
    have := take_pre xs ys j (Nat.le_of_succ_le_succ h)
    by_cases e : x = y
    · subst e
      simp [lcp, List.cons_prefix_cons, this]
    · simp [lcp, e, List.cons_prefix_cons]
/-- parts as they stand in the rows -/
def PartRow (xs : List Str) : Prop := xs.length < 10 ∧ ∀ x ∈ xs, x = part 0 ∨ x = part 1 ∨ x = part 2
theorem part_facts {x : Str} (h : x = part 0 ∨ x = part 1 ∨ x = part 2) : 46 ∉ x.cps.toList ∧ x.cps.toList ≠ [] ∧ x.length ≤ 2 ∧ x.cps.toList.head? ≠ some 60 := by
  rcases h with rfl | rfl | rfl <;> decide
def jt : List (List Nat) → List Nat
  | [] => []
  | x :: r => x ++ 46 :: jt r
def cp (x : Str) : List Nat := x.cps.toList
theorem txt_join : Txt.join dot = Str.join dot := funext fun l => StrLaws.glued_eq_join _ l
theorem dot_cp : dot.cps.toList = [46] := by decide
theorem jt_join : ∀ (x : Str) (xs : List Str), cp (Str.join dot (x :: xs)) ++ [46] = jt ((x :: xs).map cp)
  | x, [] => rfl
  | x, y :: r => by
    show cp (x ++ dot ++ Str.join dot (y :: r)) ++ [46] = cp x ++ 46 :: jt ((y :: r).map cp)
    rw [← jt_join y r]
    simp [cp, Str.cps_append, dot_cp]
theorem dot_split : ∀ {x y a b : List Nat}, 46 ∉ x → 46 ∉ y → x ++ 46 :: a <+: y ++ 46 :: b → x = y ∧ a <+: b
  | [], [], a, b, _, _, h => ⟨rfl, by simpa using h⟩
  | [], c :: y, a, b, _, hy, h => by
    simp [List.cons_prefix_cons] at h
    exact absurd (h.1 ▸ List.mem_cons_self) hy
  | c :: x, [], a, b, hx, _, h => by
    simp [List.cons_prefix_cons] at h
    exact absurd (h.1 ▸ List.mem_cons_self) hx
  | c :: x, d :: y, a, b, hx, hy, h => by
    simp only [List.cons_append, List.cons_prefix_cons] at h
    obtain ⟨rfl, h⟩ := h
    obtain ⟨rfl, h2⟩ := dot_split (fun q => hx (.tail _ q)) (fun q => hy (.tail _ q)) h
    exact ⟨rfl, h2⟩
theorem jt_pre : ∀ {X Y : List (List Nat)}, (∀ x ∈ X, 46 ∉ x) → (∀ y ∈ Y, 46 ∉ y) → jt X <+: jt Y → X <+: Y
  | [], _, _, _, _ => by simp
  | x :: X, [], _, _, h => by simp [jt] at h
  | x :: X, y :: Y, hx, hy, h => by
    obtain ⟨rfl, h2⟩ := dot_split (hx x (.head _)) (hy y (.head _)) h
    exact List.cons_prefix_cons.mpr ⟨rfl, jt_pre (fun a b => hx a (.tail _ b)) (fun a b => hy a (.tail _ b)) h2⟩
theorem jt_pre' : ∀ {X Y : List (List Nat)}, X <+: Y → jt X <+: jt Y
  | [], _, _ => by simp [jt]
  | x :: X, [], h => by simp at h
  | x :: X, y :: Y, h => by
    obtain ⟨rfl, h2⟩ := List.cons_prefix_cons.mp h
    simp [jt, List.prefix_append_right_inj, List.cons_prefix_cons, jt_pre' h2]
theorem cp_inj {x y : Str} (h : cp x = cp y) : x = y := Str.ext' (Array.toList_inj.mp h)
theorem map_cp_pre {X Y : List Str} (h : X.map cp <+: Y.map cp) : X <+: Y := by
  obtain ⟨t, ht⟩ := h
  rw [List.prefix_iff_eq_take]
  have hl : X.length ≤ Y.length := by have := congrArg List.length ht; simp at this; omega
  have : X.map cp = (Y.take X.length).map cp := by
    rw [List.map_take, ← ht, List.take_left' (by simp)]
  exact List.map_inj_right (fun _ _ e => cp_inj e) |>.mp this
theorem start_iff (M P : Str) : Txt.startswith M P = true ↔ cp P <+: cp M := by
  unfold Txt.startswith
  rw [StrLaws.subAt_eq]
  simp only [Bool.and_eq_true, decide_eq_true_eq, List.drop_zero, beq_iff_eq, List.prefix_iff_eq_take]
  constructor
  · rintro ⟨_, h⟩; exact h.symm
  · intro h
    refine ⟨?_, h.symm⟩
    have := congrArg List.length h
    simp [cp] at this
    simp only [Str.length]
    omega
theorem hit_iff {X Y : List Str} (hX : X ≠ []) (pX : ∀ x ∈ X, x = part 0 ∨ x = part 1 ∨ x = part 2) (pY : ∀ x ∈ Y, x = part 0 ∨ x = part 1 ∨ x = part 2) :
    hit (Txt.join dot X) (Txt.join dot Y) = true ↔ X <+: Y := by
  unfold hit
  rw [Bool.or_eq_true, decide_eq_true_eq, start_iff, txt_join]
  obtain ⟨x, xs, rfl⟩ := List.exists_cons_of_ne_nil hX
  have e1 : cp (Str.join dot (x :: xs) ++ Str.ofString ".") = jt ((x :: xs).map cp) := by
    rw [← jt_join]; simp [cp, Str.cps_append]; exact dot_cp
  have nX : ∀ z ∈ (x :: xs).map cp, 46 ∉ z := by
    intro z hz; obtain ⟨y, hy, rfl⟩ := List.mem_map.mp hz; exact (part_facts (pX y hy)).1
  have nY : ∀ z ∈ Y.map cp, 46 ∉ z := by
    intro z hz; obtain ⟨y, hy, rfl⟩ := List.mem_map.mp hz; exact (part_facts (pY y hy)).1
  rw [e1]
  cases Y with
  | nil =>
    constructor
    · rintro (h | h)
      · have : cp (Str.join dot []) ++ [46] = cp (Str.join dot (x :: xs)) ++ [46] := by rw [h]
        rw [jt_join] at this
        have h2 := congrArg List.length this
        have h3 := (part_facts (pX x (.head _))).2.1
        have h4 : 0 < (cp x).length := List.length_pos_iff.mpr h3
        simp [jt, Str.join, Str.empty] at h2
        simp [cp] at h2 h4
        omega
      · simp [Str.join, jt, cp, Str.empty] at h
    · intro h; simp at h
  | cons y ys =>
    have e2 := jt_join y ys
    constructor
    · rintro (h | h)
      · refine map_cp_pre (jt_pre nX nY ?_)
        rw [← jt_join, ← e2, h]
        exact List.prefix_refl _
      · refine map_cp_pre (jt_pre nX nY ?_)
        rw [← e2]
        exact h.trans (List.prefix_append _ _)
    · intro h
      have h2 : jt ((x :: xs).map cp) <+: jt ((y :: ys).map cp) := jt_pre' (by obtain ⟨t, ht⟩ := h; exact ⟨t.map cp, by rw [← List.map_append, ht]⟩)
      rw [← e2] at h2
      rcases Nat.lt_or_ge (cp (Str.join dot (y :: ys))).length (jt ((x :: xs).map cp)).length with q | q
      · left
        have h3 : jt ((x :: xs).map cp) = cp (Str.join dot (y :: ys)) ++ [46] := h2.eq_of_length (by have := h2.length_le; simp only [List.length_append, List.length_singleton] at this ⊢; omega)
        rw [← jt_join] at h3
        exact (cp_inj (List.append_cancel_right h3)).symm
      · right
        exact List.prefix_of_prefix_length_le h2 (List.prefix_append _ _) q
theorem sharedN_min {xs ys : List Str} (px : ∀ x ∈ xs, x = part 0 ∨ x = part 1 ∨ x = part 2) (py : ∀ x ∈ ys, x = part 0 ∨ x = part 1 ∨ x = part 2) : ∀ k, k ≤ xs.length → sharedN xs (Txt.join dot ys) k = min k (lcp xs ys)
  | 0, _ => by simp [sharedN]
  | k + 1, h => by
    have ih := sharedN_min px py k (by omega)
    have hne : xs.take (k + 1) ≠ [] := by
      intro e; have := congrArg List.length e; rw [List.length_take, List.length_nil] at this; omega
    have hi := hit_iff hne (fun x hx => px x (List.mem_of_mem_take hx)) py
    rw [take_pre xs ys (k + 1) h] at hi
    rw [sharedN]
    by_cases q : k + 1 ≤ lcp xs ys
    · rw [if_pos (hi.mpr q)]; omega
    · rw [if_neg (fun z => q (hi.mp z)), ih]; omega
theorem sharedN_lcp {xs ys : List Str} (px : PartRow xs) (py : PartRow ys) : sharedN xs (Txt.join dot ys) xs.length = lcp xs ys := by
  rw [sharedN_min px.2 py.2 _ (Nat.le_refl _)]
  have := lcp_le xs ys
  omega
theorem partRow_len {xs : List Str} (h : PartRow xs) : ∀ y ∈ xs, y.length ≤ 10 := fun y hy => by have := (part_facts (h.2 y hy)).2.2.1; omega
theorem partRow_take {xs : List Str} (h : PartRow xs) (k : Nat) : PartRow (xs.take k) := ⟨by have := h.1; simp; omega, fun x hx => h.2 x (List.mem_of_mem_take hx)⟩
theorem partRow_join {xs : List Str} (h : PartRow xs) : (Txt.join dot xs).length ≤ 1000 := by
  have h1 := size_glued dot xs
  have h2 := sum_le 10 xs (partRow_len h)
  have h3 := h.1
  show (Builtin.Str.glued dot xs).length ≤ 1000
  rw [h1]
  have h4 : dot.length = 1 := by decide
  rw [h4]
  omega
theorem partRow_ne {xs : List Str} (h : PartRow xs) : Txt.join dot xs ≠ Str.ofString "<string>" := by
  rw [txt_join]
  intro e
  have e2 : (cp (Str.join dot xs)).head? = (cp (Str.ofString "<string>")).head? := by rw [e]
  have e3 : (cp (Str.ofString "<string>")).head? = some 60 := by decide
  rw [e3] at e2
  cases xs with
  | nil => simp [Str.join, cp, Str.empty] at e2
  | cons x r =>
    have f := part_facts (h.2 x (.head _))
    refine f.2.2.2 ?_
    cases r with
    | nil => exact e2
    | cons y r =>
      have : cp (Str.join dot (x :: y :: r)) = x.cps.toList ++ (dot.cps.toList ++ (Str.join dot (y :: r)).cps.toList) := by
        show cp (x ++ dot ++ Str.join dot (y :: r)) = _
        simp [cp, Str.cps_append]
      rw [this, List.head?_append] at e2
      cases hx : x.cps.toList with
      | nil => exact absurd hx f.2.1
      | cons c t => rw [hx] at e2; exact e2
theorem rowS_part (x : Int) : PartRow (rowS x) := by
  refine ⟨?_, ?_⟩
  · have h1 := Int.fmod_lt_of_pos x (b := 4) (by decide)
    have h2 := Int.fmod_nonneg_of_pos x (b := 4) (by decide)
    simp only [rowS, rowOf, List.length_map, List.length_range]
    omega
  · intro y hy
    simp only [rowS, List.mem_map] at hy
    obtain ⟨d, hd, rfl⟩ := hy
    match d with
    | 0 => exact .inl rfl
    | 1 => exact .inr (.inl rfl)
    | _ + 2 => exact .inr (.inr rfl)
end Mine
end
section
set_option Elab.async false
namespace Mine
open PySem PySem.W PyProof.Rows
/-- what k heappops give, in turn -/
def popAll {α : Type} (lt : α → α → Bool) : Nat → List α → List α
  | 0, _ => []
  | k + 1, l => match l.getLast? with
    | none => []
    | some x => (popL lt l.dropLast x).1 :: popAll lt k (popL lt l.dropLast x).2
theorem popAll_snoc {α : Type} (lt : α → α → Bool) (k : Nat) (i : List α) (x : α) : popAll lt (k + 1) (i ++ [x]) = (popL lt i x).1 :: popAll lt k (popL lt i x).2 := by
  simp [popAll]
theorem popL_length {α : Type} (lt : α → α → Bool) (i : List α) (x : α) : (popL lt i x).2.length = i.length := by
  cases i with
  | nil => rfl
  | cons y t => simp [popL, siftup_length]
theorem popL_mem1 {α : Type} (lt : α → α → Bool) (i : List α) (x : α) : (popL lt i x).1 ∈ i ++ [x] := by
  cases i with
  | nil => simp [popL]
  | cons y t => simp [popL]
theorem popL_mem2 {α : Type} (lt : α → α → Bool) (i : List α) (x v : α) (h : v ∈ (popL lt i x).2) : v ∈ i ++ [x] := by
  cases i with
  | nil => simp [popL] at h
  | cons y t =>
    have := siftup_mem (lt := lt) (x :: t) 0 v h
    simp at this ⊢
    rcases this with h | h <;> simp [h]
/-- the parts written -/
def wsum : List Str → List (List Str) → Nat
  | _, [] => 0
  | p, r :: rs => (r.length - lcp p r) + wsum r rs
theorem wsum_snoc : ∀ (rs : List (List Str)) (p r : List Str), wsum p (rs ++ [r]) = wsum p rs + (r.length - lcp ((rs.getLast?).getD p) r)
  | [], p, r => by simp [wsum]
  | a :: rs, p, r => by
    have := wsum_snoc rs a r
    have e : ((a :: rs).getLast?).getD p = (rs.getLast?).getD a := by
      cases rs <;> simp [List.getLast?_cons]
    simp only [List.cons_append, wsum, this, e]
    omega
end Mine
end
section
open PySem PySem.W PyProof.Rows
set_option Elab.async false
set_option maxRecDepth 100000
set_option maxHeartbeats 8000000
namespace Mine
local macro_rules | `(tactic| walk_at "exec For Name Call cons nil") => `(tactic| (k_here; (rename Fr _ _ _ _ => lF'); (with_unfolding_all refine' For_invVF lF' ?k1 ?k2 ?_; (case k1 => exact rfl); (case k2 => exact rfl); k_whole)))
local macro_rules | `(tactic| walk_at "FPost") => `(tactic| dsimp only [FPost])
local macro_rules | `(tactic| walk_at "pyIter ref") => `(tactic| refine atStop ?_)
local macro_rules | `(tactic| walk_at "call ref") => `(tactic| refine atStop ?_)
local macro_rules | `(tactic| walk_at "CompSrc") => `(tactic| refine atStop ?_)
local macro_rules | `(tactic| walk_at "binaryOp Add ref ref") => `(tactic| refine atStop ?_)
local macro_rules | `(tactic| ktr_unf) => `(tactic| repeat' (first | (k_unfold; (try dsimp only)) | (walk1; (try dsimp only)) | (dsimp only; walk1)))
structure St3 where
  hp : List Value
  nh : Nat
  tv : List Value
  nt : Nat
  bs : List Value
  nb : Nat
  wt : Tok
  av : Value
  ex : List (Addr × Obj)
  out : List Value
structure Inv3 (key : Value → List Str) (ys hp0 : List Value) (bse : List (Addr × Obj)) (H T Bk n0 i : Nat) (c : St3) : Prop where
  len : c.hp.length = ys.length - i
  sub : ∀ v ∈ c.hp, v ∈ ys
  outlen : c.out.length = i
  outsub : ∀ v ∈ c.out, v ∈ ys
  pops : c.out ++ popAll (fun a b => lexLt (key a) (key b)) (ys.length - i) c.hp = popAll (fun a b => lexLt (key a) (key b)) ys.length hp0
  told : ∃ zs, c.tv = List.replicate n0 Value.none ++ zs ∧ zs.length = i ∧ ∀ z ∈ zs, ∃ t, z = .int 0 t
  back : RowsAre c.ex c.bs (c.out.map key)
  ahead : RowAt c.ex c.av (((c.out.map key).getLast?).getD [])
  base : ∀ p ∈ bse, p ∈ c.ex
  off : ∀ p ∈ c.ex, p.1 ≠ H ∧ p.1 ≠ T ∧ p.1 ≠ Bk
theorem law_3 (w : World) (base h₀ : Heap) (L fa : Addr) (cdv : Value) (s : Shared) (mean : ExcName → Option Value) (mg mb : Str → Option Value) (sc Dr : Addr) (ys hp0 : List Value) (nr nh nt th n0 : Nat) (H TT : Addr) (rl : List (Addr × Obj)) (key : Value → List Str) (u₀ : Str → Option Value) (Q : Flow → Shared → Prop)
    (B : Below callerA base [] h₀) (X : (hd.heap_39 w.params).In h₀) (T : Top hd.view_39 (looseW hd.view_39 []) mean mg mb h₀)
    (F : Fr h₀ L s.heap (fun z => if z = Str.ofString "row" then u₀ z else if z = Str.ofString "told" then some (.ref TT) else if z = Str.ofString "heap" then some (.ref H) else if z = Str.ofString "half" then some (.int (ys.length / 2 : Nat) th) else if z = Str.ofString "rows" then some (.ref Dr) else List.lookup z [(Str.ofString "script", .ref sc)]))
    (N : News h₀ L s.heap ((H, listOf hp0.toArray nh) :: (TT, listOf (List.replicate n0 Value.none).toArray nt) :: (Dr, listOf ys.toArray nr) :: rl))
    (lH : ∀ p ∈ (Dr, listOf ys.toArray nr) :: rl, p.1 < H) (hHT : H < TT)
    (hkey : ∀ v ∈ ys, RowAt rl v (key v)) (hrow : ∀ v ∈ ys, PartRow (key v)) (hn : ys.length < 20) (hn0 : n0 < 100) (hpl : hp0.length = ys.length) (hps : ∀ v ∈ hp0, v ∈ ys)
    (rest : ∀ (h' : Heap) (tk : Nat) (Bk : Addr) (c : St3) (u : Str → Option Value), Fr h₀ L h' (fun z => if z = Str.ofString "written" then some (.int (wsum [] (c.out.map key) : Nat) c.wt) else if z = Str.ofString "back" then some (.ref Bk) else if z = Str.ofString "told" then some (.ref TT) else if z = Str.ofString "heap" then some (.ref H) else if z = Str.ofString "half" then some (.int (ys.length / 2 : Nat) th) else if z = Str.ofString "rows" then some (.ref Dr) else u z) →
      News h₀ L h' ((H, listOf c.hp.toArray c.nh) :: (TT, listOf c.tv.toArray c.nt) :: (Bk, listOf c.bs.toArray c.nb) :: c.ex) →
      Inv3 key ys hp0 ((Dr, listOf ys.toArray nr) :: rl) H TT Bk n0 ys.length c → TT < Bk →
      wpAny (model PySem.Challenge.rw_ny0102_01.row.prog w) (callerA.deeper (lawEnv L fa cdv)) (execs (lawFd.1.drop 9) (lawEnv L fa cdv)) Q (fun _ _ => False) { s with heap := h', toks := tk }) :
    wpAny (model PySem.Challenge.rw_ny0102_01.row.prog w) (callerA.deeper (lawEnv L fa cdv)) (execs (lawFd.1.drop 5) (lawEnv L fa cdv)) Q (fun _ _ => False) s := by
  revert X
  k_fill
  intro X
  unfold lawEnv
  with_unfolding_all (conv in (execs _ _) => arg 1; whnf)
  with_unfolding_all (conv in (occs := *) lawFd.2 => all_goals whnf)
  ktr_unf
  rename News _ _ _ _ => N1
  with_unfolding_all refine len_any N1 (.tail _ (.tail _ (.tail _ (.tail _ (.head _))))) (by omega) ?_
  ktr_unf
  unfold AtStop

  rename IsRange _ _ _ _ _ _ _ _ => hR
  rename Fr _ _ _ _ => F1
  rename News _ _ _ _ => N1
  rename_i Bk _ l1 _ tkw _ _ Ah _ l2 _ _ _ _ _ _ _ _ _
  have hTB : TT < Bk := l1.2.1
  have lB : ∀ p ∈ (Dr, listOf ys.toArray nr) :: rl, p.1 < Bk := fun p hp => Nat.lt_trans (lH p hp) (Nat.lt_trans hHT hTB)
  have hBA : Bk < Ah := l2.1
  with_unfolding_all refine for_range ys.length (fun c : St3 => (H, listOf c.hp.toArray c.nh) :: (TT, listOf c.tv.toArray c.nt) :: (Bk, listOf c.bs.toArray c.nb) :: c.ex) (fun c => [(Str.ofString "written", .int (wsum [] (c.out.map key) : Nat) c.wt), (Str.ofString "ahead", c.av)]) [Str.ofString "row", Str.ofString "k"] (fun i c => Inv3 key ys hp0 ((Dr, listOf ys.toArray nr) :: rl) H TT Bk n0 i c) (St3.mk hp0 nh (List.replicate n0 Value.none) nt [] 0 tkw (.ref Ah) ((Ah, listOf #[] 0) :: (Dr, listOf ys.toArray nr) :: rl) []) rfl F1 N1 hR (small_up' _ (by omega)) (rangeSize_up _) ?hsub ?hps ?hinv ?_ ?_
  case hsub =>
    intro p hp
    rcases List.mem_cons.mp hp with rfl | hp
    · exact .tail _ (.tail _ (.head _))
    · rcases List.mem_cons.mp hp with rfl | hp
      · exact .tail _ (.tail _ (.tail _ (.head _)))
      · rcases List.mem_cons.mp hp with rfl | hp
        · exact .tail _ (.head _)
        · rcases List.mem_cons.mp hp with rfl | hp
          · exact .head _
          · exact .tail _ (.tail _ (.tail _ (.tail _ hp)))
  case hps =>
    intro p hp
    rcases List.mem_cons.mp hp with rfl | hp
    · with_unfolding_all rfl
    · cases List.mem_singleton.mp hp
      with_unfolding_all rfl
  case hinv =>
    refine ⟨by simpa using hpl, hps, rfl, (fun _ h => nomatch h), rfl, ⟨[], by simp⟩, .nil, ⟨Ah, [], 0, rfl, .head _, .nil⟩, fun _ h => .tail _ h, ?_⟩
    intro p hp
    rcases List.mem_cons.mp hp with rfl | hp
    · exact ⟨Nat.ne_of_gt (Nat.lt_trans (Nat.lt_trans hHT hTB) hBA), Nat.ne_of_gt (Nat.lt_trans hTB hBA), Nat.ne_of_gt hBA⟩
    · have := lH p hp
      exact ⟨Nat.ne_of_lt this, Nat.ne_of_lt (Nat.lt_trans this hHT), Nat.ne_of_lt (Nat.lt_trans (Nat.lt_trans this hHT) hTB)⟩
  · rintro I i ⟨hp, nh1, tv, nt1, bs, nb1, wt, av, ex, out⟩ t u h tk own hi hInv hIlt hLI hown ⟨oI, hoI⟩ F7 N7
    obtain ⟨hlen, hsub, holen, hosub, hpops, ⟨zs, htv, hzl, hzs⟩, hback, hahead, hbase, hoff⟩ := hInv
    dsimp only at hlen hsub holen hosub hpops htv hback hahead hbase hoff hLI F7 N7
    obtain ⟨init, x, rfl⟩ : ∃ init x, hp = init ++ [x] := by
      rcases List.eq_nil_or_concat hp with h | ⟨a, b, h⟩
      · rw [h] at hlen; simp at hlen; omega
      · exact ⟨a, b, by simpa using h⟩
    have hpv : (popL (fun a b => lexLt (key a) (key b)) init x).1 ∈ ys := hsub _ (popL_mem1 _ _ _)
    obtain ⟨rA, rvs, rn, hv, hrm, hrx⟩ := hkey _ hpv
    obtain ⟨aA, avs, an, rfl, ham, hax⟩ := hahead
    have hpr : PartRow (((out.map key).getLast?).getD []) := by
      rcases hq : (out.map key).getLast? with _ | r
      · exact ⟨by simp, fun _ h => nomatch h⟩
      · have := List.mem_of_getLast? hq
        obtain ⟨v, hv, rfl⟩ := List.mem_map.mp this
        exact hrow v (hosub v hv)
    have hkr : PartRow (key (popL (fun a b => lexLt (key a) (key b)) init x).1) := hrow _ hpv
    generalize hprev : ((out.map key).getLast?).getD [] = prev at hax hpr
    generalize hkrr : key (popL (fun a b => lexLt (key a) (key b)) init x).1 = kr at hrx hkr
    have eN : ((H, listOf (init ++ [x]).toArray nh1) :: (TT, listOf tv.toArray nt1) :: (Bk, listOf bs.toArray nb1) :: ex) ++ own = (H, listOf (init ++ [x]).toArray nh1) :: (TT, listOf tv.toArray nt1) :: (Bk, listOf bs.toArray nb1) :: (ex ++ own) := rfl
    rw [eN] at N7
    have hIH : H < I := hIlt _ (.tail _ (.tail _ (.head _)))
    have hIT : TT < I := hIlt _ (.tail _ (.tail _ (.tail _ (.head _))))
    have hIB : Bk < I := hIlt _ (.tail _ (.head _))
    have hoffo : ∀ p ∈ ex ++ own, p.1 ≠ H ∧ p.1 ≠ TT ∧ p.1 ≠ Bk := by
      intro p hp
      rcases List.mem_append.mp hp with q | q
      · exact hoff p q
      · rw [hown p q]
        exact ⟨Nat.ne_of_gt hIH, Nat.ne_of_gt hIT, Nat.ne_of_gt hIB⟩
    have hrm' : (rA, listOf rvs.toArray rn) ∈ ex ++ own := List.mem_append_left _ (hbase _ (.tail _ hrm))
    have ham' : (aA, listOf avs.toArray an) ∈ ex ++ own := List.mem_append_left _ ham
    ktr_unf
    unfold AtStop
    rename Fr _ _ _ _ => F8
    with_unfolding_all refine Does.use (heappop_ w key H init x nh1 ((TT, listOf tv.toArray nt1) :: (Bk, listOf bs.toArray nb1) :: (ex ++ own)) (by simp at hlen; omega) ?hr1 ?hr2) B F8 X N7 T rfl (by decide) (by decide) ?_
    case hr1 => exact fun v hv => (hkey v (hsub v hv)).mono fun p hp => .tail _ (.tail _ (List.mem_append_left _ (hbase _ (.tail _ hp))))
    case hr2 =>
      intro p hp
      rcases List.mem_cons.mp hp with rfl | hp
      · exact Nat.ne_of_gt hHT
      · rcases List.mem_cons.mp hp with rfl | hp
        · exact Nat.ne_of_gt (Nat.lt_trans hHT hTB)
        · exact (hoffo p hp).1
    rintro r news9 h9 tk9 F9 N9 ⟨hr9, n9, rfl⟩
    rw [hv] at hr9
    subst hr9
    ktr_unf
    unfold AtStop

    rename Fr _ _ _ _ => F10
    rename News _ _ _ _ => N10
    have hm1 : ∀ {p : Addr × Obj} {lh : List Value} {nn : Nat}, p ∈ ex ++ own → p ∈ (H, listOf lh.toArray nn) :: (TT, listOf tv.toArray nt1) :: (Bk, listOf bs.toArray nb1) :: (ex ++ own) := fun h => .tail _ (.tail _ (.tail _ h))
    have hl1 := strs_len hax
    have hl2 := strs_len hrx
    with_unfolding_all refine Does.use (shared_ w _ aA rA avs rvs an rn prev kr (hm1 ham') (hm1 hrm') hax hrx hpr.1 hkr.1 (partRow_len hpr) (partRow_len hkr) (fun k => partRow_join (partRow_take hpr k)) (partRow_ne hkr)) B F10 X N10 T rfl (by decide) (by decide) ?_
    rintro r news11 h11 tk11 F11 N11 ⟨⟨t11, hr11⟩, hs11⟩
    rw [sharedN_lcp hpr hkr] at hr11
    subst hr11
    replace N11 := (fun p hp => N11 p (hs11 p hp) : News h₀ L h11 _)
    clear hs11
    ktr_unf
    unfold AtStop
    rename Fr _ _ _ _ => F12
    rename News _ _ _ _ => N12
    with_unfolding_all refine Does.use (shared_ w _ rA aA rvs avs rn an kr prev (hm1 hrm') (hm1 ham') hrx hax hkr.1 hpr.1 (partRow_len hkr) (partRow_len hpr) (fun k => partRow_join (partRow_take hkr k)) (partRow_ne hpr)) B F12 X N12 T rfl (by decide) (by decide) ?_
    rintro r news13 h13 tk13 F13 N13 ⟨⟨t13, hr13⟩, hs13⟩
    rw [sharedN_lcp hkr hpr, lcp_comm kr prev] at hr13
    subst hr13
    replace N13 := (fun p hp => N13 p (hs13 p hp) : News h₀ L h13 _)
    clear hs13
    have N14 : News h₀ L h13 ((TT, listOf tv.toArray nt1) :: (H, listOf (popL (fun a b => lexLt (key a) (key b)) init x).2.toArray n9) :: (Bk, listOf bs.toArray nb1) :: (ex ++ own)) := by
      intro p hp
      refine N13 p ?_
      rcases List.mem_cons.mp hp with rfl | hp
      · exact .tail _ (.head _)
      · rcases List.mem_cons.mp hp with rfl | hp
        · exact .head _
        · exact .tail _ (.tail _ hp)
    clear N13
    have hoffT : ∀ p ∈ (H, listOf (popL (fun a b => lexLt (key a) (key b)) init x).2.toArray n9) :: (Bk, listOf bs.toArray nb1) :: (ex ++ own), p.1 ≠ TT := by
      intro p hp
      rcases List.mem_cons.mp hp with rfl | hp
      · exact Nat.ne_of_lt hHT
      · rcases List.mem_cons.mp hp with rfl | hp
        · exact Nat.ne_of_gt hTB
        · exact (hoffo p hp).2.1
    ktr_unf
    rename Fr _ _ _ _ => F15
    rename News _ _ _ _ => N15
    with_unfolding_all refine append_any F15 N15 hoffT (by rw [htv]; simp; omega) ?_
    intro h16 n16 F16 N16
    ktr_unf
    rename Fr _ _ _ _ => F17
    rename News _ _ _ _ => N17
    with_unfolding_all refine len_any N17 (.tail _ (.tail _ (.tail _ hrm'))) (by have := hkr.1; omega) ?_
    ktr_unf

    rename Fr _ _ _ _ => F18
    rename News _ _ _ _ => N18
    rename_i tk18 h18
    have hlcp := lcp_le' prev kr
    have ew : ((wsum [] (out.map key) : Nat) : Int) + (((rvs.length : Nat) : Int) - ((lcp prev kr : Nat) : Int)) = ((wsum [] ((out ++ [Value.ref rA]).map key) : Nat) : Int) := by
      rw [List.map_append, List.map_singleton, wsum_snoc, hprev]
      rw [hv] at hkrr
      rw [hkrr]
      omega
    rw [ew] at F18
    have e0 : ((lcp prev kr : Nat) : Int) - ((lcp prev kr : Nat) : Int) = 0 := Int.sub_self _
    rw [e0] at N18
    with_unfolding_all refine slice_upto (s := ⟨h18, _, _, _, _⟩) F18 N18 (.tail _ (.tail _ (.tail _ ham'))) (by have := hpr.1; omega) ?_
    intro S1 h19 F19 N19 lS1
    ktr_unf
    rename Fr _ _ _ _ => F20
    rename News _ _ _ _ => N20
    with_unfolding_all refine slice_from (s := ⟨h19, _, _, _, _⟩) F20 N20 (.tail _ (.tail _ (.tail _ (.tail _ hrm')))) (by have := hkr.1; omega) ?_
    intro S2 h21 F21 N21 lS2
    ktr_unf
    unfold AtStop
    rename Fr _ _ _ _ => F22
    rename News _ _ _ _ => N22
    with_unfolding_all refine add_arrays F22 N22 (PySem.IsL.isList (n := 0) (N22 _ (.tail _ (.head _))).1) (PySem.IsL.isList (n := 0) (N22 _ (.head _)).1) ?_ (by have := hkr.1; have := hpr.1; rw [PySem.sizeLine_eq]; simp; omega)
    have lD : ∀ p ∈ (S2, listOf (rvs.drop (lcp prev kr)).toArray 0) :: (S1, listOf (avs.take (lcp prev kr)).toArray 0) :: (TT, listOf (tv ++ [Value.int 0 tk13]).toArray n16) :: (H, listOf (popL (fun a b => lexLt (key a) (key b)) init x).2.toArray n9) :: (Bk, listOf bs.toArray nb1) :: (ex ++ own), p.1 < h21.objs.size := fun p hp => Heap.lt_size (N22 p hp).1
    intro h23 F23 N23
    replace N23 : News h₀ L h23 ((h21.objs.size, listOf (avs.take (lcp prev kr) ++ rvs.drop (lcp prev kr)).toArray 0) :: (S2, listOf (rvs.drop (lcp prev kr)).toArray 0) :: (S1, listOf (avs.take (lcp prev kr)).toArray 0) :: (TT, listOf (tv ++ [Value.int 0 tk13]).toArray n16) :: (H, listOf (popL (fun a b => lexLt (key a) (key b)) init x).2.toArray n9) :: (Bk, listOf bs.toArray nb1) :: (ex ++ own)) := N23
    have lT := lD _ (.tail _ (.tail _ (.head _)))
    have lH' := lD _ (.tail _ (.tail _ (.tail _ (.head _))))
    have lB' := lD _ (.tail _ (.tail _ (.tail _ (.tail _ (.head _)))))
    have lex : ∀ p ∈ ex ++ own, p.1 < h21.objs.size := fun p hp => lD p (.tail _ (.tail _ (.tail _ (.tail _ (.tail _ hp)))))
    have lI : I < h21.objs.size := lex _ (List.mem_append_right _ hoI)
    have hDI : I ≠ h21.objs.size := Nat.ne_of_lt lI
    with_unfolding_all (
      have N24 : News h₀ L h23 ((Bk, listOf bs.toArray nb1) :: (h21.objs.size, listOf (avs.take (lcp prev kr) ++ rvs.drop (lcp prev kr)).toArray 0) :: (TT, listOf (tv ++ [Value.int 0 tk13]).toArray n16) :: (H, listOf (popL (fun a b => lexLt (key a) (key b)) init x).2.toArray n9) :: (ex ++ own)) := by
        intro p hp
        refine N23 p ?_
        rcases List.mem_cons.mp hp with rfl | hp
        · exact .tail _ (.tail _ (.tail _ (.tail _ (.tail _ (.head _)))))
        · rcases List.mem_cons.mp hp with rfl | hp
          · exact .head _
          · rcases List.mem_cons.mp hp with rfl | hp
            · exact .tail _ (.tail _ (.tail _ (.head _)))
            · rcases List.mem_cons.mp hp with rfl | hp
              · exact .tail _ (.tail _ (.tail _ (.tail _ (.head _))))
              · exact .tail _ (.tail _ (.tail _ (.tail _ (.tail _ (.tail _ hp))))))
    clear N23 lD
    clear N22
    generalize h21.objs.size = D at *
    ktr_unf
    rename Fr _ _ _ _ => F25
    rename News _ _ _ _ => N25
    have hbl : bs.length < 1000 := by have := hback.length; simp at this; omega
    have hoffB : ∀ p ∈ (D, listOf (avs.take (lcp prev kr) ++ rvs.drop (lcp prev kr)).toArray 0) :: (TT, listOf (tv ++ [Value.int 0 tk13]).toArray n16) :: (H, listOf (popL (fun a b => lexLt (key a) (key b)) init x).2.toArray n9) :: (ex ++ own), p.1 ≠ Bk := by
      intro p hp
      rcases List.mem_cons.mp hp with rfl | hp
      · exact Nat.ne_of_gt lB'
      · rcases List.mem_cons.mp hp with rfl | hp
        · exact Nat.ne_of_lt hTB
        · rcases List.mem_cons.mp hp with rfl | hp
          · exact Nat.ne_of_lt (Nat.lt_trans hHT hTB)
          · exact (hoffo p hp).2.2
    with_unfolding_all refine append_any F25 N25 hoffB hbl ?_
    intro h26 n26 F26 N26
    ktr_unf
    refine FEnd.intro (St3.mk (popL (fun a b => lexLt (key a) (key b)) init x).2 n9 (tv ++ [Value.int 0 tk13]) n16 (bs ++ [.ref D]) n26 (tk18 + 1 + 1 + 1) (.ref D) ((D, listOf (avs.take (lcp prev kr) ++ rvs.drop (lcp prev kr)).toArray 0) :: ex) (out ++ [.ref rA])) F26 N26 ?_ ?_ ?_ ?_ ?_ ?_
    · intro p hp
      rcases List.mem_cons.mp hp with rfl | hp
      · exact .tail _ (.tail _ (.tail _ (.head _)))
      · rcases List.mem_cons.mp hp with rfl | hp
        · exact .tail _ (.tail _ (.head _))
        · rcases List.mem_cons.mp hp with rfl | hp
          · exact .head _
          · rcases List.mem_cons.mp hp with rfl | hp
            · exact .tail _ (.head _)
            · exact .tail _ (.tail _ (.tail _ (.tail _ (List.mem_append_left _ hp))))
    · exact fun p hp => .tail _ (.tail _ (.tail _ (.tail _ (List.mem_append_right _ hp))))
    · intro p hp
      rcases List.mem_cons.mp hp with rfl | hp
      · with_unfolding_all rfl
      · cases List.mem_singleton.mp hp
        with_unfolding_all rfl
    · intro z h1 h2 h3
      have h4 : z ≠ Str.ofString "written" := h2 _ (.head _)
      have h5 : z ≠ Str.ofString "ahead" := h2 _ (.tail _ (.head _))
      have h6 : z ≠ Str.ofString "row" := fun e => by rw [e] at h3; exact absurd h3 (by decide)
      have h7 : z ≠ Str.ofString "k" := fun e => by rw [e] at h3; exact absurd h3 (by decide)
      simp [kstB, h1, h4, h5, h6, h7]
    · intro p hp
      rcases List.mem_cons.mp hp with rfl | hp
      · exact Nat.ne_of_lt hIH
      · rcases List.mem_cons.mp hp with rfl | hp
        · exact Nat.ne_of_lt hIT
        · rcases List.mem_cons.mp hp with rfl | hp
          · exact Nat.ne_of_lt hIB
          · rcases List.mem_cons.mp hp with rfl | hp
            · exact hDI.symm
            · exact hLI p (.tail _ (.tail _ (.tail _ hp)))
    · have hlen' : init.length = ys.length - (i + 1) := by simp at hlen; omega
      have hkD : RowAt ((D, listOf (avs.take (lcp prev kr) ++ rvs.drop (lcp prev kr)).toArray 0) :: ex) (.ref D) kr := by
        refine ⟨D, _, 0, rfl, .head _, ?_⟩
        have := strs_append (strs_take hax (lcp prev kr)) (strs_drop hrx (lcp prev kr))
        rw [lcp_back] at this
        exact this
      have hkrr' : key (.ref rA) = kr := by rw [← hv]; exact hkrr
      refine ⟨?_, ?_, ?_, ?_, ?_, ⟨zs ++ [.int 0 tk13], ?_, ?_, ?_⟩, ?_, ?_, ?_, ?_⟩
      · show (popL _ init x).2.length = _
        rw [popL_length, hlen']
      · exact fun v hv => hsub v (popL_mem2 _ _ _ _ hv)
      · simp [holen]
      · intro v hv'
        rcases List.mem_append.mp hv' with q | q
        · exact hosub v q
        · rw [List.mem_singleton.mp q, ← hv]; exact hpv
      · show out ++ [Value.ref rA] ++ popAll _ (ys.length - (i + 1)) (popL _ init x).2 = _
        rw [← hpops, show ys.length - i = ys.length - (i + 1) + 1 by omega, popAll_snoc, hv]
        simp
      · show tv ++ _ = _
        rw [htv]; simp
      · simp [hzl]
      · intro z hz
        rcases List.mem_append.mp hz with q | q
        · exact hzs z q
        · exact ⟨tk13, List.mem_singleton.mp q⟩
      · show RowsAre _ (bs ++ [.ref D]) ((out ++ [Value.ref rA]).map key)
        rw [List.map_append, List.map_singleton, hkrr']
        exact (hback.mono fun _ hp => .tail _ hp).snoc hkD
      · show RowAt _ (.ref D) ((((out ++ [Value.ref rA]).map key).getLast?).getD [])
        rw [List.map_append, List.map_singleton, List.getLast?_concat, hkrr']
        exact hkD
      · exact fun p hp => .tail _ (hbase p hp)
      · intro p hp
        rcases List.mem_cons.mp hp with rfl | hp
        · exact ⟨Nat.ne_of_gt lH', Nat.ne_of_gt lT, Nat.ne_of_gt lB'⟩
        · exact hoff p hp
  · rintro c u h tk hInv F7 N7
    generalize hm : kstB _ _ = m7 at F7
    have e7 : m7 = (fun z => if z = Str.ofString "written" then some (.int (wsum [] (c.out.map key) : Nat) c.wt) else if z = Str.ofString "back" then some (.ref Bk) else if z = Str.ofString "told" then some (.ref TT) else if z = Str.ofString "heap" then some (.ref H) else if z = Str.ofString "half" then some (.int (ys.length / 2 : Nat) th) else if z = Str.ofString "rows" then some (.ref Dr) else m7 z) := by
      funext z
      repeat' split
      all_goals first | rfl | (rename z = _ => hz; rw [hz, ← hm]; with_unfolding_all rfl)
    rw [e7] at F7
    have q := rest h tk Bk c m7 F7 N7 hInv hTB
    unfold lawEnv at q
    with_unfolding_all exact q
end Mine
end
section
set_option Elab.async false
namespace Mine
open PySem PySem.W PyProof.Rows
section
variable {α β : Type}
/-- the tree's end has P, with the answers lt, and all questions are within n -/
def Ok (n : Nat) (lt : Nat → Nat → Bool) (P : α → Prop) : KasT α → Prop
  | .ret a => P a
  | .ask i j k => i < n ∧ j < n ∧ Ok n lt P (k (lt i j))
theorem Ok.bind {n : Nat} {lt : Nat → Nat → Bool} {P : β → Prop} {f : α → KasT β} : ∀ {t : KasT α}, Ok n lt (fun a => Ok n lt P (f a)) t → Ok n lt P (t.bind f)
  | .ret _, h => h
  | .ask _ _ k, h => ⟨h.1, h.2.1, Ok.bind (t := k _) h.2.2⟩
theorem Ok.wp {n : Nat} {lt : Nat → Nat → Bool} {P : α → Prop} {cmp : Nat → Nat → (Bool → Shared → Prop) → Shared → Prop} {Q : α → Shared → Prop} {s : Shared}
    (hc : ∀ i j C, i < n → j < n → C (lt i j) s → cmp i j C s) (hQ : ∀ a, P a → Q a s) : ∀ {t : KasT α}, Ok n lt P t → t.kasWp cmp Q s
  | .ret a, h => hQ a h
  | .ask _ _ k, h => hc _ _ _ h.1 h.2.1 (Ok.wp hc hQ (t := k _) h.2.2)
end
section
variable {O : KeyOrd} {key : Nat → O.α} {n : Nat}
def sK (key : Nat → O.α) (p : Array Nat) (i : Nat) : O.α := key (p.getD i 0)
def SrtTo (key : Nat → O.α) (p : Array Nat) (k : Nat) : Prop := ∀ i j, i ≤ j → j < k → O.kle (sK key p i) (sK key p j)
def NonInc (key : Nat → O.α) (p : Array Nat) (k : Nat) : Prop := ∀ i j, i ≤ j → j < k → O.kle (sK key p j) (sK key p i)
def sLt (key : Nat → O.α) (i j : Nat) : Bool := O.blt (key i) (key j)
def Pm (n : Nat) (p : Array Nat) : Prop := p.Perm (List.range n).toArray
theorem Pm.size {p : Array Nat} (h : Pm n p) : p.size = n := by have := Array.perm_iff_toList_perm.mp h; simpa using this.length_eq
theorem Pm.lt {p : Array Nat} (h : Pm n p) (hn : 0 < n) (i : Nat) : p.getD i 0 < n := by
  by_cases hi : i < p.size
  · have e : p.getD i 0 = p[i] := by simp [Array.getD, hi]
    rw [e]
    have := (Array.perm_iff_toList_perm.mp h).mem_iff (a := p[i])
    simpa using this.mp (by simp)
  · have e : p.getD i 0 = 0 := by simp [Array.getD, hi]
    omega
theorem Pm.rev {p : Array Nat} (h : Pm n p) (i j : Nat) : Pm n (kas_rev p i j) := (mirror_perm _ _ _ _).trans h
theorem Pm.bub {p : Array Nat} (h : Pm n p) (i j : Nat) : Pm n (bubble p i j) := (bubble_perm _ _ _).trans h
theorem sK_congr {p q : Array Nat} {i j : Nat} (h : p[i]? = q[j]?) : sK key p i = sK key q j := by
  unfold sK; rw [Array.getD_eq_getD_getElem?, Array.getD_eq_getD_getElem?, h]
theorem sK_bubble {xs : Array Nat} {src d : Nat} (hs : src < xs.size) (hd : d ≤ src) (k : Nat) :
    sK key (bubble xs src d) k = if k = src - d then sK key xs src else if src - d < k ∧ k ≤ src then sK key xs (k - 1) else sK key xs k := by
  have e := getElem?_bubble hs d hd k
  by_cases h1 : k = src - d
  · rw [if_pos h1] at e ⊢; exact sK_congr e
  · rw [if_neg h1] at e ⊢
    by_cases h2 : src - d < k ∧ k ≤ src
    · rw [if_pos h2] at e ⊢; exact sK_congr e
    · rw [if_neg h2] at e ⊢; exact sK_congr e
theorem sK_rev {xs : Array Nat} {i j : Nat} (hj : j ≤ xs.size) (k : Nat) : sK key (kas_rev xs i j) k = if i ≤ k ∧ k < j then sK key xs (i + j - 1 - k) else sK key xs k := by
  have e := getElem?_mirror_all (i := i) hj k
  by_cases h1 : i ≤ k ∧ k < j
  · rw [if_pos h1] at e ⊢; exact sK_congr e
  · rw [if_neg h1] at e ⊢; exact sK_congr e
theorem sK_rev_equal {xs : Array Nat} {i j : Nat} (hj : j ≤ xs.size) (heq : ∀ k, i ≤ k → k < j → sK key xs k = sK key xs (j - 1)) (k : Nat) : sK key (kas_rev xs i j) k = sK key xs k := by
  rw [sK_rev hj]
  split
  · rw [heq _ (by omega) (by omega), heq k (by omega) (by omega)]
  · rfl
theorem ok_ask {γ : Type} {P : γ → Prop} {p : Array Nat} {k : Bool → KasT γ} (hB : Pm n p) (hn : 0 < n) (i j : Nat) (h : Ok n (sLt key) P (k (O.blt (sK key p i) (sK key p j)))) : Ok n (sLt key) P (.ask (p.getD i 0) (p.getD j 0) k) :=
  ⟨hB.lt hn i, hB.lt hn j, h⟩
theorem ok_asc {P : Nat → Prop} {p : Array Nat} (hB : Pm n p) (hn : 0 < n) : ∀ (f a : Nat), 1 ≤ a → SrtTo key p a → (∀ m, a ≤ m → m ≤ a + f → SrtTo key p m → (m = a + f ∨ O.klt (sK key p m) (sK key p (m - 1))) → P m) → Ok n (sLt key) P (kas_asc p f a)
  | 0, a, _, hs, h => h a (Nat.le_refl _) (Nat.le_refl _) hs (.inl rfl)
  | f + 1, a, ha, hs, h => by
    refine ok_ask hB hn a (a - 1) ?_
    cases hless : O.blt (sK key p a) (sK key p (a - 1)) with
    | true =>
      simp only [if_true]
      exact h a (Nat.le_refl _) (by omega) hs (.inr hless)
    | false =>
      simp only [Bool.false_eq_true, if_false]
      refine ok_asc hB hn f (a + 1) (by omega) ?_ fun m h1 h2 h3 h4 => h m (by omega) (by omega) h3 (h4.imp (fun e => by omega) id)
      intro i j hij hj
      by_cases hjx : j < a
      · exact hs i j hij hjx
      · have hj' : j = a := by omega
        subst hj'
        by_cases hi' : i = j
        · subst hi'; exact KeyOrd.kle_refl _
        · exact KeyOrd.kle_trans (hs i (j - 1) (by omega) (by omega)) hless
theorem ok_tail3 {P : Nat × Array Nat → Prop} {p : Array Nat} {m nrem : Nat} (hB : Pm n p) (hn : 0 < n) (hr : nrem ≤ n) (h1 : 1 ≤ m) (hm : m ≤ nrem) (hs : NonInc key p m) (h : ∀ k p', Pm n p' → 1 ≤ k → k ≤ nrem → SrtTo key p' k → P (k, p')) :
    Ok n (sLt key) P (kas_tail3 m nrem p) := by
  have hsz : m ≤ p.size := by rw [hB.size]; omega
  refine Ok.bind (ok_asc (hB.rev 0 m) hn _ _ h1 ?_ fun k a1 a2 a3 _ => h k _ (hB.rev 0 m) (by omega) (by omega) a3)
  intro i j hij hj
  rw [sK_rev hsz, sK_rev hsz, if_pos (by omega), if_pos (by omega)]
  exact hs _ _ (by omega) (by omega)
theorem ok_desc {P : Array Nat × Nat × Nat → Prop} (hn : 0 < n) : ∀ (f : Nat) (p : Array Nat) (x q : Nat), Pm n p → x + f ≤ n → NonInc key p x → q + 1 ≤ x → (∀ i, x - (q + 1) ≤ i → i < x → sK key p i = sK key p (x - 1)) →
    (∀ p' m q', Pm n p' → x ≤ m → m ≤ x + f → NonInc key p' m → q' + 1 ≤ m → (∀ i, m - (q' + 1) ≤ i → i < m → sK key p' i = sK key p' (m - 1)) → P (p', m, q')) → Ok n (sLt key) P (kas_desc f p x q)
  | 0, p, x, q, hB, _, hs, hq, he, h => h p x q hB (Nat.le_refl _) (Nat.le_refl _) hs hq he
  | f + 1, p, x, q, hB, hxn, hs, hq, he, h => by
    have hsz : x ≤ p.size := by rw [hB.size]; omega
    refine ok_ask hB hn x (x - 1) ?_
    cases hless : O.blt (sK key p x) (sK key p (x - 1)) with
    | true =>
      simp only [if_true]
      have step1 : ∀ xs : Array Nat, (∀ k, sK key xs k = sK key p k) → NonInc key xs (x + 1) := by
        intro xs hk i j hij hj
        rw [hk, hk]
        by_cases hjx : j < x
        · exact hs i j hij hjx
        · have hj' : j = x := by omega
          subst hj'
          by_cases hi' : i = j
          · subst hi'; exact KeyOrd.kle_refl _
          · exact KeyOrd.kle_trans (KeyOrd.kle_of_klt hless) (hs i (j - 1) (by omega) (by omega))
      have one : ∀ xs : Array Nat, ∀ i, x + 1 - (0 + 1) ≤ i → i < x + 1 → sK key xs i = sK key xs (x + 1 - 1) := fun xs i h1 h2 => by congr 1; omega
      by_cases hneq : q > 0
      · rw [if_pos hneq]
        exact ok_desc hn f _ (x + 1) 0 (hB.rev _ _) (by omega) (step1 _ (sK_rev_equal hsz he)) (by omega) (one _) fun p' m q' a1 a2 a3 a4 a5 a6 => h p' m q' a1 (by omega) (by omega) a4 a5 a6
      · rw [if_neg hneq]
        exact ok_desc hn f _ (x + 1) 0 hB (by omega) (step1 _ fun _ => rfl) (by omega) (one _) fun p' m q' a1 a2 a3 a4 a5 a6 => h p' m q' a1 (by omega) (by omega) a4 a5 a6
    | false =>
      simp only [Bool.false_eq_true, if_false]
      refine ok_ask hB hn (x - 1) x ?_
      cases hlarger : O.blt (sK key p (x - 1)) (sK key p x) with
      | true =>
        simp only [if_true]
        exact h p x q hB (Nat.le_refl _) (by omega) hs hq he
      | false =>
        simp only [Bool.false_eq_true, if_false]
        have heqx : sK key p x = sK key p (x - 1) := KeyOrd.kle_antisymm hlarger hless
        refine ok_desc hn f p (x + 1) (q + 1) hB (by omega) (fun i j hij hj => ?_) (by omega) (fun i h1 h2 => ?_) fun p' m q' a1 a2 a3 a4 a5 a6 => h p' m q' a1 (by omega) (by omega) a4 a5 a6
        · by_cases hjx : j < x
          · exact hs i j hij hjx
          · have hj' : j = x := by omega
            subst hj'
            by_cases hi' : i = j
            · subst hi'; exact KeyOrd.kle_refl _
            · rw [heqx]; exact hs i (j - 1) (by omega) (by omega)
        · rw [show x + 1 - 1 = x by omega]
          by_cases hix : i = x
          · subst hix; rfl
          · rw [heqx]; exact he i (by omega) (by omega)
theorem ok_descPart {P : Nat × Array Nat → Prop} {p : Array Nat} {m nrem : Nat} (hB : Pm n p) (hn : 0 < n) (hr : nrem ≤ n) (hm : m + 1 ≤ nrem) (hs : NonInc key p (m + 1)) (h : ∀ k p', Pm n p' → 1 ≤ k → k ≤ nrem → SrtTo key p' k → P (k, p')) :
    Ok n (sLt key) P (kas_descPart m nrem p) := by
  refine Ok.bind (ok_desc hn _ _ _ _ hB (by omega) hs (by omega) (fun i h1 h2 => by congr 1; omega) fun p' x q hB' a2 a3 a4 a5 a6 => ?_)
  dsimp only
  have hsz : x ≤ p'.size := by rw [hB'.size]; omega
  by_cases hneq : q > 0
  · rw [if_pos hneq]
    refine ok_tail3 (hB'.rev _ _) hn hr (by omega) (by omega) ?_ h
    intro i j hij hj
    rw [sK_rev_equal hsz a6, sK_rev_equal hsz a6]
    exact a4 i j hij hj
  · rw [if_neg hneq]
    exact ok_tail3 hB' hn hr (by omega) (by omega) a4 h
theorem ok_count {P : Nat × Array Nat → Prop} {p : Array Nat} {nrem : Nat} (hB : Pm n p) (hn : 0 < n) (hr : nrem ≤ n) (h1 : 1 ≤ nrem) (h : ∀ k p', Pm n p' → 1 ≤ k → k ≤ nrem → SrtTo key p' k → P (k, p')) :
    Ok n (sLt key) P (kas_count nrem p) := by
  refine Ok.bind (ok_asc hB hn _ _ (Nat.le_refl 1) (fun i j hij hj => by have : i = j := (by omega); subst this; exact KeyOrd.kle_refl _) fun m hm1 hm2 hsn hor => ?_)
  have hm2' : m ≤ nrem := by omega
  by_cases hnn : m = nrem
  · rw [if_pos (by simpa using hnn)]
    exact h m p hB hm1 hm2' hsn
  · rw [if_neg (by simpa using hnn)]
    have hlt : O.klt (sK key p m) (sK key p (m - 1)) := hor.resolve_left (by omega)
    by_cases hgt : m > 1
    · rw [if_pos hgt]
      refine ok_ask hB hn 0 (m - 1) ?_
      cases hrose : O.blt (sK key p 0) (sK key p (m - 1)) with
      | true =>
        simp only [if_true]
        exact h m p hB hm1 hm2' hsn
      | false =>
        simp only [Bool.false_eq_true, if_false]
        have hsz : m ≤ p.size := by rw [hB.size]; omega
        have hall : ∀ k, 0 ≤ k → k < m → sK key p k = sK key p (m - 1) := by
          intro k _ hk
          have a1 := hsn 0 k (by omega) hk
          have a2 := hsn k (m - 1) (by omega) (by omega)
          exact KeyOrd.kle_antisymm a2 (KeyOrd.kle_trans hrose a1)
        refine ok_descPart (hB.rev _ _) hn hr (by omega) ?_ h
        intro i j hij hj
        rw [sK_rev_equal hsz hall, sK_rev_equal hsz hall]
        by_cases hjn : j < m
        · rw [hall i (by omega) (by omega), hall j (by omega) hjn]; exact KeyOrd.kle_refl _
        · have hj' : j = m := by omega
          subst hj'
          by_cases hi' : i = j
          · subst hi'; exact KeyOrd.kle_refl _
          · rw [hall i (by omega) (by omega)]; exact KeyOrd.kle_of_klt hlt
    · rw [if_neg hgt]
      have hn1' : m = 1 := by omega
      subst hn1'
      refine ok_descPart hB hn hr (by omega) ?_ h
      intro i j hij hj
      by_cases hi' : i = j
      · subst hi'; exact KeyOrd.kle_refl _
      · have hi0 : i = 0 := by omega
        have hj1 : j = 1 := by omega
        subst hi0; subst hj1
        exact KeyOrd.kle_of_klt hlt
theorem ok_place {P : Nat → Prop} {p : Array Nat} {k : Nat} (hB : Pm n p) (hn : 0 < n) (hs : SrtTo key p k) : ∀ (f l r : Nat), l ≤ r → r ≤ k → r - l ≤ f → (∀ i, i < l → O.kle (sK key p i) (sK key p k)) → (∀ i, r ≤ i → i < k → O.klt (sK key p k) (sK key p i)) →
    (∀ l, l ≤ k → (∀ i, i < l → O.kle (sK key p i) (sK key p k)) → (∀ i, l ≤ i → i < k → O.klt (sK key p k) (sK key p i)) → P l) → Ok n (sLt key) P (kas_place p k f l r)
  | 0, l, r, hlr, hrk, hm, hlo, hhi, h => h l (by omega) hlo fun i h1 h2 => hhi i (by omega) h2
  | f + 1, l, r, hlr, hrk, hm, hlo, hhi, h => by
    unfold kas_place
    by_cases hge : l ≥ r
    · rw [if_pos hge]
      exact h l (by omega) hlo fun i h1 h2 => hhi i (by omega) h2
    · rw [if_neg hge]
      refine ok_ask hB hn k ((l + r) / 2) ?_
      cases hless : O.blt (sK key p k) (sK key p ((l + r) / 2)) with
      | true =>
        simp only [if_true]
        refine ok_place hB hn hs f l ((l + r) / 2) (by omega) (by omega) (by omega) hlo (fun i h1 h2 => ?_) h
        exact KeyOrd.klt_of_klt_of_kle hless (hs _ _ h1 h2)
      | false =>
        simp only [Bool.false_eq_true, if_false]
        refine ok_place hB hn hs f ((l + r) / 2 + 1) r (by omega) (by omega) (by omega) (fun i h1 => ?_) hhi h
        exact KeyOrd.kle_trans (hs i ((l + r) / 2) (by omega) (by omega)) (show O.kle _ _ from hless)
theorem ok_bin {P : Array Nat → Prop} (hn : 0 < n) (h : ∀ p', Pm n p' → SrtTo key p' n → P p') : ∀ (f : Nat) (p : Array Nat) (k : Nat), Pm n p → SrtTo key p k → k + f = n → Ok n (sLt key) P (kas_bin f p k)
  | 0, p, k, hB, hs, hk => h p hB (by rw [← hk]; exact hs)
  | f + 1, p, k, hB, hs, hk => by
    have hks : k < p.size := by rw [hB.size]; omega
    refine Ok.bind (ok_place hB hn hs k 0 k (by omega) (by omega) (by omega) (fun i h => by omega) (fun i h1 h2 => by omega) fun l hlk hlo hhi => ?_)
    refine ok_bin hn h f _ (k + 1) (hB.bub _ _) ?_ (by omega)
    intro i j hij hj
    rw [sK_bubble hks (by omega), sK_bubble hks (by omega), show k - (k - l) = l by omega]
    repeat' split
    all_goals first
      | (exfalso; omega)
      | exact KeyOrd.kle_refl _
      | exact hlo _ (by omega)
      | exact KeyOrd.kle_of_klt (hhi _ (by omega) (by omega))
      | exact hs _ _ (by omega) (by omega)
theorem ok_sort (hn : 1 ≤ n) : Ok n (sLt key) (fun p => Pm n p ∧ SrtTo key p n) (kas_sort n) := by
  refine Ok.bind (ok_count (p := (List.range n).toArray) (.refl _) hn (Nat.le_refl _) hn fun k p' a1 a2 a3 a4 => ?_)
  dsimp only
  by_cases h : k < n
  · rw [if_pos h]
    have e : max k 1 = k := by omega
    rw [e]
    exact ok_bin hn (fun p' b1 b2 => ⟨b1, b2⟩) _ _ _ a1 a4 (by omega)
  · rw [if_neg h]
    obtain rfl : k = n := by omega
    exact ⟨a1, a4⟩
end
end Mine
end
section
set_option Elab.async false
namespace Mine
open PyProof.Rows
section
variable {α : Type} {lt : α → α → Bool}
open Classical in
theorem set_swap {l : List α} {p q : Nat} {x y : α} (hp : p < l.length) (hq : l[q]? = some y) (hne : p ≠ q) : ((l.set p y).set q x).Perm (l.set p x) := by
  obtain ⟨hql, rfl⟩ := List.getElem?_eq_some_iff.mp hq
  rw [List.perm_iff_count]
  intro b
  have h1 : q < (l.set p l[q]).length := by simpa using hql
  rw [List.count_set h1, List.count_set hp, List.count_set hp, List.getElem_set_ne hne]
  have h2 : (if (l[p] == b) = true then 1 else 0) ≤ l.count b := by
    split
    · rename_i h
      have : l[p] = b := by simpa using h
      have : b ∈ l := this ▸ List.getElem_mem hp
      exact List.count_pos_iff.mpr this
    · omega
  omega
theorem sdn_perm (x : α) (st : Nat) : ∀ (p : Nat) (l : List α), p < l.length → (sdn lt x st l p).Perm (l.set p x) := by
  intro p
  induction p using Nat.strongRecOn with
  | ind p ih =>
    intro l hp
    rw [sdn]
    split
    · rename_i h
      split
      · rename_i y hy
        split
        · refine (ih _ (by omega) _ (by rw [List.length_set]; omega)).trans (set_swap hp hy (by omega))
        · exact .refl _
      · exact .refl _
    · exact .refl _
theorem sup_perm (e : Nat) (x : α) : ∀ (k p : Nat) (l : List α), e - p = k → p < l.length → ((sup lt e l p).1.set (sup lt e l p).2 x).Perm (l.set p x) := by
  intro k
  induction k using Nat.strongRecOn with
  | ind k ih =>
    intro p l hk hp
    rw [sup]
    split
    · rename_i h
      have h1 := pick_ge lt e l (2 * p + 1)
      have h2 := pick_lt lt e l (2 * p + 1) h
      split
      · rename_i y hy
        obtain ⟨hc, _⟩ := List.getElem?_eq_some_iff.mp hy
        exact (ih _ (by omega) _ (l.set p y) rfl (by rw [List.length_set]; exact hc)).trans (set_swap hp hy (by omega))
      · exact .refl _
    · exact .refl _
theorem siftup_perm (l : List α) (p : Nat) : (siftup lt l p).Perm l := by
  unfold siftup
  split
  · rename_i x hx
    obtain ⟨hp, rfl⟩ := List.getElem?_eq_some_iff.mp hx
    have s := sup_spec (lt := lt) l.length _ p l rfl
    have h1 := sup_perm (lt := lt) l.length l[p] _ p l rfl hp
    refine (sdn_perm _ _ _ _ (by rw [List.length_set, s.1]; exact s.2.2.1 hp)).trans ?_
    rw [List.set_set]
    refine h1.trans ?_
    rw [List.set_getElem_self]
  · exact .refl _
theorem heapify_perm (l : List α) : (heapifyL lt l).Perm l := by
  unfold heapifyL
  generalize (List.range (l.length / 2)).reverse = js
  induction js generalizing l with
  | nil => exact .refl _
  | cons j js ih => exact (ih _).trans (siftup_perm _ _)
theorem pushL_perm (l : List α) (v : α) : (pushL lt l v).Perm (v :: l) := by
  unfold pushL
  refine (sdn_perm _ _ _ _ (by simp)).trans ?_
  rw [List.set_append_right _ _ (Nat.le_refl _)]
  simp only [Nat.sub_self, List.set_cons_zero]
  exact List.perm_append_singleton v l
theorem pushes_perm (vs : List α) : ∀ (l : List α), (vs.foldl (pushL lt) l).Perm (l ++ vs) := by
  induction vs with
  | nil => intro l; simp
  | cons v vs ih =>
    intro l
    refine (ih _).trans ?_
    refine ((pushL_perm l v).append_right vs).trans ?_
    simpa using List.perm_middle.symm
theorem popL_perm (i : List α) (x : α) : ((popL lt i x).1 :: (popL lt i x).2).Perm (i ++ [x]) := by
  cases i with
  | nil => exact .refl _
  | cons y t =>
    show (y :: siftup lt (x :: t) 0).Perm (y :: (t ++ [x]))
    exact .cons _ ((siftup_perm _ _).trans (List.perm_append_singleton x t).symm)
theorem popAll_perm : ∀ (k : Nat) (l : List α), l.length = k → (popAll lt k l).Perm l
  | 0, l, h => by rw [List.length_eq_zero_iff.mp h]; exact .refl _
  | k + 1, l, h => by
    rcases List.eq_nil_or_concat l with e | ⟨i, x, e⟩
    · rw [e] at h; simp at h
    · rw [e, List.concat_eq_append] at h ⊢
      rw [popAll_snoc]
      exact (List.Perm.cons _ (popAll_perm k _ (by rw [popL_length]; simpa using h))).trans (popL_perm i x)
end
section
variable {α : Type} {O : KeyOrd} {key : α → O.α}
def kLt (key : α → O.α) (a b : α) : Bool := O.blt (key a) (key b)
def Edge (key : α → O.α) (l : List α) (i j : Nat) : Prop := ∀ a b, l[i]? = some a → l[j]? = some b → O.kle (key a) (key b)
def HeapFrom (key : α → O.α) (st : Nat) (l : List α) : Prop := ∀ j, 0 < j → st ≤ (j - 1) / 2 → Edge key l ((j - 1) / 2) j
inductive Desc (p : Nat) : Nat → Prop
  | refl : Desc p p
  | step {q c : Nat} : Desc p q → 0 < c → (c - 1) / 2 = q → Desc p c
theorem Desc.le {p q : Nat} (h : Desc p q) : p ≤ q := by
  induction h with
  | refl => exact Nat.le_refl _
  | step _ h1 h2 ih => omega
theorem Desc.up {p q : Nat} (h : Desc p q) (hne : q ≠ p) : 0 < q ∧ Desc p ((q - 1) / 2) := by
  cases h with
  | refl => exact absurd rfl hne
  | step h h1 h2 => exact ⟨h1, h2 ▸ h⟩
structure Hole (key : α → O.α) (st : Nat) (l : List α) (q : Nat) : Prop where
  edges : ∀ j, 0 < j → st ≤ (j - 1) / 2 → j ≠ q → (j - 1) / 2 ≠ q → Edge key l ((j - 1) / 2) j
  gp : ∀ j, 0 < j → (j - 1) / 2 = q → q ≠ st → Edge key l ((q - 1) / 2) j
  desc : Desc st q
  inb : q < l.length
theorem get_set {l : List α} {i j : Nat} {a b : α} (h : (l.set i a)[j]? = some b) : (i = j ∧ b = a) ∨ (i ≠ j ∧ l[j]? = some b) := by
  rw [List.getElem?_set] at h
  split at h
  · split at h
    · exact .inl ⟨by assumption, (Option.some.inj h).symm⟩
    · cases h
  · exact .inr ⟨by assumption, h⟩
theorem sdn_heap {x : α} {st : Nat} : ∀ (q : Nat) (l : List α), Hole key st l q → (∀ j b, 0 < j → (j - 1) / 2 = q → l[j]? = some b → O.kle (key x) (key b)) → HeapFrom key st (sdn (kLt key) x st l q) := by
  intro q
  induction q using Nat.strongRecOn with
  | ind q ih =>
    intro l H hx
    have stop : (st < q → ∀ a, l[(q - 1) / 2]? = some a → O.kle (key a) (key x)) → HeapFrom key st (l.set q x) := by
      intro hs j hj hst a b ha hb
      rcases get_set ha with ⟨e1, rfl⟩ | ⟨e1, ha⟩
      · rcases get_set hb with ⟨e2, rfl⟩ | ⟨e2, hb⟩
        · exact KeyOrd.kle_refl _
        · exact hx j b hj e1.symm hb
      · rcases get_set hb with ⟨e2, e3⟩ | ⟨e2, hb⟩
        · rw [← e2] at ha; rw [e3]
          exact hs (by omega) a ha
        · exact H.edges j hj hst (fun e => e2 e.symm) (fun e => e1 e.symm) a b ha hb
    rw [sdn]
    split
    · rename_i hlt
      split
      · rename_i y hy
        split
        · rename_i hxy
          obtain ⟨hq0, hdesc⟩ := H.desc.up (by omega)
          have hle : st ≤ (q - 1) / 2 := hdesc.le
          refine ih _ (by omega) _ ⟨?_, ?_, hdesc, by rw [List.length_set]; have := H.inb; omega⟩ ?_
          · intro j hj hst h1 h2 a b ha hb
            rcases get_set ha with ⟨e1, rfl⟩ | ⟨e1, ha⟩
            · rcases get_set hb with ⟨e2, rfl⟩ | ⟨e2, hb⟩
              · exact KeyOrd.kle_refl _
              · exact H.gp j hj e1.symm (by omega) _ b hy hb
            · rcases get_set hb with ⟨e2, rfl⟩ | ⟨e2, hb⟩
              · subst e2; exact absurd rfl h2
              · exact H.edges j hj hst (fun e => e2 e.symm) (fun e => e1 e.symm) a b ha hb
          · intro j hj hjq hne a b ha hb
            have hup := hdesc.up hne
            have hst' := hup.2.le
            rcases get_set ha with ⟨e1, rfl⟩ | ⟨e1, ha⟩
            · omega
            · have h3 : O.kle (key a) (key y) := H.edges ((q - 1) / 2) hup.1 hst' (by omega) (by omega) a y ha hy
              rcases get_set hb with ⟨e2, rfl⟩ | ⟨e2, hb⟩
              · exact h3
              · have := H.edges j hj (by rw [hjq]; exact hle) (fun e => e2 e.symm) (by rw [hjq]; omega) y b (by rw [hjq]; exact hy) hb
                exact KeyOrd.kle_trans h3 this
          · intro j b hj hjq hb
            have h3 : O.kle (key x) (key y) := KeyOrd.kle_of_klt hxy
            rcases get_set hb with ⟨e2, rfl⟩ | ⟨e2, hb⟩
            · exact h3
            · have := H.edges j hj (by rw [hjq]; exact hle) (fun e => e2 e.symm) (by rw [hjq]; omega) y b (by rw [hjq]; exact hy) hb
              exact KeyOrd.kle_trans h3 this
        · rename_i hxy
          refine stop fun _ a ha => ?_
          rw [hy] at ha; cases ha
          exact KeyOrd.kle_of_not_klt hxy
      · rename_i hy
        have := List.getElem?_eq_none_iff.mp hy
        have := H.inb
        omega
    · exact stop fun h => absurd h (by assumption)
theorem sup_hole {st : Nat} : ∀ (k q : Nat) (l : List α), l.length - q = k → Hole key st l q → Hole key st (sup (kLt key) l.length l q).1 (sup (kLt key) l.length l q).2 ∧ l.length ≤ 2 * (sup (kLt key) l.length l q).2 + 1 := by
  intro k
  induction k using Nat.strongRecOn with
  | ind k ih =>
    intro q l hk H
    rw [sup]
    split
    · rename_i h
      have h1 := pick_ge (kLt key) l.length l (2 * q + 1)
      have h2 := pick_lt (kLt key) l.length l (2 * q + 1) h
      have hpick : pick (kLt key) l.length l (2 * q + 1) = 2 * q + 1 ∨ pick (kLt key) l.length l (2 * q + 1) = 2 * q + 2 := by
        unfold pick; split
        · split
          · split <;> omega
          · omega
        · omega
      have hmin : ∀ y, l[pick (kLt key) l.length l (2 * q + 1)]? = some y → ∀ j b, 0 < j → (j - 1) / 2 = q → l[j]? = some b → O.kle (key y) (key b) := by
        intro y hy j b hj hjq hb
        have hjl := (List.getElem?_eq_some_iff.mp hb).1
        have hj2 : j = 2 * q + 1 ∨ j = 2 * q + 2 := by omega
        by_cases hc : 2 * q + 1 + 1 < l.length
        · have g1 : l[2 * q + 1]? = some l[2 * q + 1] := List.getElem?_eq_getElem (by omega)
          have g2 : l[2 * q + 1 + 1]? = some l[2 * q + 1 + 1] := List.getElem?_eq_getElem hc
          cases hl : kLt key l[2 * q + 1] l[2 * q + 1 + 1] with
          | true =>
            rw [pick_left hc g1 g2 hl] at hy
            rw [g1] at hy; cases hy
            rcases hj2 with rfl | rfl
            · rw [g1] at hb; cases hb; exact KeyOrd.kle_refl _
            · rw [g2] at hb; cases hb; exact KeyOrd.kle_of_klt hl
          | false =>
            rw [pick_right hc g1 g2 hl] at hy
            rw [g2] at hy; cases hy
            rcases hj2 with rfl | rfl
            · rw [g1] at hb; cases hb; exact hl
            · rw [g2] at hb; cases hb; exact KeyOrd.kle_refl _
        · rw [pick_one hc] at hy
          obtain rfl : j = 2 * q + 1 := by omega
          rw [hy] at hb; cases hb; exact KeyOrd.kle_refl _
      generalize pick (kLt key) l.length l (2 * q + 1) = c at h1 h2 hpick hmin ⊢
      split
      · rename_i y hy
        have hcq : (c - 1) / 2 = q := by omega
        have key2 := ih (l.length - c) (by omega) c (l.set q y) (by rw [List.length_set]) ⟨?_, ?_, .step H.desc (by omega) hcq, by rw [List.length_set]; omega⟩
        · rw [List.length_set] at key2; exact key2
        · intro j hj hst e1 e2 a b ha hb
          rcases get_set ha with ⟨f1, rfl⟩ | ⟨f1, ha⟩
          · rcases get_set hb with ⟨f2, rfl⟩ | ⟨f2, hb⟩
            · exact KeyOrd.kle_refl _
            · exact hmin _ hy j b hj f1.symm hb
          · rcases get_set hb with ⟨f2, f3⟩ | ⟨f2, hb⟩
            · have hne : q ≠ st := by omega
              rw [← f2] at ha; rw [f3]
              exact H.gp c (by omega) hcq hne a _ ha hy
            · exact H.edges j hj hst (fun e => f2 e.symm) (fun e => f1 e.symm) a b ha hb
        · intro j hj hjc hne a b ha hb
          rw [hcq] at ha
          rcases get_set ha with ⟨f1, rfl⟩ | ⟨f1, ha⟩
          · rcases get_set hb with ⟨f2, rfl⟩ | ⟨f2, hb⟩
            · exact KeyOrd.kle_refl _
            · have := H.desc.le
              exact H.edges j hj (by omega) (by omega) (by omega) _ b (by rw [hjc]; exact hy) hb
          · exact absurd rfl f1
      · rename_i hy
        have := List.getElem?_eq_none_iff.mp hy
        omega
    · exact ⟨H, by omega⟩
theorem siftup_heap {p : Nat} {l : List α} (hp : p < l.length) (H : HeapFrom key (p + 1) l) : HeapFrom key p (siftup (kLt key) l p) := by
  unfold siftup
  rw [List.getElem?_eq_getElem hp]
  dsimp only
  have H0 : Hole key p l p := ⟨fun j hj hst h1 h2 => H j hj (by omega), fun _ _ _ h => absurd rfl h, .refl, hp⟩
  obtain ⟨H1, H2⟩ := sup_hole _ p l rfl H0
  have sz := (sup_spec (lt := kLt key) l.length _ p l rfl).1
  generalize sup (kLt key) l.length l p = r at H1 H2 sz
  obtain ⟨l', q⟩ := r
  dsimp only at H1 H2 sz ⊢
  have hql : q < l'.length := H1.inb
  refine sdn_heap q _ ⟨?_, ?_, H1.desc, by rw [List.length_set]; exact hql⟩ ?_
  · intro j hj hst h1 h2 a b ha hb
    rcases get_set ha with ⟨f1, _⟩ | ⟨f1, ha⟩
    · exact absurd f1.symm h2
    · rcases get_set hb with ⟨f2, _⟩ | ⟨f2, hb⟩
      · exact absurd f2.symm h1
      · exact H1.edges j hj hst h1 h2 a b ha hb
  · intro j hj hjq hne a b ha hb
    have := (List.getElem?_eq_some_iff.mp hb).1
    rw [List.length_set] at this
    omega
  · intro j b hj hjq hb
    have := (List.getElem?_eq_some_iff.mp hb).1
    rw [List.length_set] at this
    omega
theorem heapify_heap (l : List α) : HeapFrom key 0 (heapifyL (kLt key) l) := by
  unfold heapifyL
  have go : ∀ (m : Nat) (l : List α), m ≤ l.length / 2 → HeapFrom key m l → HeapFrom key 0 ((List.range m).reverse.foldl (siftup (kLt key)) l) := by
    intro m
    induction m with
    | zero => intro l _ h; exact h
    | succ m ih =>
      intro l hm h
      rw [List.range_succ, List.reverse_append]
      simp only [List.reverse_cons, List.reverse_nil, List.nil_append, List.singleton_append, List.foldl_cons]
      exact ih _ (by rw [siftup_length]; omega) (siftup_heap (by omega) h)
  refine go _ _ (Nat.le_refl _) ?_
  intro j hj hst a b ha hb
  have := (List.getElem?_eq_some_iff.mp hb).1
  omega
theorem pushL_heap {l : List α} {v : α} (H : HeapFrom key 0 l) : HeapFrom key 0 (pushL (kLt key) l v) := by
  unfold pushL
  refine sdn_heap _ _ ⟨?_, ?_, ?_, by simp⟩ ?_
  · intro j hj hst h1 h2 a b ha hb
    have hjl := (List.getElem?_eq_some_iff.mp hb).1
    simp at hjl
    rw [List.getElem?_append_left (by omega)] at ha
    rw [List.getElem?_append_left (by omega)] at hb
    exact H j hj hst a b ha hb
  · intro j hj hjq hne a b ha hb
    have := (List.getElem?_eq_some_iff.mp hb).1
    simp at this
    omega
  · generalize l.length = q
    induction q using Nat.strongRecOn with
    | ind q ih =>
      by_cases h : q = 0
      · subst h; exact .refl
      · exact .step (ih ((q - 1) / 2) (by omega)) (by omega) rfl
  · intro j b hj hjq hb
    have := (List.getElem?_eq_some_iff.mp hb).1
    simp at this
    omega
theorem pushes_heap (vs : List α) : ∀ {l : List α}, HeapFrom key 0 l → HeapFrom key 0 (vs.foldl (pushL (kLt key)) l) := by
  induction vs with
  | nil => intro l h; exact h
  | cons v vs ih => intro l h; exact ih (pushL_heap h)
theorem heap_min {l : List α} (H : HeapFrom key 0 l) {x : α} (hx : l[0]? = some x) : ∀ (i : Nat) (b : α), l[i]? = some b → O.kle (key x) (key b) := by
  intro i
  induction i using Nat.strongRecOn with
  | ind i ih =>
    intro b hb
    by_cases h : i = 0
    · subst h; rw [hx] at hb; cases hb; exact KeyOrd.kle_refl _
    · have hl := (List.getElem?_eq_some_iff.mp hb).1
      have hpl : (i - 1) / 2 < l.length := by omega
      exact KeyOrd.kle_trans (ih _ (by omega) _ (List.getElem?_eq_getElem hpl)) (H i (by omega) (Nat.zero_le _) _ b (List.getElem?_eq_getElem hpl) hb)
theorem popL_heap {i : List α} {x : α} (H : HeapFrom key 0 (i ++ [x])) : HeapFrom key 0 (popL (kLt key) i x).2 := by
  cases i with
  | nil => intro j hj _ a b ha _; simp [popL] at ha
  | cons y t =>
    show HeapFrom key 0 (siftup (kLt key) (x :: t) 0)
    refine siftup_heap (Nat.zero_lt_succ _) ?_
    intro j hj hst a b ha hb
    have hjl := (List.getElem?_eq_some_iff.mp hb).1
    simp at hjl
    have e : ∀ m, 1 ≤ m → m < t.length + 1 → (x :: t)[m]? = (y :: t ++ [x])[m]? := by
      intro m h1 h2
      obtain ⟨m, rfl⟩ : ∃ k, m = k + 1 := ⟨m - 1, by omega⟩
      simp
      rw [List.getElem?_append_left (by omega)]
    rw [e _ (by omega) (by omega)] at ha
    rw [e _ (by omega) (by omega)] at hb
    exact H j hj (by omega) a b ha hb
theorem popL_min {i : List α} {x : α} (H : HeapFrom key 0 (i ++ [x])) : ∀ b ∈ i ++ [x], O.kle (key (popL (kLt key) i x).1) (key b) := by
  intro b hb
  obtain ⟨m, hm, rfl⟩ := List.getElem_of_mem hb
  refine heap_min H ?_ m _ (List.getElem?_eq_getElem hm)
  cases i <;> rfl
theorem popAll_sorted : ∀ (k : Nat) (l : List α), l.length = k → HeapFrom key 0 l → (popAll (kLt key) k l).Pairwise (fun a b => O.kle (key a) (key b))
  | 0, l, _, _ => .nil
  | k + 1, l, h, H => by
    rcases List.eq_nil_or_concat l with e | ⟨i, x, e⟩
    · rw [e] at h; simp at h
    · rw [e, List.concat_eq_append] at h H ⊢
      rw [popAll_snoc]
      have hl : (popL (kLt key) i x).2.length = k := by rw [popL_length]; simpa using h
      refine .cons (fun b hb => ?_) (popAll_sorted k _ hl (popL_heap H))
      have hb' := (popAll_perm k _ hl).mem_iff.mp hb
      exact popL_min H b (popL_mem2 _ _ _ _ hb')
/-- the sum of it: heapify, pushes, pops -/
theorem heap_sorts (xs ys : List α) :
    (popAll (kLt key) (xs ++ ys).length (ys.foldl (pushL (kLt key)) (heapifyL (kLt key) xs))).Perm (xs ++ ys) ∧
    (popAll (kLt key) (xs ++ ys).length (ys.foldl (pushL (kLt key)) (heapifyL (kLt key) xs))).Pairwise (fun a b => O.kle (key a) (key b)) := by
  have hp : (ys.foldl (pushL (kLt key)) (heapifyL (kLt key) xs)).Perm (xs ++ ys) := (pushes_perm ys _).trans ((heapify_perm xs).append_right ys)
  exact ⟨(popAll_perm _ _ hp.length_eq).trans hp, popAll_sorted _ _ hp.length_eq (pushes_heap ys (heapify_heap xs))⟩
end
end Mine
end
section
set_option Elab.async false
namespace Mine
open PySem PySem.W PyProof.Rows
theorem strLt_cp (x y : Str) : strLt x y = decide (cp x < cp y) := rfl
theorem lexLt_eq : ∀ xs ys : List Str, lexLt xs ys = decide (xs.map cp < ys.map cp)
  | [], [] => by simp [lexLt]
  | [], _ :: _ => by simp [lexLt]
  | _ :: _, [] => by simp [lexLt]
  | x :: xs, y :: ys => by
    have ih := lexLt_eq xs ys
    show (if x.cps.toList == y.cps.toList then lexLt xs ys else strLt x y) = _
    by_cases e : cp x = cp y
    · have e' : (x.cps.toList == y.cps.toList) = true := by simpa [cp] using e
      rw [if_pos e', ih]
      simp [e]
    · have e' : ¬ (x.cps.toList == y.cps.toList) = true := by simpa [cp] using e
      rw [if_neg e', strLt_cp]
      simp [List.cons_lt_cons_iff, e]
def rowOrd : KeyOrd where
  α := List Str
  blt := lexLt
  irrefl a := by rw [lexLt_eq]; simp
  trans a b c h1 h2 := by rw [lexLt_eq] at *; simp only [decide_eq_true_eq] at *; exact List.lt_trans h1 h2
  negTrans a b c h := by
    rw [lexLt_eq] at *; rw [lexLt_eq]; simp only [decide_eq_true_eq] at *
    by_cases hab : a.map cp < b.map cp
    · exact .inl hab
    · exact .inr (List.lt_of_le_of_lt (List.not_lt.mp hab) h)
  total a b h1 h2 := by
    rw [lexLt_eq] at *; simp only [decide_eq_false_iff_not] at *
    have := List.le_antisymm (List.not_lt.mp h2) (List.not_lt.mp h1)
    exact (List.map_inj_right (fun _ _ e => cp_inj e)).mp this
theorem sandwich : ∀ (a b c : List Str), lexLt b a = false → lexLt c b = false → lcp a c ≤ lcp b c
  | [], _, _, _, _ => by simp [lcp]
  | x :: a, b, [], _, _ => by simp [lcp]
  | x :: a, [], z :: c, h, _ => by simp [lexLt] at h
  | x :: a, y :: b, z :: c, h1, h2 => by
    by_cases e : x = z
    · subst e
      have hy : y = x := by
        by_cases e : y.cps.toList = x.cps.toList
        · exact cp_inj e
        · have e1 : ¬ (y.cps.toList == x.cps.toList) = true := fun h => e (beq_iff_eq.mp h)
          have e2 : ¬ (x.cps.toList == y.cps.toList) = true := fun h => e (beq_iff_eq.mp h).symm
          simp only [lexLt, e1, e2] at h1 h2
          simp only [Bool.false_eq_true, if_false] at h1 h2
          exact cp_inj (strKind.total _ _ h1 h2)
      subst hy
      simp only [lexLt, beq_self_eq_true, if_true] at h1 h2
      have := sandwich a b c h1 h2
      simp [lcp, this]
    · simp [lcp, e]
end Mine
end
section
set_option Elab.async false
namespace Mine
open PySem PySem.W PyProof.Rows
theorem addBeg_mem (f : List (List Str)) (p q : List Str) : q ∈ addBeg f p ↔ q ∈ f ∨ q = p := by
  unfold addBeg
  split
  · constructor
    · exact .inl
    · rintro (h | rfl) <;> assumption
  · simp
theorem addBeg_nodup {f : List (List Str)} (p : List Str) (h : f.Nodup) : (addBeg f p).Nodup := by
  unfold addBeg
  split
  · exact h
  · rename_i hp
    rw [List.nodup_append]
    refine ⟨h, by simp, fun a ha b hb e => ?_⟩
    rw [List.mem_singleton.mp hb] at e
    exact hp (e ▸ ha)
def begPart (row : List Str) (found : List (List Str)) (m : Nat) : List (List Str) := (List.range m).foldl (fun f k => addBeg f (row.take (k + 1))) found
theorem begPart_succ (row : List Str) (found : List (List Str)) (m : Nat) : begPart row found (m + 1) = addBeg (begPart row found m) (row.take (m + 1)) := by
  unfold begPart
  rw [List.range_succ, List.foldl_append]
  rfl
theorem begPart_mem (row : List Str) (found : List (List Str)) (q : List Str) : ∀ m, q ∈ begPart row found m ↔ q ∈ found ∨ ∃ k, k < m ∧ q = row.take (k + 1)
  | 0 => by simp [begPart]
  | m + 1 => by
    rw [begPart_succ, addBeg_mem, begPart_mem row found q m]
    constructor
    · rintro ((h | ⟨k, hk, e⟩) | e)
      · exact .inl h
      · exact .inr ⟨k, by omega, e⟩
      · exact .inr ⟨m, by omega, e⟩
    · rintro (h | ⟨k, hk, e⟩)
      · exact .inl (.inl h)
      · by_cases hkm : k = m
        · exact .inr (hkm ▸ e)
        · exact .inl (.inr ⟨k, by omega, e⟩)
theorem begPart_nodup {row : List Str} {found : List (List Str)} (h : found.Nodup) : ∀ m, (begPart row found m).Nodup
  | 0 => h
  | m + 1 => by rw [begPart_succ]; exact addBeg_nodup _ (begPart_nodup h m)
theorem begRow_eq (found : List (List Str)) (row : List Str) : begRow found row = begPart row found row.length := rfl
theorem begAll_mem' (q : List Str) : ∀ (rs found : List (List Str)), q ∈ rs.foldl begRow found ↔ q ∈ found ∨ ∃ r ∈ rs, ∃ k, k < r.length ∧ q = r.take (k + 1)
  | [], found => by simp
  | r :: rs, found => by
    rw [List.foldl_cons, begAll_mem' q rs, begRow_eq, begPart_mem]
    simp only [List.mem_cons, exists_eq_or_imp]
    rw [or_assoc]
theorem begAll_nodup' : ∀ (rs : List (List Str)) {found : List (List Str)}, found.Nodup → (rs.foldl begRow found).Nodup
  | [], _, h => h
  | _ :: rs, _, h => begAll_nodup' rs (begRow_eq _ _ ▸ begPart_nodup h _)
theorem begAll_perm {R S : List (List Str)} (h : R.Perm S) : (begAll R).length = (begAll S).length := by
  refine (((List.perm_ext_iff_of_nodup (begAll_nodup' R .nil) (begAll_nodup' S .nil)).mpr fun q => ?_)).length_eq
  rw [begAll_mem', begAll_mem']
  simp only [h.mem_iff]
/-- the counts, row by row -/
theorem begPart_length {row : List Str} {found : List (List Str)} {c : Nat} (hc : ∀ k, k < row.length → (row.take (k + 1) ∈ found ↔ k + 1 ≤ c)) : ∀ m, m ≤ row.length → (begPart row found m).length = found.length + (m - c)
  | 0, _ => by simp [begPart]
  | m + 1, h => by
    have ih := begPart_length hc m (by omega)
    rw [begPart_succ]
    have hm : row.take (m + 1) ∈ begPart row found m ↔ m + 1 ≤ c := by
      rw [begPart_mem, hc m (by omega)]
      constructor
      · rintro (h | ⟨k, hk, e⟩)
        · exact h
        · have := congrArg List.length e
          rw [List.length_take, List.length_take] at this
          omega
      · exact .inl
    unfold addBeg
    by_cases q : m + 1 ≤ c
    · rw [if_pos (hm.mpr q), ih]; omega
    · rw [if_neg (fun z => q (hm.mp z)), List.length_append, ih, List.length_singleton]; omega
theorem take_eq_lcp {a b : List Str} {k : Nat} (h : k ≤ b.length) : (∃ m, m < a.length ∧ b.take (k) = a.take (m + 1)) → k ≤ lcp a b := by
  rintro ⟨m, hm, e⟩
  have hk : k = m + 1 := by
    have := congrArg List.length e
    rw [List.length_take, List.length_take] at this
    omega
  subst hk
  exact (take_pre a b (m + 1) (by omega)).mp (e ▸ List.take_prefix _ _)
theorem lcp_take {a b : List Str} {k : Nat} (h : k ≤ lcp a b) : b.take k = a.take k := by
  have h1 := lcp_le a b
  have h2 := (take_pre a b k (by omega)).mpr h
  have h3 := List.prefix_iff_eq_take.mp h2
  have h4 := lcp_le' a b
  rw [List.length_take] at h3
  rw [h3, show min k a.length = k by omega]
theorem wsum_count : ∀ (rs : List (List Str)) (prev : List Str) (found : List (List Str)), (prev :: rs).Pairwise (fun a b => lexLt b a = false) →
    (∀ r, lexLt r prev = false → ∀ k, k < r.length → (r.take (k + 1) ∈ found ↔ k + 1 ≤ lcp prev r)) → (rs.foldl begRow found).length = found.length + wsum prev rs
  | [], prev, found, _, _ => by simp [wsum]
  | r :: rs, prev, found, hs, hf => by
    rw [List.pairwise_cons] at hs
    have hpr := hs.1 r (.head _)
    have hl := begPart_length (hf r hpr) r.length (Nat.le_refl _)
    rw [List.foldl_cons, wsum_count rs r (begRow found r) hs.2 ?_, begRow_eq, hl]
    · simp only [wsum]; omega
    · intro r' hr' k hk
      rw [begRow_eq, begPart_mem]
      constructor
      · rintro (h | h)
        · have h1 : lexLt r' prev = false := KeyOrd.kle_trans (O := rowOrd) (a := prev) (b := r) (c := r') hpr hr'
          have := (hf r' h1 k hk).mp h
          exact Nat.le_trans this (sandwich prev r r' hpr hr')
        · exact take_eq_lcp hk h
      · intro h
        have h1 := lcp_le r r'
        exact .inr ⟨k, by omega, lcp_take h⟩
theorem written_all {rs : List (List Str)} (hs : rs.Pairwise (fun a b => lexLt b a = false)) : wsum [] rs = (begAll rs).length := by
  have := wsum_count rs [] [] (.cons (fun r _ => by cases r <;> rfl) hs) (fun r _ k hk => by simp [lcp])
  simpa [begAll] using this.symm
end Mine
end
section
set_option Elab.async false
set_option maxRecDepth 100000
namespace Mine
open PySem PySem.W PySem.Calls PyProof.Rows
section
variable {prog : Program} {w : World} {A : Around} {E : Value → Shared → Prop} {s : Shared} {h₀ : Heap} {L : Addr} {m : Str → Option Value} {news : List (Addr × Obj)}
theorem row_key {v u : Value} {xs ys : List Str} {Q : Bool → Shared → Prop} (N : News h₀ L s.heap news) (hv : RowAt news v xs) (hw : RowAt news u ys) (hu : A.units < cLine) (h : Q (lexLt xs ys) s) :
    wpAny (model prog w) A (keyLt' oneType' v u) Q E s := by
  obtain ⟨a, vs, n, rfl, ha, hx⟩ := hv
  obtain ⟨b, us, k, rfl, hb, hy⟩ := hw
  rw [keyLt'_oneType, oneLt'_eq]
  simp only [if_true]
  refine wpAny_bind (wpAny_cRoomFor hu ?_)
  refine wpAny_bind (wpAny_callSpecialIfBound?_slot (T := "list") ⟨_, (N _ ha).1, rfl⟩ F.slot_list_lt (call_meets F.slot_list_lt ⟨_, (N _ ha).1, rfl⟩ F.entry_list_lt (F.args_list_lt_2 _ _) (list_lt a b vs us xs ys hx hy n k none none #[] #[]) ⟨(N _ ha).1, (N _ hb).1, ?_⟩))
  exact wpAny_truthy_bool h
theorem looks_row {v : Value} {xs : List Str} {h : Heap} (N : News h₀ L h news) (hv : RowAt news v xs) : Looks (model prog w) h (typeOf v) (.type "list") := by
  obtain ⟨a, vs, n, rfl, ha, hx⟩ := hv
  exact show Looks (model prog w) h (typeOf (.ref a)) (listOf vs.toArray n).cls from (Looks.ld (N _ ha).1).andThen .now
theorem sorted_rows {l : Addr} {vs : List Value} {n : Nat} {key : Value → List Str} {Q : Value → Shared → Prop} (F : Fr h₀ L s.heap m) (N : News h₀ L s.heap news) (hl : (l, listOf vs.toArray n) ∈ news) (hr : ∀ v ∈ vs, RowAt news v (key v)) (h2 : 2 ≤ vs.length) (h64 : vs.length < 64) (hu : A.in1.in1.units < cLine)
    (h : ∀ (D : Addr) (out : List Value) (c : Nat) (h' : Heap), Fr h₀ L h' m → News h₀ L h' ((D, listOf out.toArray c) :: news) → (∀ q ∈ news, q.1 < D) → out.Perm vs → (out.map key).Pairwise (fun a b => lexLt b a = false) → Q (.ref D) { s with heap := h' }) :
    wpAny (model prog w) A (call (.builtin "sorted") [.ref l]) Q E s := by
  have hget : ∀ i, i < vs.length → vs.getD i Value.none ∈ vs := fun i hi => by
    have : vs.getD i Value.none = vs[i] := by simp [hi]
    rw [this]; exact List.getElem_mem hi
  refine kas_sorted (T := .type "list") F N (PySem.IsL.isList (n := n) (N _ hl).1) h2 h64 (fun h' _ N' v hv => looks_row N' (hr v hv)) (by decide) fun D e1 h' F' N' lt => ?_
  refine Ok.wp (n := vs.length) (lt := sLt (O := rowOrd) (fun i => key (vs.getD i Value.none))) (P := fun p => Pm vs.length p ∧ SrtTo (O := rowOrd) (fun i => key (vs.getD i Value.none)) p vs.length) ?_ ?_ (ok_sort (by omega))
  · intro i j C hi hj hC
    exact row_key (news := news) (fun p hp => N' p (.tail _ hp)) (hr _ (hget i hi)) (hr _ (hget j hj)) hu hC
  · rintro p ⟨hp, hs⟩
    refine KasFin.intro F' N' (.head fun q hq => Nat.ne_of_lt (lt q hq)) fun h'' c F'' N'' => h D _ c h'' F'' N'' lt ?_ ?_
    · have := (Array.perm_iff_toList_perm.mp hp).map (fun i => vs.getD i Value.none)
      refine this.trans (List.Perm.of_eq ?_)
      apply List.ext_getElem
      · simp
      · intro i h1 h2
        simp at h1
        simp [h1]
    · rw [List.map_map, List.pairwise_map, List.pairwise_iff_getElem]
      intro i j hi hj hij
      have hsz := hp.size
      have hi' : i < p.size := by simpa using hi
      have hj' : j < p.size := by simpa using hj
      have := hs i j (by omega) (by omega)
      simp only [sK, Array.getD, hi', hj', dif_pos] at this
      have h3 : lexLt (key (vs.getD p[j] Value.none)) (key (vs.getD p[i] Value.none)) = false := this
      simpa using h3
theorem len_more {H : Addr} {its : List Value} {n : Nat} {Q : Value → Shared → Prop} (N : News h₀ L s.heap news) (hm : (H, listOf its.toArray n) ∈ news) (hl : its.length < 1000) (h : Q (.int (its.length : Nat) (s.toks + 1)) { s with toks := s.toks + 1 + 1 }) :
    wpAny (model prog w) A (call (.builtin "len") [.ref H]) Q E s :=
  PyProof.Rows.len_list (PySem.IsL.isList (n := n) (N _ hm).1) (by simp; omega) (by simpa using h)
end
end Mine
end
section
set_option Elab.async false
set_option maxRecDepth 100000
namespace Mine
open PySem PySem.W PySem.Calls PyProof.Rows
def rowD (r : List Str) : PyData := .list (r.map PyData.str)
theorem reads_append {h : Heap} : ∀ {vs us : List Value} {ds es : List PyData} {as bs : List Addr}, ReadsAll h vs ds as → ReadsAll h us es bs → ∃ cs, ReadsAll h (vs ++ us) (ds ++ es) cs
  | [], _, _, _, _, _, .nil, h2 => ⟨_, h2⟩
  | _ :: _, _, _, _, _, _, .cons g t, h2 => let ⟨_, q⟩ := reads_append t h2; ⟨_, .cons g q⟩
theorem reads_strs {h : Heap} : ∀ {vs : List Value} {xs : List Str}, StrsAre vs xs → ∃ as, ReadsAll h vs (xs.map PyData.str) as
  | _, _, .nil => ⟨_, .nil⟩
  | _, _, .cons x t r => let ⟨_, q⟩ := reads_strs (h := h) r; ⟨_, .cons (.str x t) q⟩
theorem reads_row {h₀ h : Heap} {L : Addr} {l : List (Addr × Obj)} {v : Value} {r : List Str} (N : News h₀ L h l) (hv : RowAt l v r) : ∃ as, Reads h v (rowD r) as := by
  obtain ⟨a, vs, n, rfl, hm, hx⟩ := hv
  obtain ⟨as, q⟩ := reads_strs (h := h) hx
  exact ⟨_, .list (vs := vs.toArray) (N _ hm).1 rfl rfl (by simpa using q)⟩
theorem reads_rows {h₀ h : Heap} {L : Addr} {l : List (Addr × Obj)} (N : News h₀ L h l) : ∀ {vs : List Value} {rs : List (List Str)}, RowsAre l vs rs → ∃ as, ReadsAll h vs (rs.map rowD) as
  | _, _, .nil => ⟨_, .nil⟩
  | _, _, .cons g t => let ⟨_, q⟩ := reads_row N g; let ⟨_, q'⟩ := reads_rows N t; ⟨_, .cons q q'⟩
theorem reads_nones (h : Heap) : ∀ n, ∃ as, ReadsAll h (List.replicate n Value.none) (List.replicate n PyData.none) as
  | 0 => ⟨_, .nil⟩
  | n + 1 => let ⟨_, q⟩ := reads_nones h n; ⟨_, .cons .none q⟩
theorem reads_zeros (h : Heap) : ∀ (zs : List Value), (∀ z ∈ zs, ∃ t, z = .int 0 t) → ∃ as, ReadsAll h zs (List.replicate zs.length (PyData.int 0)) as
  | [], _ => ⟨_, .nil⟩
  | z :: zs, hz => by
    obtain ⟨t, rfl⟩ := hz z (.head _)
    obtain ⟨as, q⟩ := reads_zeros h zs fun y hy => hz y (.tail _ hy)
    exact ⟨_, .cons (.int 0 t) q⟩
/-- what both lists read as -/
def finD (n k : Nat) (rs : List (List Str)) (W : Int) : PyData := .list (List.replicate n PyData.none ++ List.replicate k (PyData.int 0) ++ [.tuple [.list [], .list (rs.map rowD), .int W]])
theorem canLayAll_append : ∀ (xs ys : List PyData), PyData.canLayAll0 (xs ++ ys) = (PyData.canLayAll0 xs && PyData.canLayAll0 ys)
  | [], ys => by simp [PyData.canLayAll0]
  | x :: xs, ys => by simp [PyData.canLayAll0, canLayAll_append xs ys, Bool.and_assoc]
theorem depthAll_append : ∀ (xs ys : List PyData), PyData.depthAll (xs ++ ys) = max (PyData.depthAll xs) (PyData.depthAll ys)
  | [], ys => by simp [PyData.depthAll]
  | x :: xs, ys => by simp [PyData.depthAll, depthAll_append xs ys, Nat.max_assoc]
theorem canLayAll_rep (d : PyData) (hd : d.canLay0 = true) : ∀ n, PyData.canLayAll0 (List.replicate n d) = true
  | 0 => rfl
  | n + 1 => by simp [List.replicate_succ, PyData.canLayAll0, hd, canLayAll_rep d hd n]
theorem depthAll_rep (d : PyData) (hd : d.depth = 0) : ∀ n, PyData.depthAll (List.replicate n d) = 0
  | 0 => rfl
  | n + 1 => by simp [List.replicate_succ, PyData.depthAll, hd, depthAll_rep d hd n]
theorem canLay_strs : ∀ (xs : List Str), (∀ x ∈ xs, x = part 0 ∨ x = part 1 ∨ x = part 2) → PyData.canLayAll0 (xs.map PyData.str) = true
  | [], _ => rfl
  | x :: xs, h => by
    have h1 := canLay_strs xs fun y hy => h y (.tail _ hy)
    have h2 : (PyData.str x).canLay0 = true := by
      rcases h x (.head _) with rfl | rfl | rfl <;> (simp only [PyData.canLay0]; decide +kernel)
    simp only [List.map_cons, PyData.canLayAll0, h1, h2, Bool.and_self]
theorem depth_strs : ∀ (xs : List Str), PyData.depthAll (xs.map PyData.str) = 0
  | [] => rfl
  | x :: xs => by simp [PyData.depthAll, PyData.depth, depth_strs xs]
theorem canLay_rows : ∀ (rs : List (List Str)), (∀ r ∈ rs, PartRow r) → PyData.canLayAll0 (rs.map rowD) = true
  | [], _ => rfl
  | r :: rs, h => by
    have h1 := canLay_rows rs fun y hy => h y (.tail _ hy)
    have h2 := canLay_strs r (h r (.head _)).2
    simp only [List.map_cons, PyData.canLayAll0, rowD, PyData.canLay0, h2, Bool.true_and]
    exact h1
theorem depth_rows : ∀ (rs : List (List Str)), PyData.depthAll (rs.map rowD) ≤ 1
  | [] => by simp [PyData.depthAll]
  | r :: rs => by
    have h1 := depth_rows rs
    have h2 := depth_strs r
    simp only [List.map_cons, PyData.depthAll, rowD, PyData.depth, h2]
    have e : PyData.depthAll (rs.map fun r => PyData.list (r.map PyData.str)) ≤ 1 := h1
    first | omega | (simp; omega)
theorem finD_shaped (n k : Nat) (rs : List (List Str)) (W : Int) (h : ∀ r ∈ rs, PartRow r) : SeqAt.shaped (finD n k rs W) = true := by
  have h1 := canLay_rows rs h
  have h2 := depth_rows rs
  simp only [SeqAt.shaped, finD, PyData.canLay0, PyData.depth, canLayAll_append, depthAll_append, canLayAll_rep _ (show PyData.none.canLay0 = true from rfl), canLayAll_rep _ (show (PyData.int 0).canLay0 = true from rfl), depthAll_rep _ (show PyData.none.depth = 0 from rfl), depthAll_rep _ (show (PyData.int 0).depth = 0 from rfl), PyData.canLayAll0, PyData.depthAll, h1, Bool.and_self, Bool.true_and, decide_eq_true_eq]
  omega
section
variable {prog : Program} {w : World} {A : Around} {E : Value → Shared → Prop} {s : Shared}
theorem fin_eq {a b : Value} {n k : Nat} {rs : List (List Str)} {W : Int} {as bs : List Addr} {Q : Value → Shared → Prop} (ra : Reads s.heap a (finD n k rs W) as) (rb : Reads s.heap b (finD n k rs W) bs) (h : ∀ r ∈ rs, PartRow r) (hu : A.units + 64 < cLine) (hq : Q (.bool true) s) :
    wpAny (model prog w) A (compareOp .Eq a b) Q E s := by
  have hs := finD_shaped n k rs W h
  have e : PyData.eqv (finD n k rs W) (finD n k rs W) = true := SeqAt.eqv_refl _ (SeqAt.canLay_of_shaped hs)
  exact SeqAt.compareEq_shaped ra rb hs hs hu (by rw [e]; exact hq)
end
end Mine
end
section
open PySem PySem.W PyProof.Rows
set_option Elab.async false
set_option maxRecDepth 100000
set_option maxHeartbeats 8000000
namespace Mine
local macro_rules | `(tactic| walk_at "pyIter ref") => `(tactic| refine atStop ?_)
local macro_rules | `(tactic| walk_at "call ref") => `(tactic| refine atStop ?_)
local macro_rules | `(tactic| walk_at "eval ListComp") => `(tactic| (k_here; k_dflt (refine LCg.ListComp_U (F₀ := by k_asm) (by with_unfolding_all rfl) (by decide) (by rfl) (by decide) (by rfl) ?_)))
local macro_rules | `(tactic| walk_at "CompSrc") => `(tactic| refine atStop ?_)
local macro_rules | `(tactic| walk_at "binaryOp Add ref ref") => `(tactic| refine atStop ?_)
local macro_rules | `(tactic| walk_at "compareOp Eq ref ref") => `(tactic| refine atStop ?_)
local macro_rules | `(tactic| walk_at "call builtin:sorted") => `(tactic| refine atStop ?_)
local macro_rules | `(tactic| ktr_unf) => `(tactic| repeat' (first | (k_unfold; (try dsimp only)) | (walk1; (try dsimp only)) | (dsimp only; walk1)))
theorem law_4 (w : World) (base h₀ : Heap) (L fa : Addr) (cdv : Value) (s : Shared) (mean : ExcName → Option Value) (mg mb : Str → Option Value) (Dr : Addr) (ys hp0 : List Value) (nr th n0 : Nat) (H TT Bk : Addr) (rl : List (Addr × Obj)) (key : Value → List Str) (c : St3) (u : Str → Option Value) (Q : Flow → Shared → Prop)
    (B : Below callerA base [] h₀) (X : (hd.heap_39 w.params).In h₀) (T : Top hd.view_39 (looseW hd.view_39 []) mean mg mb h₀)
    (F : Fr h₀ L s.heap (fun z => if z = Str.ofString "written" then some (.int (wsum [] (c.out.map key) : Nat) c.wt) else if z = Str.ofString "back" then some (.ref Bk) else if z = Str.ofString "told" then some (.ref TT) else if z = Str.ofString "heap" then some (.ref H) else if z = Str.ofString "half" then some (.int (ys.length / 2 : Nat) th) else if z = Str.ofString "rows" then some (.ref Dr) else u z))
    (N : News h₀ L s.heap ((H, listOf c.hp.toArray c.nh) :: (TT, listOf c.tv.toArray c.nt) :: (Bk, listOf c.bs.toArray c.nb) :: c.ex))
    (I3 : Inv3 key ys hp0 ((Dr, listOf ys.toArray nr) :: rl) H TT Bk n0 ys.length c) (hHT : H < TT) (hTB : TT < Bk)
    (hkey : ∀ v ∈ ys, RowAt rl v (key v)) (hrow : ∀ v ∈ ys, PartRow (key v)) (hn : ys.length < 20) (hn2 : 2 ≤ ys.length) (hn0 : n0 = 1 + (ys.length - ys.length / 2))
    (hpm : (popAll (fun a b => lexLt (key a) (key b)) ys.length hp0).Perm ys) (hps : (popAll (fun a b => lexLt (key a) (key b)) ys.length hp0).Pairwise (fun a b => lexLt (key b) (key a) = false))
    (rest : ∀ (h' : Heap) (tk : Nat) (m' : Str → Option Value), Fr h₀ L h' m' → Q (.ret (.bool true)) { s with heap := h', toks := tk }) :
    wpAny (model PySem.Challenge.rw_ny0102_01.row.prog w) (callerA.deeper (lawEnv L fa cdv)) (execs (lawFd.1.drop 9) (lawEnv L fa cdv)) Q (fun _ _ => False) s := by
  obtain ⟨hp, nh1, tv, nt1, bs, nb1, wt, av, ex, out⟩ := c
  obtain ⟨hlen, hsub, holen, hosub, hpops, ⟨zs, htv, hzl, hzs⟩, hback, hahead, hbase, hoff⟩ := I3
  dsimp only at hlen hsub holen hosub hpops htv hback hahead hbase hoff F N
  rw [Nat.sub_self] at hlen hpops
  obtain rfl := List.length_eq_zero_iff.mp hlen
  have N' : News h₀ L s.heap ((TT, listOf tv.toArray nt1) :: (H, listOf #[] nh1) :: (Bk, listOf bs.toArray nb1) :: ex) := by
    intro p hp
    refine N p ?_
    rcases List.mem_cons.mp hp with rfl | hp
    · exact .tail _ (.head _)
    · rcases List.mem_cons.mp hp with rfl | hp
      · exact .head _
      · exact .tail _ (.tail _ hp)
  clear N
  revert X
  k_fill
  intro X
  unfold lawEnv
  with_unfolding_all (conv in (execs _ _) => arg 1; whnf)
  with_unfolding_all (conv in (occs := *) lawFd.2 => all_goals whnf)
  ktr_unf
  rename Fr _ _ _ _ => F1
  rename News _ _ _ _ => N1
  rename_i Tp h1 l1
  have N2 : News h₀ L h1 ((TT, listOf tv.toArray nt1) :: (Tp, { cls := Value.type "tuple", data := Data.seq #[Value.ref H, Value.ref Bk, Value.int (wsum [] (out.map key) : Nat) wt] }) :: (H, listOf #[] nh1) :: (Bk, listOf bs.toArray nb1) :: ex) := by
    intro p hp
    refine N1 p ?_
    rcases List.mem_cons.mp hp with rfl | hp
    · exact .tail _ (.head _)
    · rcases List.mem_cons.mp hp with rfl | hp
      · exact .head _
      · exact .tail _ (.tail _ hp)
  have hofT : ∀ p ∈ (Tp, ({ cls := Value.type "tuple", data := Data.seq #[Value.ref H, Value.ref Bk, Value.int (wsum [] (out.map key) : Nat) wt] } : Obj)) :: (H, listOf #[] nh1) :: (Bk, listOf bs.toArray nb1) :: ex, p.1 ≠ TT := by
    intro p hp
    rcases List.mem_cons.mp hp with rfl | hp
    · exact Nat.ne_of_gt l1.1
    · rcases List.mem_cons.mp hp with rfl | hp
      · exact Nat.ne_of_lt hHT
      · rcases List.mem_cons.mp hp with rfl | hp
        · exact Nat.ne_of_gt hTB
        · exact (hoff p hp).2.1
  clear N1
  with_unfolding_all refine append_any F1 N2 hofT (by rw [htv]; simp; omega) ?_
  intro h3 n3 F3 N3
  obtain ⟨LL, hLL⟩ : ∃ LL, LL = (TT, listOf (tv ++ [Value.ref Tp]).toArray n3) :: (Tp, { cls := Value.type "tuple", data := Data.seq #[Value.ref H, Value.ref Bk, Value.int (wsum [] (out.map key) : Nat) wt] }) :: (H, listOf #[] nh1) :: (Bk, listOf bs.toArray nb1) :: ex := ⟨_, rfl⟩
  rw [← hLL] at N3
  have hDr : (Dr, listOf ys.toArray nr) ∈ LL := by rw [hLL]; exact .tail _ (.tail _ (.tail _ (.tail _ (hbase _ (.head _)))))
  ktr_unf
  rename Fr _ _ _ _ => F4
  rename News _ _ _ _ => N4
  rename_i E1 _ l4a E2 h4 l4b
  with_unfolding_all refine slice_from (s := ⟨h4, _, _, _, _⟩) F4 N4 (.tail _ (.tail _ hDr)) (by omega) ?_
  intro S1 h5 F5 N5 l5
  ktr_unf
  unfold AtStop
  rename Fr _ _ _ _ => F6
  rename News _ _ _ _ => N6
  with_unfolding_all refine add_arrays F6 N6 (PySem.IsL.isList (n := 0) (N6 _ (.tail _ (.head _))).1) (PySem.IsL.isList (n := 0) (N6 _ (.head _)).1) ?_ (by rw [PySem.sizeLine_eq]; simp; omega)
  intro h7 F7 N7
  have l7 : ∀ p ∈ LL, p.1 < h5.objs.size := fun p hp => Heap.lt_size (N6 p (.tail _ (.tail _ (.tail _ hp)))).1
  replace N7 : News h₀ L h7 ((h5.objs.size, listOf (Value.ref E1 :: ys.drop (ys.length / 2)).toArray 0) :: LL) := by
    intro p hp
    rcases List.mem_cons.mp hp with rfl | hp
    · exact N7 _ (.head _)
    · exact N7 p (.tail _ (.tail _ (.tail _ (.tail _ hp))))
  clear N6
  generalize h5.objs.size = M1 at *
  ktr_unf
  unfold AtStop
  have hdl : (Value.ref E1 :: ys.drop (ys.length / 2)).length = 1 + (ys.length - ys.length / 2) := by simp; omega
  with_unfolding_all refine LCg.CompSrc.ledger (its := (Value.ref E1 :: ys.drop (ys.length / 2)).toArray) (k := 0) rfl F7 N7 (.head _) (by rw [PySem.sizeLine_eq, List.size_toArray]; omega) ?_
  intro gg
  refine comp_inv (fun i zs news' => news' = (M1, listOf (Value.ref E1 :: ys.drop (ys.length / 2)).toArray 0) :: LL ∧ zs = List.replicate i Value.none) _ ?_ ?_ _ 0 _ _ rfl (Nat.zero_le _) ⟨rfl, rfl⟩
  · rintro i zs news' v I oI C oC D m₂ h2 tk2 E' hi ⟨rfl, rfl⟩ hP hC hx2 F2 N2 off ne
    dsimp only
    ktr_unf
    exact LCg.CompEnd.intro F2 N2 _ (fun p hp => hp) off (.inr ⟨listOf (Value.ref E1 :: ys.drop (ys.length / 2)).toArray 0, .head _, rfl, 0, rfl⟩) ⟨rfl, List.replicate_succ'.symm⟩
  · rintro ys8 news' ⟨rfl, e8⟩
    intro D8 h8 tk8 F8 N8 off8
    dsimp only
    have e8' : (Value.ref E1 :: ys.drop (ys.length / 2)).toArray.toList.length = n0 := by rw [List.toList_toArray, hdl, hn0]
    replace e8 : ys8 = List.replicate n0 Value.none := e8.trans (congrArg (fun k => List.replicate k Value.none) e8')
    replace N8 : News h₀ L h8 ((D8, listOf ys8.toArray ys8.length) :: LL) := by
      intro p hp
      rcases List.mem_cons.mp hp with rfl | hp
      · exact N8 _ (.head _)
      · exact N8 p (.tail _ (.tail _ hp))
    have hyl : ys8.length = n0 := by rw [e8]; simp
    ktr_unf
    unfold AtStop
    with_unfolding_all refine LCg.CompSrc.ledger (its := ys.toArray) (k := nr) rfl F8 N8 (.tail _ hDr) (by rw [PySem.sizeLine_eq, List.size_toArray]; omega) ?_
    intro gg2
    refine comp_inv (fun i zs news' => news' = (D8, listOf ys8.toArray ys8.length) :: LL ∧ zs.length = i ∧ ∀ z ∈ zs, ∃ t, z = .int 0 t) _ ?_ ?_ _ 0 _ _ rfl (Nat.zero_le _) ⟨rfl, rfl, fun _ h => nomatch h⟩
    · rintro i zs' news' v I oI C oC D m₂ h2 tk2 E' hi ⟨rfl, hzl', hzs'⟩ hP hC hx2 F2 N2 off ne
      dsimp only
      ktr_unf
      rename Fr _ _ _ _ => F2
      rename News _ _ _ _ => N2
      refine LCg.CompEnd.intro F2 N2 _ (fun p hp => hp) off (.inr ⟨listOf ys.toArray nr, .tail _ hDr, rfl, nr, rfl⟩) ⟨rfl, by simp [hzl'], fun z hz => ?_⟩
      rcases List.mem_append.mp hz with q | q
      · exact hzs' z q
      · exact ⟨_, List.mem_singleton.mp q⟩
    · rintro ys9 news' ⟨rfl, hzl9, hzs9⟩
      intro D9 h9 tk9 F9 N9 off9
      dsimp only
      replace hzl9 : ys9.length = ys.length := hzl9.trans (by simp)
      ktr_unf
      unfold AtStop
      with_unfolding_all refine add_arrays F9 N9 (PySem.IsL.isList (n := ys8.length) (N9 _ (.tail _ (.head _))).1) (PySem.IsL.isList (n := ys9.length) (N9 _ (.head _)).1) ?_ (by rw [PySem.sizeLine_eq]; simp; omega)
      intro h10 F10 N10
      have l10 : ∀ p ∈ LL, p.1 < h9.objs.size := fun p hp => Heap.lt_size (N9 p (.tail _ (.tail _ hp))).1
      replace N10 : News h₀ L h10 ((h9.objs.size, listOf (ys8 ++ ys9).toArray 0) :: LL) := by
        intro p hp
        rcases List.mem_cons.mp hp with rfl | hp
        · exact N10 _ (.head _)
        · exact N10 p (.tail _ (.tail _ (.tail _ hp)))
      clear N9
      generalize h9.objs.size = Du at *
      ktr_unf
      unfold AtStop
      rename Fr _ _ _ _ => F11
      rename News _ _ _ _ => N11
      rename_i Em _ l11
      have hrLL : ∀ v ∈ ys, RowAt LL v (key v) := fun v hv => (hkey v hv).mono fun p hp => by rw [hLL]; exact .tail _ (.tail _ (.tail _ (.tail _ (hbase _ (.tail _ hp)))))
      with_unfolding_all refine sorted_rows (key := key) F11 N11 (.tail _ (.tail _ hDr)) (fun v hv => (hrLL v hv).cons.cons) hn2 (by omega) (Nat.lt_of_le_of_lt (m := 100) (Nat.le_of_ble_eq_true rfl) (by decide)) ?_
      intro Srt so cs h12 F12 N12 l12 hperm hpw
      ktr_unf
      unfold AtStop
      rename Fr _ _ _ _ => F12
      rename News _ _ _ _ => N12
      with_unfolding_all refine Does.use (begin_ w key Dr ys nr _ (.tail _ (.tail _ (.tail _ hDr))) (fun v hv => (hrLL v hv).cons.cons.cons) (by omega) (fun v hv => (hrow v hv).1)) B F12 X N12 T rfl (by decide) (by decide) ?_
      rintro r news13 h13 tk13 F13 N13 ⟨hs13, Fd, fs, n13, rfl, hFd, hfl, hf1000⟩
      ktr_unf
      with_unfolding_all refine len_more N13 hFd hf1000 ?_
      have hEmDu : Du < Em := l11.1
      have hSD : Du < Srt := l12 _ (.tail _ (.head _))
      have N14 : News h₀ L h13 ((Du, listOf (ys8 ++ ys9).toArray 0) :: (Srt, listOf so.toArray cs) :: (Em, listOf #[] 0) :: LL) := by
        intro p hp
        refine N13 p (hs13 p ?_)
        rcases List.mem_cons.mp hp with rfl | hp
        · exact .tail _ (.tail _ (.head _))
        · rcases List.mem_cons.mp hp with rfl | hp
          · exact .head _
          · rcases List.mem_cons.mp hp with rfl | hp
            · exact .tail _ (.head _)
            · exact .tail _ (.tail _ (.tail _ hp))
      clear N13 hs13 hFd
      ktr_unf
      rename Fr _ _ _ _ => F15
      rename News _ _ _ _ => N15
      rename_i Tq _ l15 h15
      unfold AtStop
      have hmem : ∀ p ∈ LL, h15.get? p.1 = some p.2 := fun p hp => (N15 p (.tail _ (.tail _ (.tail _ (.tail _ hp))))).1
      have NL : News h₀ L h15 LL := fun p hp => N15 p (.tail _ (.tail _ (.tail _ (.tail _ hp))))
      have hout : out = popAll (fun a b => lexLt (key a) (key b)) ys.length hp0 := by rw [← hpops]; simp [popAll]
      rw [← hout] at hpm hps
      have hS : so.map key = out.map key := by
        refine List.Perm.eq_of_pairwise (le := fun a b => lexLt b a = false) (fun a b _ _ h1 h2 => KeyOrd.kle_antisymm (O := rowOrd) h1 h2) hpw ?_ ((hperm.trans hpm.symm).map key)
        rw [List.pairwise_map]
        exact hps
      have hpwo : (out.map key).Pairwise (fun a b => lexLt b a = false) := hS ▸ hpw
      have hW : fs.length = wsum [] (out.map key) := by
        rw [hfl, written_all hpwo]
        exact begAll_perm ((hpm.map key).symm)
      have hprs : ∀ r ∈ out.map key, PartRow r := fun r hr => by
        obtain ⟨v, hv, rfl⟩ := List.mem_map.mp hr
        exact hrow v (hosub v hv)
      have hexLL : ∀ p ∈ ex, p ∈ LL := fun p hp => by rw [hLL]; exact .tail _ (.tail _ (.tail _ (.tail _ hp)))
      obtain ⟨as1, r1⟩ := reads_rows NL (hback.mono hexLL)
      have hrows : ∀ (l : List Value), (∀ v ∈ l, v ∈ ys) → RowsAre LL l (l.map key) := by
        intro l
        induction l with
        | nil => intro _; exact .nil
        | cons v l ih => intro hv; exact .cons (hrLL v (hv v (.head _))) (ih fun x hx => hv x (.tail _ hx))
      obtain ⟨as2, r2⟩ := reads_rows NL (hrows so fun v hv => hperm.mem_iff.mp hv)
      rw [hS] at r2
      have q1 : Reads h15 (.ref Tp) (.tuple [.list [], .list ((out.map key).map rowD), .int (wsum [] (out.map key) : Nat)]) _ :=
        .tuple (vs := #[Value.ref H, Value.ref Bk, Value.int (wsum [] (out.map key) : Nat) wt]) (hmem (Tp, _) (by rw [hLL]; exact .tail _ (.head _))) rfl rfl
          (.cons (.list (vs := #[]) (hmem (H, _) (by rw [hLL]; exact .tail _ (.tail _ (.head _)))) rfl rfl .nil) (.cons (.list (vs := bs.toArray) (hmem (Bk, _) (by rw [hLL]; exact .tail _ (.tail _ (.tail _ (.head _))))) rfl rfl (by simpa using r1)) (.cons (.int _ _) .nil)))
      have q2 : Reads h15 (.ref Tq) (.tuple [.list [], .list ((out.map key).map rowD), .int (wsum [] (out.map key) : Nat)]) _ :=
        .tuple (vs := #[Value.ref Em, Value.ref Srt, Value.int (fs.length : Nat) (tk13 + 1)]) (N15 _ (.head _)).1 rfl rfl
          (.cons (.list (vs := #[]) (N15 _ (.tail _ (.tail _ (.tail _ (.head _))))).1 rfl rfl .nil) (.cons (.list (vs := so.toArray) (N15 _ (.tail _ (.tail _ (.head _)))).1 rfl rfl (by simpa using r2)) (.cons (by rw [hW]; exact .int _ _) .nil)))
      obtain ⟨_, n1⟩ := reads_nones h15 n0
      obtain ⟨_, z1⟩ := reads_zeros h15 zs hzs
      obtain ⟨_, z2⟩ := reads_zeros h15 ys9 hzs9
      rw [hzl] at z1
      rw [hzl9] at z2
      obtain ⟨_, a1⟩ := reads_append n1 z1
      obtain ⟨_, b1⟩ := reads_append n1 z2
      obtain ⟨_, a2⟩ := reads_append a1 (.cons q1 .nil)
      obtain ⟨_, b2⟩ := reads_append b1 (.cons q2 .nil)
      have A3 : Reads h15 (.ref TT) (finD n0 ys.length (out.map key) (wsum [] (out.map key) : Nat)) _ := .list (vs := (tv ++ [Value.ref Tp]).toArray) (hmem (TT, _) (by rw [hLL]; exact .head _)) rfl rfl (by rw [List.toList_toArray, htv]; exact a2)
      have B3 : Reads h15 (.ref Du) (finD n0 ys.length (out.map key) (wsum [] (out.map key) : Nat)) _ := .list (vs := (ys8 ++ ys9).toArray.push (Value.ref Tq)) (N15 _ (.tail _ (.head _))).1 rfl rfl (by rw [Array.toList_push, List.toList_toArray, e8]; exact b2)
      with_unfolding_all refine fin_eq A3 B3 hprs (Nat.lt_of_le_of_lt (m := 200) (Nat.le_of_ble_eq_true rfl) (by decide)) ?_
      ktr_unf
      exact rest _ _ _ F15
end Mine
end
section
open PySem PySem.W PyProof.Rows
set_option Elab.async false
set_option maxRecDepth 100000
set_option maxHeartbeats 8000000
namespace Mine
theorem law_all (w : World) (base h₀ : Heap) (L fa : Addr) (cdv : Value) (s : Shared) (mean : ExcName → Option Value) (mg mb : Str → Option Value) (sc : Addr) (vs : List Value) (ns : List Int) (Q : Flow → Shared → Prop) (E : Value → Shared → Prop)
    (B : Below callerA base [] h₀) (X : (hd.heap_39 w.params).In h₀) (T : Top hd.view_39 (looseW hd.view_39 []) mean mg mb h₀) (F : Fr h₀ L s.heap (fun x => List.lookup x [(Str.ofString "script", .ref sc)])) (N : News h₀ L s.heap [])
    (hL : h₀.IsList sc vs.toArray) (hI : IntsAre vs ns) (hlen : ns.length ≤ 63)
    (rest : ∀ (h' : Heap) (tk : Nat) (m' : Str → Option Value), Fr h₀ L h' m' → Q (.ret (.bool true)) { s with heap := h', toks := tk }) :
    wpAny (model PySem.Challenge.rw_ny0102_01.row.prog w) (callerA.deeper (lawEnv L fa cdv)) (execs lawFd.1 (lawEnv L fa cdv)) Q E s := by
  refine wpAny_mono (E := fun _ _ => False) ?_ (fun _ _ h => h) (fun _ _ h => False.elim h)
  refine law_1 w base h₀ L fa cdv s mean mg mb sc vs ns Q _ B X T F N hL hI hlen ?_
  intro h1 tk1 Dr ys nr rl F1 N1 hR hDr
  have hrl : News h₀ L h1 rl := fun p hp => N1 p (.tail _ hp)
  have hlen2 : ys.length = (ns.take 7 ++ [4, 26, 25, 0, 5] : List Int).length := by rw [hR.length]; simp
  have hn : ys.length < 20 := by rw [hlen2]; simp; omega
  have hn2 : 2 ≤ ys.length := by rw [hlen2]; simp
  classical
  let key : Value → List Str := fun v => if h : ∃ r, RowAt rl v r then h.choose else []
  have hkey : ∀ v ∈ ys, RowAt rl v (key v) := by
    intro v hv
    have h := hR.mem hv
    show RowAt rl v (if h : ∃ r, RowAt rl v r then h.choose else [])
    rw [dif_pos h]
    exact h.choose_spec
  have hrow : ∀ v ∈ ys, PartRow (key v) := by
    intro v hv
    have h2 : ∀ {us : List Value} {rs : List (List Str)}, RowsAre rl us rs → v ∈ us → ∃ r ∈ rs, RowAt rl v r := by
      intro us rs h
      induction h with
      | nil => intro h; exact nomatch h
      | cons g t ih =>
        intro h
        rcases List.mem_cons.mp h with rfl | h
        · exact ⟨_, .head _, g⟩
        · obtain ⟨r, hr, q⟩ := ih h
          exact ⟨r, .tail _ hr, q⟩
    obtain ⟨r, hr, q⟩ := h2 hR hv
    rw [rowAt_inj hrl (hkey v hv) q]
    obtain ⟨x, _, rfl⟩ := List.mem_map.mp hr
    exact rowS_part x
  generalize key = key at hkey hrow
  refine law_2 w base h₀ L fa cdv _ mean mg mb sc Dr ys nr rl key Q B X T F1 N1 hkey hn hDr ?_
  intro h2 tk2 H TT nh nt th u F2 N2 lH hHT
  have hsz : (ys.take (ys.length / 2) ++ ys.drop (ys.length / 2)).length = ys.length := by rw [List.take_append_drop]
  have hs := heap_sorts (O := rowOrd) (key := key) (ys.take (ys.length / 2)) (ys.drop (ys.length / 2))
  rw [List.take_append_drop] at hs
  have hpm0 : ((ys.drop (ys.length / 2)).foldl (pushL fun a b => lexLt (key a) (key b)) (heapifyL (fun a b => lexLt (key a) (key b)) (ys.take (ys.length / 2)))).Perm ys := by
    refine (pushes_perm _ _).trans (((heapify_perm _).append_right _).trans ?_)
    rw [List.take_append_drop]
  refine law_3 w base h₀ L fa cdv _ mean mg mb sc Dr ys _ nr nh nt th (1 + (ys.length - ys.length / 2)) H TT rl key u Q B X T F2 N2 lH hHT hkey hrow hn (by omega) hpm0.length_eq (fun v hv => hpm0.mem_iff.mp hv) ?_
  intro h3 tk3 Bk c u3 F3 N3 I3 hTB
  refine law_4 w base h₀ L fa cdv _ mean mg mb Dr ys _ nr th (1 + (ys.length - ys.length / 2)) H TT Bk rl key c u3 Q B X T F3 N3 I3 hHT hTB hkey hrow hn hn2 rfl hs.1 hs.2 ?_
  intro h4 tk4 m4 F4
  exact rest h4 tk4 m4 F4
end Mine
end
open PySem PySem.W PyProof.Rows Mine
set_option maxRecDepth 100000
set_option maxHeartbeats 8000000
theorem PySem.Challenge.cw_ny0102_01_holds : PySem.Challenge.rw_ny0102_01.Holds := by
  exact hd (by
    w_strict (
      k_go0
      (all_goals try k_fold)
      rename Top _ _ _ _ _ _ => T
      rename Below _ _ _ _ => B
      rename Frag.In _ _ => X
      rename Fr _ _ _ _ => F
      rename News _ _ _ _ => N
      rename Heap.IsList _ _ _ => hL
      rename IntsAre _ _ => hI
      rename ¬ _ < _ => hlen
      with_unfolding_all refine law_all _ _ _ _ _ _ _ _ _ _ _ _ _ _ _ B X T F N hL hI (by omega) ?_
      intro h' tk m' F'
      dsimp only
      k_steps
      (all_goals (try k_data))
      all_goals w_report))
