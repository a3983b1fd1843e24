import PyProof.Rows.All
import Wide.All
import OpenK.AllK
import Wide.FinOn
import PySem.Challenge.RW_ij0019_01
open PySem PySem.W PyProof.Rows PySem.Spec PySem.Calls
set_option Elab.async false
set_option pp.maxSteps 20000
set_option pp.deepTerms false
set_option compiler.extract_closed false
namespace Mine
set_option maxRecDepth 100000 in
set_option maxHeartbeats 8000000 in
open_top hd for PySem.Challenge.rw_ij0019_01
/-- codes at which k_steps stops -/
inductive Stop : {α : Type} → Sem α → Prop
  | whl {t b o p e} : Stop (exec (.While t b o p) e)
  | for_ {t i b o p e} : Stop (exec (.For t i b o p) e)
  | ref {a p k} : Stop (PySem.call (.ref a) p k)
  | split {p} : Stop (PySem.call (.builtin "str.split") p)
  | part {p} : Stop (PySem.call (.builtin "str.partition") p)
  | sorted {p} : Stop (PySem.call (.builtin "sorted") p)
  | index {p} : Stop (PySem.call (.builtin "str.index") p)
  | eq {a b} : Stop (compareOp .Eq (.ref a) (.ref b))
  | comp {a b c d e} : Stop (eval (.ListComp a b c d) e)
  | dict {a b c e} : Stop (eval (.Dict a b c) e)
  | iter {a} : Stop (pyIter (.ref a))
  | asg {t a b c d p e} : Stop (exec (.Assign t (.ListComp a b c d) p) e)
theorem srcStop {a b c d e f g h i j k l m n} (x : LCg.CompSrc a b c d e f g h i j k l m n) : LCg.CompSrc a b c d e f g h i j k l m n := x
theorem stopped {α : Type} {M : Model} {A : Around} {E : Value → Shared → Prop} {Q : α → Shared → Prop} {t : Sem α} {s : Shared} (_h : Stop t) (h : wpAny M A t Q E s) : wpAny M A t Q E s := h
theorem gentoks {α : Type} {M : Model} {A : Around} {E : Value → Shared → Prop} {Q : α → Shared → Prop} {t : Sem α} {h : Heap} {g : Array GenState} {d : Drawn} {os : OsState} {X a b c : Nat}
  (H : ∀ tk, wpAny M A t Q E ⟨h, g, d, tk + 1, os⟩) : wpAny M A t Q E ⟨h, g, d, X + a + b + c + 1, os⟩ := H _

def Sp (w : World) (p : Program) (loose : List Str) (mean : ExcName → Option Value) (mg mb : Str → Option Value) (f : Addr) (vs : List Value) (D U : Nat) (news : List (Addr × Obj)) (ret : Value → List (Addr × Obj) → Prop) : Prop :=
  ∀ (dp un : Nat) (gd : Option (List Code)) (cn : Str) (cs : Scope) (a : Addr) (ccd : Value) (cl : List (Str × Addr)) (outer : List Env) (A₀ : Around) (base h₀ : Heap) (L : Addr) (m : Str → Option Value) (s : Shared) (Q E : Value → Shared → Prop),
    Below A₀ base outer h₀ → Fr h₀ L s.heap m → (Mine.hd.heap_39 w.params).In h₀ → News h₀ L s.heap news → Top p loose mean mg mb h₀ → cs.kind = .function →
    dp + D < recursionLimit → un + U < cLine →
    (∀ (v : Value) (news' : List (Addr × Obj)) (h' : Heap) (tk' : Nat), ret v news' → Fr h₀ L h' m → News h₀ L h' news' → Q v { s with heap := h', toks := tk' + 1 }) →
    wpAny (model PySem.Challenge.rw_ij0019_01.row.prog w) (ktrTop dp un gd cn cs L a ccd cl outer) (PySem.call (.ref f) vs) Q E s
theorem Sp.use {w : World} {p : Program} {loose : List Str} {mean : ExcName → Option Value} {mg mb : Str → Option Value} {f : Addr} {vs : List Value} {D U : Nat} {news : List (Addr × Obj)} {ret : Value → List (Addr × Obj) → Prop}
  (C : Sp w p loose mean mg mb f vs D U news ret) {dp un : Nat} {gd : Option (List Code)} {cn : Str} {cs : Scope} {a : Addr} {ccd : Value} {cl : List (Str × Addr)} {outer : List Env} {A₀ : Around} {base h₀ : Heap} {L : Addr} {m : Str → Option Value} {s : Shared} {Q E : Value → Shared → Prop}
  (B : Below A₀ base outer h₀) (F : Fr h₀ L s.heap m) (X : (Mine.hd.heap_39 w.params).In h₀) (N : News h₀ L s.heap news) (T : Top p loose mean mg mb h₀) (hk : cs.kind = .function)
  (hd : dp + D < recursionLimit) (hu : un + U < cLine)
  (h : ∀ (v : Value) (news' : List (Addr × Obj)) (h' : Heap) (tk' : Nat), ret v news' → Fr h₀ L h' m → News h₀ L h' news' → Q v { s with heap := h', toks := tk' + 1 }) :
    wpAny (model PySem.Challenge.rw_ij0019_01.row.prog w) (ktrTop dp un gd cn cs L a ccd cl outer) (PySem.call (.ref f) vs) Q E s :=
  C _ _ _ _ _ _ _ _ _ _ _ _ _ _ _ _ _ B F X N T hk hd hu h

def Sp0 (w : World) (p : Program) (loose : List Str) (mean : ExcName → Option Value) (mg mb : Str → Option Value) (f : Addr) (vs : List Value) (D U : Nat) (news : List (Addr × Obj)) (ret : Value → List (Addr × Obj) → Prop) : Prop :=
  ∀ (dp un : Nat) (gd : Option (List Code)) (cn : Str) (cs : Scope) (a : Addr) (ccd : Value) (cl : List (Str × Addr)) (outer : List Env) (A₀ : Around) (base h₀ : Heap) (L : Addr) (m : Str → Option Value) (s : Shared) (Q E : Value → Shared → Prop),
    Below A₀ base outer h₀ → Fr h₀ L s.heap m → (Mine.hd.heap_39 w.params).In h₀ → News h₀ L s.heap news → Top p loose mean mg mb h₀ → cs.kind = .function →
    dp + D < recursionLimit → un + U < cLine →
    (∀ (v : Value) (news' : List (Addr × Obj)) (h' : Heap) (tk' : Nat), ret v news' → Fr h₀ L h' m → News h₀ L h' news' → Q v { s with heap := h', toks := tk' }) →
    wpAny (model PySem.Challenge.rw_ij0019_01.row.prog w) (ktrTop dp un gd cn cs L a ccd cl outer) (PySem.call (.ref f) vs) Q E s
theorem Sp0.use {w : World} {p : Program} {loose : List Str} {mean : ExcName → Option Value} {mg mb : Str → Option Value} {f : Addr} {vs : List Value} {D U : Nat} {news : List (Addr × Obj)} {ret : Value → List (Addr × Obj) → Prop}
  (C : Sp0 w p loose mean mg mb f vs D U news ret) {dp un : Nat} {gd : Option (List Code)} {cn : Str} {cs : Scope} {a : Addr} {ccd : Value} {cl : List (Str × Addr)} {outer : List Env} {A₀ : Around} {base h₀ : Heap} {L : Addr} {m : Str → Option Value} {s : Shared} {Q E : Value → Shared → Prop}
  (B : Below A₀ base outer h₀) (F : Fr h₀ L s.heap m) (X : (Mine.hd.heap_39 w.params).In h₀) (N : News h₀ L s.heap news) (T : Top p loose mean mg mb h₀) (hk : cs.kind = .function)
  (hd : dp + D < recursionLimit) (hu : un + U < cLine)
  (h : ∀ (v : Value) (news' : List (Addr × Obj)) (h' : Heap) (tk' : Nat), ret v news' → Fr h₀ L h' m → News h₀ L h' news' → Q v { s with heap := h', toks := tk' }) :
    wpAny (model PySem.Challenge.rw_ij0019_01.row.prog w) (ktrTop dp un gd cn cs L a ccd cl outer) (PySem.call (.ref f) vs) Q E s :=
  C _ _ _ _ _ _ _ _ _ _ _ _ _ _ _ _ _ B F X N T hk hd hu h
theorem Sp.useS {w : World} {p : Program} {loose : List Str} {mean : ExcName → Option Value} {mg mb : Str → Option Value} {f : Addr} {vs : List Value} {D U : Nat} {news : List (Addr × Obj)} {y : Str}
  (C : Sp w p loose mean mg mb f vs D U news (fun v news' => news' = news ∧ ∃ t', v = .str y t')) {dp un : Nat} {gd : Option (List Code)} {cn : Str} {cs : Scope} {a : Addr} {ccd : Value} {cl : List (Str × Addr)} {outer : List Env} {A₀ : Around} {base h₀ : Heap} {L : Addr} {m : Str → Option Value} {s : Shared} {Q E : Value → Shared → Prop}
  (B : Below A₀ base outer h₀) (F : Fr h₀ L s.heap m) (X : (Mine.hd.heap_39 w.params).In h₀) (N : News h₀ L s.heap news) (T : Top p loose mean mg mb h₀) (hk : cs.kind = .function)
  (hd : dp + D < recursionLimit) (hu : un + U < cLine)
  (h : ∀ (t' : Tok) (h' : Heap) (tk' : Nat), Fr h₀ L h' m → News h₀ L h' news → Q (.str y t') { s with heap := h', toks := tk' + 1 }) :
    wpAny (model PySem.Challenge.rw_ij0019_01.row.prog w) (ktrTop dp un gd cn cs L a ccd cl outer) (PySem.call (.ref f) vs) Q E s :=
  C _ _ _ _ _ _ _ _ _ _ _ _ _ _ _ _ _ B F X N T hk hd hu fun _ _ h' tk' ⟨e, t', e'⟩ F' N' => by rw [e] at N'; rw [e']; exact h t' h' tk' F' N'
theorem Sp0.useS {w : World} {p : Program} {loose : List Str} {mean : ExcName → Option Value} {mg mb : Str → Option Value} {f : Addr} {vs : List Value} {D U : Nat} {news : List (Addr × Obj)} {y : Str}
  (C : Sp0 w p loose mean mg mb f vs D U news (fun v news' => news' = news ∧ ∃ t', v = .str y t')) {dp un : Nat} {gd : Option (List Code)} {cn : Str} {cs : Scope} {a : Addr} {ccd : Value} {cl : List (Str × Addr)} {outer : List Env} {A₀ : Around} {base h₀ : Heap} {L : Addr} {m : Str → Option Value} {s : Shared} {Q E : Value → Shared → Prop}
  (B : Below A₀ base outer h₀) (F : Fr h₀ L s.heap m) (X : (Mine.hd.heap_39 w.params).In h₀) (N : News h₀ L s.heap news) (T : Top p loose mean mg mb h₀) (hk : cs.kind = .function)
  (hd : dp + D < recursionLimit) (hu : un + U < cLine)
  (h : ∀ (t' : Tok) (h' : Heap) (tk' : Nat), Fr h₀ L h' m → News h₀ L h' news → Q (.str y t') { s with heap := h', toks := tk' }) :
    wpAny (model PySem.Challenge.rw_ij0019_01.row.prog w) (ktrTop dp un gd cn cs L a ccd cl outer) (PySem.call (.ref f) vs) Q E s :=
  C _ _ _ _ _ _ _ _ _ _ _ _ _ _ _ _ _ B F X N T hk hd hu fun _ _ h' tk' ⟨e, t', e'⟩ F' N' => by rw [e] at N'; rw [e']; exact h t' h' tk' F' N'
/-- the goal behind one name, while facts are taken apart -/
theorem hideG {P : Prop} (h : ∀ G : Prop, (P → G) → G) : P := h P id
theorem atIfC {M : Model} {A : Around} {E : Value → Shared → Prop} {Q : Flow → Shared → Prop} {s : Shared} {a b c d t o p e} (h : wpAny M A (exec (.If (.Compare a b c d) t o p) e) Q E s) : wpAny M A (exec (.If (.Compare a b c d) t o p) e) Q E s := h
theorem room {a b k n : Nat} (h : a + k < n) (hc : b ≤ k) : a + b < n := Nat.lt_of_le_of_lt (Nat.add_le_add_left hc a) h
theorem len_rep {x y z : Str} {B : Nat} (hx : x.length ≤ B) (hz : z.length ≤ 5) : (Txt.replace x y z).length ≤ 6 * B + 5 := by
  have h1 := StrLaws.occ_length_le x y 0 x.length (x.length + 1)
  have hy : (Builtin.Str.glued y (Builtin.Str.partsBetween x (Builtin.Str.occurrences x y 0 x.length (x.length + 1)) y.length)).length = x.length := by rw [StrLaws.glued_between_self]
  rw [size_glued, length_partsBetween, Nat.add_sub_cancel] at hy
  unfold Txt.replace
  split
  · lia
  · rw [size_glued, length_partsBetween, Nat.add_sub_cancel]
    have h2 : (Builtin.Str.occurrences x y 0 x.length (x.length + 1)).length * z.length ≤ (x.length + 1) * 5 := Nat.mul_le_mul h1 hz
    lia
theorem len_repA {x y z : Str} (hz : z.length ≤ 14) : (Txt.replace x y z).length + 1 ≤ (x.length + 1) * 15 := by
  have h1 := StrLaws.occ_length_le x y 0 x.length (x.length + 1)
  have hy : (Builtin.Str.glued y (Builtin.Str.partsBetween x (Builtin.Str.occurrences x y 0 x.length (x.length + 1)) y.length)).length = x.length := by rw [StrLaws.glued_between_self]
  rw [size_glued, length_partsBetween, Nat.add_sub_cancel] at hy
  unfold Txt.replace
  split
  · lia
  · rw [size_glued, length_partsBetween, Nat.add_sub_cancel]
    have h2 : (Builtin.Str.occurrences x y 0 x.length (x.length + 1)).length * z.length ≤ (x.length + 1) * 14 := Nat.mul_le_mul h1 hz
    lia
/-- escape without entities -/
def escS (x : Str) : Str := Txt.replace (Txt.replace (Txt.replace x (Str.ofString "&") (Str.ofString "&amp;")) (Str.ofString ">") (Str.ofString "&gt;")) (Str.ofString "<") (Str.ofString "&lt;")
theorem truthy_dict22 {w : World} {prog : Program} {A : Around} {E : Value → Shared → Prop} {s : Shared} {Q : Bool → Shared → Prop} {d : Addr} (hd : (d == sysModules) = false) (ho : s.heap.get? d = some ⟨.type "dict", none, .dict #[] 0, #[]⟩)
  (h : Q false { s with toks := s.toks + 1 + 1 }) : wpAny (model prog w) A (truthy (.ref d)) Q E s :=
  wpAny_truthy_dict (knd := strKind prog w) (kvs := []) hd ⟨_, _, _, ho, ⟨rfl, rfl, rfl⟩, rfl, (by intro e he; simp at he), (by constructor), List.nodup_nil⟩ (by decide) h
section
variable {prog : Program} {w : World} {A : Around} {E : Value → Shared → Prop} {s : Shared} {env : Env} {test : PySem.Expr} {body orelse : List Stmt} {Q : Flow → Shared → Prop}
/-- the invariant at a lower measure -/
def Next (I : Nat → Shared → Prop) (n : Nat) (s : Shared) : Prop := ∃ k, k < n ∧ I k s
/-- a while by an invariant with a measure -/
theorem while_rule (I : Nat → Shared → Prop) (hE : PassesOwn (model prog w) A env E)
    (turn : ∀ n s, I n s → wpAny (model prog w) A (isTrue test env (eval test env)) (fun b s₂ => WhlIf b
      (wpAny (model prog w) A (execs body env) (fun f s₃ => match f with
        | .next => Next I n s₃
        | .cont => Next I n s₃
        | .brk => Q .next s₃
        | .ret v => Q (.ret v) s₃) E s₂)
      (wpAny (model prog w) A (execs orelse env) Q E s₂)) E s)
    (n : Nat) {pos : Pos} (h : I n s) : wpAny (model prog w) A (exec (.While test body orelse pos) env) Q E s := by
  have key : ∀ n s, I n s → WhlRest prog w A E env test body orelse Q 1 s := by
    intro n
    induction n using Nat.strongRecOn with
    | ind n ih =>
      intro s hI
      refine whl_turn (k := 0) hE (wpAny_mono (turn n s hI) (fun b s₂ hb => ?_) fun _ _ e => e)
      cases b with
      | false => exact hb
      | true =>
        refine WhlIf.yes rfl (wpAny_mono (show wpAny _ _ _ _ _ _ from hb) (fun f s₃ hf => ?_) fun _ _ e => e)
        cases f with
        | next => obtain ⟨k, hk, hI'⟩ := hf; exact ih k hk s₃ hI'
        | cont => obtain ⟨k, hk, hI'⟩ := hf; exact ih k hk s₃ hI'
        | brk => exact hf
        | ret v => exact hf
  exact whl_start 1 (key n s h)
end

/-- locals: some names known, the rest u -/
def lk : List (Str × Value) → (Str → Option Value) → Str → Option Value
  | [], u => u
  | (x, v) :: r, u => fun y => if y = x then some v else lk r u y
def AllKn (m : Str → Option Value) : List (Str × Value) → Prop
  | [] => True
  | p :: r => m p.1 = some p.2 ∧ AllKn m r
theorem lk_as {m : Str → Option Value} : ∀ {ps : List (Str × Value)}, AllKn m ps → lk ps m = m
  | [], _ => rfl
  | (x, v) :: r, h => by
    funext y
    show (if y = x then some v else lk r m y) = m y
    by_cases e : y = x
    · subst e; rw [if_pos rfl]; exact h.1.symm
    · rw [if_neg e, lk_as h.2]
theorem fr_as {h₀ h : Heap} {L : Addr} {m : Str → Option Value} (ps : List (Str × Value)) (F : Fr h₀ L h m) (hk : AllKn m ps) : Fr h₀ L h (lk ps m) := by
  rw [lk_as hk]; exact F
theorem sub_cons {α : Type} {a : α} {l r : List α} (h : a ∈ r) (k : ∀ p ∈ l, p ∈ r) : ∀ p ∈ a :: l, p ∈ r := List.forall_mem_cons.mpr ⟨h, k⟩
theorem sub_app {α : Type} {l k r : List α} (h : ∀ p ∈ l, p ∈ r) (h' : ∀ p ∈ k, p ∈ r) : ∀ p ∈ l ++ k, p ∈ r := List.forall_mem_append.mpr ⟨h, h'⟩

section
variable {prog : Program} {w : World} {A : Around} {E : Value → Shared → Prop} {s : Shared} {h₀ : Heap} {L D : Addr} {m : Str → Option Value} {news rest : List (Addr × Obj)} {vs : List Value} {n : Nat} {k : Int} {t : Tok}
theorem list_item {v : Value} {Q : Value → Shared → Prop} (N : News h₀ L s.heap news) (hm : (D, listOf vs.toArray n) ∈ news) (j : Nat) (hk : k = (j : Int)) (hj : j < 2 ^ 60) (hx : vs[j]? = some v) (h : Q v s) :
    wpAny (model prog w) A (getItem (.ref D) (.int k t)) Q E s := by
  subst hk
  exact wpAny_getItem_list (PySem.IsL.isList (n := n) (N _ hm).1) (by lia) (by lia) (by simpa using hx) h
theorem list_sub {v : Value} {value slice : PySem.Expr} {Q : Value → Shared → Prop} (N : News h₀ L s.heap news) (hm : (D, listOf vs.toArray n) ∈ news) (j : Nat) (hk : k = (j : Int)) (hj : j < 2 ^ 60) (hx : vs[j]? = some v) (h : Q v s)
    (hs : subscripted slice false (.ref D) (.int k t) = operate [.ref D, .int k t] (getItem (.ref D) (.int k t)) := by with_unfolding_all rfl) :
    wpAny (model prog w) A (subscriptTail value slice (.ref D) (.int k t)) Q E s := by
  have hl := PySem.IsL.isList (n := n) (N _ hm).1
  exact tail_any hl.typeIs slot_list_getitem.lookup (list_item N hm j hk hj hx h) hs
theorem list_set {v : Value} {Q : Unit → Shared → Prop} (F : Fr h₀ L s.heap m) (N : News h₀ L s.heap ((D, listOf vs.toArray n) :: rest)) (hsep : ∀ p ∈ rest, p.1 ≠ D) (j : Nat) (hk : k = (j : Int)) (hj : j < vs.length) (hz : vs.length < 2 ^ 60)
    (h : ∀ h', Fr h₀ L h' m → News h₀ L h' ((D, listOf (vs.set j v).toArray n) :: rest) → Q () { s with heap := h' }) :
    wpAny (model prog w) A (setItem (.ref D) (.int k t) v) Q E s := by
  subst hk
  have z := N _ (.head _)
  refine ki_setAt z.1 (by lia) (by lia) (by rw [List.size_toArray]; lia) (h _ (F.change (Heap.SameBut.update ..) z.2.1 z.2.2) (ki_turn (pre := []) _ N (fun _ h => nomatch h) hsep ?_ ?_))
  · show vs.toArray.setIfInBounds _ v = (vs.set j v).toArray
    apply Array.toList_inj.mp
    simp
  · simp
theorem list_len {Q : Value → Shared → Prop} (N : News h₀ L s.heap news) (hm : (D, listOf vs.toArray n) ∈ news) (hz : vs.length < 2 ^ 60) (h : Q (.int (vs.length : Int) (s.toks + 1)) { s with toks := s.toks + 1 + 1 }) :
    wpAny (model prog w) A (call (.builtin "len") [.ref D]) Q E s :=
  len_list (PySem.IsL.isList (n := n) (N _ hm).1) (by rw [List.size_toArray]; lia) (by rw [List.size_toArray]; exact h)
theorem list_truthy {Q : Bool → Shared → Prop} (N : News h₀ L s.heap news) (hm : (D, listOf vs.toArray n) ∈ news) (hz : vs.length < 2 ^ 60) (h : Q (!vs.isEmpty) { s with toks := s.toks + 1 + 1 }) :
    wpAny (model prog w) A (truthy (.ref D)) Q E s := by
  refine wpAny_truthy_list (PySem.IsL.isList (n := n) (N _ hm).1) (by rw [List.size_toArray]; lia) ?_
  have e : (!vs.toArray.isEmpty) = (!vs.isEmpty) := by cases vs <;> rfl
  first | exact h | (rw [e]; exact h)
theorem list_append {v : Value} {Q : Value → Shared → Prop} (F : Fr h₀ L s.heap m) (N : News h₀ L s.heap ((D, listOf vs.toArray n) :: rest)) (hsep : ∀ p ∈ rest, p.1 ≠ D) (hz : vs.length < 1000000)
    (h : ∀ h', Fr h₀ L h' m → News h₀ L h' ((D, listOf (vs ++ [v]).toArray (n + 1)) :: rest) → Q .none { s with heap := h' }) :
    wpAny (model prog w) A (call (.builtin "list.append") [.ref D, v]) Q E s :=
  append_K F N (by
    have e : vs.toArray.push v = (vs ++ [v]).toArray := by simp
    rw [e]
    exact Upd.head hsep) h (by rw [List.size_toArray, sizeLine_eq]; lia)
theorem list_pop {v : Value} {Q : Value → Shared → Prop} (F : Fr h₀ L s.heap m) (N : News h₀ L s.heap ((D, listOf (vs ++ [v]).toArray n) :: rest)) (hsep : ∀ p ∈ rest, p.1 ≠ D) (hz : vs.length < 1000000)
    (h : ∀ h', Fr h₀ L h' m → News h₀ L h' ((D, listOf vs.toArray (n + 1)) :: rest) → Q v { s with heap := h' }) :
    wpAny (model prog w) A (call (.builtin "list.pop") [.ref D]) Q E s :=
  kl_pop F N (kpa_last v vs) (Upd.head hsep) (by rw [sizeLine_eq]; simp; lia) h
end
abbrev T3 := Int × Int × Int
def lt3 (a b : T3) : Bool := if a.1 = b.1 then (if a.2.1 = b.2.1 then decide (a.2.2 < b.2.2) else decide (a.2.1 < b.2.1)) else decide (a.1 < b.1)
def d3 (a : T3) : Dat := .tuple [.int a.1, .int a.2.1, .int a.2.2]
theorem int_inv {nx : List (Addr × Obj)} {v : Value} {i : Int} (h : DatIn nx v (.int i)) : ∃ t, v = .int i t := by cases h; exact ⟨_, rfl⟩
theorem str_inv {nx : List (Addr × Obj)} {v : Value} {x : Str} (h : DatIn nx v (.str x)) : ∃ t, v = .str x t := by cases h; exact ⟨_, rfl⟩
theorem tup_inv {nx : List (Addr × Obj)} {v : Value} {ds : List Dat} (h : DatIn nx v (.tuple ds)) : ∃ a vs n, v = .ref a ∧ (a, ({ cls := .type "tuple", data := .seq vs.toArray n } : Obj)) ∈ nx ∧ DatAll nx vs ds := by
  cases h with | tuple hm hr => exact ⟨_, _, _, rfl, hm, hr⟩
theorem cons_inv {nx : List (Addr × Obj)} {vs : List Value} {d : Dat} {ds : List Dat} (h : DatAll nx vs (d :: ds)) : ∃ v vs', vs = v :: vs' ∧ DatIn nx v d ∧ DatAll nx vs' ds := by
  cases h with | cons a b => exact ⟨_, _, rfl, a, b⟩
theorem nil_inv {nx : List (Addr × Obj)} {vs : List Value} (h : DatAll nx vs []) : vs = [] := by cases h; rfl
theorem dat3 {nx : List (Addr × Obj)} {v : Value} {a : T3} (h : DatIn nx v (d3 a)) : ∃ ad t1 t2 t3 n, v = .ref ad ∧ (ad, ({ cls := .type "tuple", data := .seq #[.int a.1 t1, .int a.2.1 t2, .int a.2.2 t3] n } : Obj)) ∈ nx := by
  obtain ⟨ad, vs, n, e, hm, hr⟩ := tup_inv h
  obtain ⟨v1, w1, rfl, h1, hr⟩ := cons_inv hr
  obtain ⟨v2, w2, rfl, h2, hr⟩ := cons_inv hr
  obtain ⟨v3, w3, rfl, h3, hr⟩ := cons_inv hr
  obtain rfl := nil_inv hr
  obtain ⟨t1, rfl⟩ := int_inv h1
  obtain ⟨t2, rfl⟩ := int_inv h2
  obtain ⟨t3, rfl⟩ := int_inv h3
  exact ⟨ad, t1, t2, t3, n, e, hm⟩
section
variable {prog : Program} {w : World} {A : Around} {E : Value → Shared → Prop} {s : Shared}
theorem lt_trip {a b : T3} {x y : Addr} {t1 t2 t3 u1 u2 u3 : Tok} {n k : Nat} {Q : Value → Shared → Prop} (hu : A.units < cLine)
    (hx : s.heap.get? x = some ({ cls := .type "tuple", data := .seq #[.int a.1 t1, .int a.2.1 t2, .int a.2.2 t3] n } : Obj))
    (hy : s.heap.get? y = some ({ cls := .type "tuple", data := .seq #[.int b.1 u1, .int b.2.1 u2, .int b.2.2 u3] k } : Obj))
    (h : Q (.bool (lt3 a b)) s) : wpAny (model prog w) A (compareOp .Lt (.ref x) (.ref y)) Q E s := by
  have tx : s.TypeIs (.ref x) "tuple" := ⟨_, hx, rfl⟩
  have ty : s.TypeIs (.ref y) "tuple" := ⟨_, hy, rfl⟩
  refine cmp_ofLt (wpAny_richCompare_same_room (op := .Lt) tx ty F.slot_tuple_lt (wpAny_call_entry F.slot_tuple_lt tx F.entry_tuple_lt ?_ (F.args_tuple_lt_2 _ _)) hu)
  show wpAny _ _ (isInstance (.ref y) (.type "tuple") >>= _) _ _ s
  refine wpAny_bind (wpAny_isInstance ty isSubtype_tuple_tuple ?_)
  simp only [Bool.not_true, Bool.false_eq_true, if_false]
  refine wpAny_bind (wpAny_tupleItemsOf hx rfl ?_)
  refine wpAny_bind (wpAny_tupleItemsOf hy rfl ?_)
  simp only [List.zip_cons_cons, List.zip_nil_right]
  refine wpAny_bind ?_
  have less : ∀ (i j : Int) (p q : Tok) (b' : Bool) (_ : b' = decide (i < j)) (k : Value → Sem (ForInStep (Option PySem.Fin × Unit))) (R : ForInStep (Option PySem.Fin × Unit) → Shared → Prop),
      wpAny (model prog w) A.in1 (k (.bool b')) R E s → wpAny (model prog w) A.in1 (richCompare .Lt (.int i p) (.int j q) >>= k) R E s := by
    intro i j p q b' hb k R hk
    refine wpAny_bind ?_
    show wpAny _ _ (compareOp .Lt (.int i p) (.int j q)) _ _ _
    refine lt_int ?_
    rw [← hb]; exact hk
  unfold lt3 at h
  rw [List.forIn_cons]
  refine wpAny_bind (wpAny_bind (wpAny_eqBool_int ?_))
  by_cases h1 : a.1 = b.1
  · rw [if_pos h1] at h
    simp only [h1, beq_self_eq_true, Bool.not_true, Bool.false_eq_true, if_false]
    refine wpAny_pure ?_
    dsimp only
    rw [List.forIn_cons]
    refine wpAny_bind (wpAny_bind (wpAny_eqBool_int ?_))
    by_cases h2 : a.2.1 = b.2.1
    · rw [if_pos h2] at h
      simp only [h2, beq_self_eq_true, Bool.not_true, Bool.false_eq_true, if_false]
      refine wpAny_pure ?_
      dsimp only
      rw [List.forIn_cons]
      refine wpAny_bind (wpAny_bind (wpAny_eqBool_int ?_))
      by_cases h3 : a.2.2 = b.2.2
      · have e : decide (a.2.2 < b.2.2) = false := by rw [h3]; simp
        rw [e] at h
        simp only [h3, beq_self_eq_true, Bool.not_true, Bool.false_eq_true, if_false]
        refine wpAny_pure ?_
        dsimp only
        rw [List.forIn_nil]
        exact wpAny_pure (wpAny_pure ⟨_, rfl, (fun e => nomatch e), h⟩)
      · simp only [beq_eq_false_iff_ne.mpr h3, Bool.not_false, if_true]
        refine wpAny_bind (wpAny_rule ?_)
        refine less _ _ _ _ _ rfl _ _ ?_
        exact wpAny_bind (wpAny_pure (wpAny_pure (wpAny_pure (wpAny_pure ⟨_, rfl, (fun e => nomatch e), h⟩))))
    · rw [if_neg h2] at h
      simp only [beq_eq_false_iff_ne.mpr h2, Bool.not_false, if_true]
      refine wpAny_bind (wpAny_rule ?_)
      refine less _ _ _ _ _ rfl _ _ ?_
      exact wpAny_bind (wpAny_pure (wpAny_pure (wpAny_pure (wpAny_pure ⟨_, rfl, (fun e => nomatch e), h⟩))))
  · rw [if_neg h1] at h
    simp only [beq_eq_false_iff_ne.mpr h1, Bool.not_false, if_true]
    refine wpAny_bind (wpAny_rule ?_)
    refine less _ _ _ _ _ rfl _ _ ?_
    exact wpAny_bind (wpAny_pure (wpAny_pure (wpAny_pure (wpAny_pure ⟨_, rfl, (fun e => nomatch e), h⟩))))
end
section
variable {prog : Program} {w : World} {A : Around} {E : Value → Shared → Prop} {s : Shared}
def KeysNe (w : World) (es : List DictEntry) (x : Str) : Prop := ∀ e ∈ es, ∃ y u, e.key = .str y u ∧ e.hash = hashStr w y ∧ y ≠ x
theorem KeysNe.of {es : List DictEntry} {x : Str} (h : KeysNe w es x) : PySem.KeysOf (PySem.strKind prog w) es.toArray := by
  intro e he
  obtain ⟨y, u, h1, h2, _⟩ := h e (by simpa using he)
  exact ⟨y, by rw [h1]; exact strKind_is prog w y u, h2⟩
theorem KeysNe.none {es : List DictEntry} {x : Str} (h : KeysNe w es x) : (es.toArray.findIdx? fun e => (PySem.strKind prog w).is x e.key) = none := by
  rw [Array.findIdx?_eq_none_iff]
  intro e he
  obtain ⟨y, u, h1, h2, h3⟩ := h e (by simpa using he)
  rw [h1]
  cases hb : (PySem.strKind prog w).is x (Value.str y u) with
  | false => rfl
  | true => exact absurd ((PySem.strKind prog w).inj _ _ _ (strKind_is prog w y u) hb) h3
theorem dict_push {h : Heap} {d : Addr} {es : List DictEntry} {ep : Nat} (e : DictEntry) (ho : h.get? d = some (dictOf es ep)) :
    (h.update d (Obj.mapDictKeys (·.push e))).get? d = some (dictOf (es ++ [e]) (ep + 1)) := by
  have e1 : Obj.mapDictKeys (·.push e) (dictOf es ep) = dictOf (es ++ [e]) (ep + 1) := by
    show ({ cls := .type "dict", data := .dict (es.toArray.push e) (ep + 1) } : Obj) = { cls := .type "dict", data := .dict (es ++ [e]).toArray (ep + 1) }
    simp
  rw [Heap.get?_update_self _ ho (by rw [e1]; rfl), e1]
theorem dictSet_ex {d : Addr} {es : List DictEntry} {ep : Nat} {x : Str} {t : Tok} {v : Value} {Q : Unit → Shared → Prop} (ho : s.heap.get? d = some (dictOf es ep)) (hk : KeysNe w es x) (hz : es.length ≤ 100)
    (h : ∀ h', h'.get? d = some (dictOf (es ++ [⟨hashStr w x, .str x t, v⟩]) (ep + 1)) → Heap.SameBut d s.heap h' → Q () { s with heap := h', toks := s.toks + 1 }) :
    wpAny (model prog w) A (dictSet d (.str x t) v) Q E s := by
  unfold dictSet
  try with_reducible refine wpAny_holding ?_
  refine wpAny_bind ((PySem.strKind prog w).pyHash (k := x) (strKind_is prog w x t) ?_)
  unfold dictSetHashed
  try with_reducible refine wpAny_holding ?_
  refine wpAny_bind (wpAny_dictFind_of (knd := PySem.strKind prog w) (s := { s with toks := s.toks + 1 }) (strKind_is prog w x t) ho rfl hk.of ?_)
  rw [hk.none]
  refine wpAny_bind (wpAny_rule (wpAny_updateDictKeys (s := { s with toks := s.toks + 1 }) ho rfl (h _ (dict_push _ ho) (Heap.SameBut.update ..)) (by rw [List.size_toArray, sizeLine_eq]; lia)))
theorem dictPut_ex {d : Addr} {es : List DictEntry} {ep : Nat} {x : Str} {t : Tok} {v : Value} {Q : Unit → Shared → Prop} (ho : s.heap.get? d = some (dictOf es ep)) (hk : KeysNe w es x) (hz : es.length ≤ 100)
    (h : ∀ h', h'.get? d = some (dictOf (es ++ [⟨hashStr w x, .str x t, v⟩]) (ep + 1)) → Heap.SameBut d s.heap h' → Q () { s with heap := h' }) :
    wpAny (model prog w) A (dictPut d (hashStr w x) (.str x t) v) Q E s := by
  unfold dictPut
  refine wpAny_bind (wpAny_dictFind_of (knd := PySem.strKind prog w) (strKind_is prog w x t) ho rfl hk.of ?_)
  rw [hk.none]
  exact wpAny_updateDictKeys ho rfl (h _ (dict_push _ ho) (Heap.SameBut.update ..)) (by rw [List.size_toArray, sizeLine_eq]; lia)
end
section
variable {prog : Program} {w : World} {A : Around} {E : Value → Shared → Prop}
def entOf (w : World) (p : Str × Tok × Value) : DictEntry := ⟨hashStr w p.1, .str p.1 p.2.1, p.2.2⟩
def pairOf (p : Str × Tok × Value) : Value × Value := (.str p.1 p.2.1, p.2.2)
theorem keysNe_snoc {es : List DictEntry} {x : Str} {p : Str × Tok × Value} (h : KeysNe w es x) (hp : p.1 ≠ x) : KeysNe w (es ++ [entOf w p]) x := by
  intro e he
  rcases List.mem_append.mp he with he | he
  · exact h e he
  · rw [List.mem_singleton.mp he]; exact ⟨p.1, p.2.1, rfl, rfl, hp⟩
theorem storeAll_ex {d : Addr} : ∀ (ps : List (Str × Tok × Value)) (es : List DictEntry) (ep : Nat) (s : Shared) (Q : PUnit → Shared → Prop), s.heap.get? d = some (dictOf es ep) → (∀ p ∈ ps, KeysNe w es p.1) → (ps.map (·.1)).Nodup → es.length + ps.length ≤ 50 →
    (∀ h', h'.get? d = some (dictOf (es ++ ps.map (entOf w)) (ep + ps.length)) → Heap.SameBut d s.heap h' → Q PUnit.unit { s with heap := h', toks := s.toks + ps.length }) →
    wpAny (model prog w) A (forIn (ps.map pairOf) PUnit.unit fun (x : Value × Value) (_ : PUnit) => (do dictSet d x.1 x.2; pure (ForInStep.yield PUnit.unit) : Sem (ForInStep PUnit))) Q E s
  | [], es, ep, s, Q, ho, _, _, _, hQ => by
    rw [List.map_nil, List.forIn_nil]
    exact wpAny_pure (by simpa using hQ s.heap (by simpa using ho) (Heap.SameBut.refl _ _))
  | p :: ps, es, ep, s, Q, ho, hk, hn, hz, hQ => by
    rw [List.length_cons] at hz
    rw [List.map_cons, List.nodup_cons] at hn
    rw [List.map_cons, List.forIn_cons]
    refine wpAny_bind (wpAny_bind (dictSet_ex (x := p.1) (t := p.2.1) (v := p.2.2) ho (hk p (.head _)) (by lia) fun h1 ho1 hs1 => wpAny_pure ?_))
    refine storeAll_ex ps (es ++ [entOf w p]) (ep + 1) _ Q ho1 (fun q hq => keysNe_snoc (hk q (.tail _ hq)) ?_) hn.2 (by rw [List.length_append, List.length_singleton]; lia) fun h2 ho2 hs2 => ?_
    · intro e; exact hn.1 (e ▸ List.mem_map.mpr ⟨q, hq, rfl⟩)
    · have := hQ h2 (by simpa [Nat.add_assoc, Nat.add_comm 1] using ho2) (hs1.trans hs2)
      simpa [Nat.add_assoc, Nat.add_comm 1] using this

theorem subDict_ex {s : Shared} {pairs : List (Sem Value × Sem Value)} {Q : Addr → Shared → Prop} (hlen : pairs.length ≤ 15)
    (h : wpAny (model prog w) A (evalPairs pairs) (fun vs s₁ => ∃ ps : List (Str × Tok × Value), vs = ps.map pairOf ∧ (ps.map (·.1)).Nodup ∧ ps.length ≤ 15 ∧ s₁.heap = s.heap.push { cls := .type "dict", data := .dict #[] } ∧
      ∀ h', h'.get? s.heap.objs.size = some (dictOf (ps.map (entOf w)) ps.length) → Heap.SameBut s.heap.objs.size s₁.heap h' → Q s.heap.objs.size { s₁ with heap := h', toks := s₁.toks + ps.length }) E
      { s with heap := s.heap.push { cls := .type "dict", data := .dict #[] } }) :
    wpAny (model prog w) A (subDict pairs) Q E s := by
  unfold subDict
  refine wpAny_bind (wpAny_alloc ?_)
  refine wpAny_bind (wpAny_holding ?_)
  rw [if_pos hlen]
  refine wpAny_bind (wpAny_mono h (fun vs s₁ h₁ => ?_) fun _ _ e => e)
  obtain ⟨ps, rfl, hn, hl, he, hQ⟩ := h₁
  refine wpAny_holding ?_
  refine wpAny_bind (storeAll_ex ps [] 0 s₁ _ (by rw [he]; exact Heap.get?_push_size _ rfl) (fun p _ e he => nomatch he) hn (by simp; lia) fun h' ho' hs' => wpAny_pure (wpAny_pure (hQ h' (by simpa using ho') hs')))

theorem keyNoRef {w : World} {ps : List (Str × Tok × Value)} {e : DictEntry} (he : e ∈ ps.map (entOf w)) : ∀ a, e.key ≠ .ref a := by
  obtain ⟨p, _, rfl⟩ := List.mem_map.mp he
  intro a h; cases h

theorem merge_ex {s : Shared} {d o : Addr} {ep eo : Nat} {ps : List (Str × Tok × Value)} {Q : Unit → Shared → Prop} (hdo : d ≠ o) (hoS : (o == sysModules) = false) (hn : (ps.map (·.1)).Nodup) (hl : ps.length ≤ 15)
    (hd : s.heap.get? d = some (dictOf [] ep)) (ho : s.heap.get? o = some (dictOf (ps.map (entOf w)) eo))
    (hQ : ∀ h', h'.get? d = some (dictOf (ps.map (entOf w)) (ep + ps.length)) → Heap.SameBut d s.heap h' → Q () { s with heap := h' }) :
    wpAny (model prog w) A (mergeMapping d (.ref o) false) Q E s := by
  have hT : s.TypeIs (.ref o) "dict" := ⟨_, ho, rfl⟩
  unfold mergeMapping
  refine wpAny_bind (wpAny_isInstance hT isSubtype_dict_dict ?_)
  simp only [if_true]
  refine wpAny_bind (wpAny_specialOf hT F.slot_dict_iter.lookup ?_)
  refine wpAny_bind (wpAny_pure ?_)
  simp only [beq_self_eq_true, hoS, Bool.false_eq_true, if_false]
  refine wpAny_bind (wpAny_dictEntries hd rfl ?_)
  have e0 : (List.toArray ([] : List DictEntry)).isEmpty = true := rfl
  simp only [e0, if_true]
  refine wpAny_bind (wpAny_dictEntries ho rfl ?_)
  have hskip : ∀ (l : List DictEntry), (∀ e ∈ l, ∀ a, e.key ≠ .ref a) → ∀ (f : DictEntry → PUnit → Sem (ForInStep PUnit)), (∀ e, (∀ a, e.key ≠ .ref a) → ∀ u, f e u = pure (.yield ⟨⟩)) → forIn l.toArray PUnit.unit f = pure PUnit.unit := by
    intro l hl f hf
    rw [List.forIn_toArray]
    induction l with
    | nil => rfl
    | cons e l ih =>
      rw [List.forIn_cons, hf e (hl e (.head _)), pure_bind]
      exact ih fun x hx => hl x (.tail _ hx)
  rw [hskip _ (fun e he => keyNoRef he) _ (by
    intro e he u
    split
    · rename_i a h; exact absurd h (he a)
    · rfl)]
  refine wpAny_bind (wpAny_pure ?_)
  refine wpAny_bind (wpAny_dictEntries ho rfl ?_)
  refine wpAny_bind (wpAny_dictEpoch ho rfl ?_)
  have hz : (ps.map (entOf w)).toArray.size = ps.length := by simp
  rw [hz]
  refine wpAny_bind ?_
  refine wpAny_forIn_list _
      (fun rest _ s' => ∃ h' i, s' = { s with heap := h' } ∧ rest = List.range' i (ps.length - i) ∧ i ≤ ps.length ∧ h'.get? d = some (dictOf ((ps.take i).map (entOf w)) (ep + i)) ∧ Heap.SameBut d s.heap h')
      _ ?_ ?_ _ _ ⟨s.heap, 0, rfl, by rw [Nat.sub_zero, List.range_eq_range'], Nat.zero_le _, by simpa using hd, Heap.SameBut.refl _ _⟩
  · rintro x rest b s' ⟨h', i, rfl, hr, hi, hd', hs'⟩
    have hlt : i < ps.length := by
      rcases Nat.lt_or_ge i ps.length with h | h
      · exact h
      · rw [Nat.sub_eq_zero_of_le h] at hr; simp at hr
    obtain ⟨rfl, hrest⟩ : x = i ∧ rest = List.range' (i + 1) (ps.length - (i + 1)) := by
      have e : ps.length - i = (ps.length - (i + 1)) + 1 := by lia
      rw [e, List.range'_succ] at hr
      injection hr with h1 h2
      exact ⟨h1, h2⟩
    have ho' : h'.get? o = some (dictOf (ps.map (entOf w)) eo) := (hs'.2 o (Ne.symm hdo)).trans ho
    refine wpAny_bind (wpAny_dictEntries (s := { s with heap := h' }) ho' rfl ?_)
    have hx : (ps.map (entOf w)).toArray[x]? = some (entOf w ps[x]) := by simp [hlt]
    rw [hx]
    dsimp only
    refine wpAny_bind (wpAny_holding ?_)
    (try simp only [Bool.false_eq_true, if_false])
    have hk : KeysNe w ((ps.take x).map (entOf w)) (ps[x]).1 := by
      intro e he
      obtain ⟨q, hq, rfl⟩ := List.mem_map.mp he
      refine ⟨q.1, q.2.1, rfl, rfl, fun hE => ?_⟩
      obtain ⟨j, hj, hjq⟩ := List.getElem_of_mem hq
      rw [List.length_take] at hj
      rw [List.getElem_take] at hjq
      have h1 := List.pairwise_iff_getElem.mp hn j x (by simp; lia) (by simp; lia) (by lia)
      simp only [List.getElem_map] at h1
      exact h1 (by rw [hjq, hE])
    refine dictPut_ex (s := { s with heap := h' }) (x := (ps[x]).1) (t := (ps[x]).2.1) (v := (ps[x]).2.2) hd' hk (by simp; lia) fun h2 hd2 hs2 => ?_
    have ho2 : h2.get? o = some (dictOf (ps.map (entOf w)) eo) := (hs2.2 o (Ne.symm hdo)).trans ho'
    refine wpAny_bind (wpAny_dictEpoch (s := { s with heap := h2 }) ho2 rfl ?_)
    rw [if_neg (by simp)]
    refine wpAny_pure ⟨h2, x + 1, rfl, hrest, hlt, ?_, hs'.trans hs2⟩
    have e9 : ps.take (x + 1) = ps.take x ++ [ps[x]] := by rw [List.take_add_one, List.getElem?_eq_getElem hlt]; rfl
    rw [hd2, e9, List.map_append]
    rfl
  · rintro b s' ⟨h', i, rfl, hr, hi, hd', hs'⟩
    have hin : i = ps.length := by
      rcases Nat.lt_or_ge i ps.length with h | h
      · have e : ps.length - i = (ps.length - (i + 1)) + 1 := by lia
        rw [e, List.range'_succ] at hr; exact nomatch hr
      · exact Nat.le_antisymm hi h
    subst hin
    rw [List.take_length] at hd'
    exact wpAny_pure (hQ h' hd' hs')
end
section
variable {prog : Program} {w : World} {A : Around} {E : Value → Shared → Prop} {s : Shared} {env : Env} {h₀ : Heap} {L : Addr} {m : Str → Option Value} {news : List (Addr × Obj)}
/-- a pair of two written texts, as the display evaluates it -/
abbrev cpair (env : Env) (pos p1 p2 : Pos) (k1 k2 : Nat) (x y : Str) : Sem Value × Sem Value :=
  (eval (.Constant (.str x) k1 p1) env, do let v ← eval (.Constant (.str y) k2 p2) env; standAt pos; pure v)
theorem cpair_eval {pos p1 p2 : Pos} {k1 k2 : Nat} {x y : Str} {rest : List (Sem Value × Sem Value)} {Q : List (Value × Value) → Shared → Prop}
    (h : wpAny (model prog w) A (evalPairs rest) (fun vs s₃ => Q ((.str x s.toks, .str y (s.toks + 1)) :: vs) s₃) E { s with toks := s.toks + 2 }) :
    wpAny (model prog w) A (evalPairs (cpair env pos p1 p2 k1 k2 x y :: rest)) Q E s :=
  evalPairs_cons (wpAny_Constant_str (wpAny_bind (wpAny_Constant_str (wpAny_bind (wpAny_standAt (wpAny_pure h))))))

theorem lowSys (hbig : h₀.NoLimit) {h : Heap} (F : Fr h₀ L h m) {d : Addr} (hd : h.objs.size ≤ d) : (d == sysModules) = false := by
  have h1 := modules_low hbig
  have h2 : h₀.objs.size ≤ L := F.above
  have h3 : L < h.objs.size := F.ns.lt
  exact beq_eq_false_iff_ne.mpr (by intro e; rw [e] at hd; exact absurd (Nat.lt_of_lt_of_le h1 (Nat.le_trans h2 (Nat.le_of_lt h3))) (Nat.not_lt.mpr hd))

theorem display_2 {pos p1 p2 p3 p4 : Pos} {k1 k2 k3 k4 : Nat} {x1 y1 x2 y2 : Str} {Q : Value → Shared → Prop} (F : Fr h₀ L s.heap m) (N : News h₀ L s.heap news) (hne : x1 ≠ x2) (hbig : h₀.NoLimit)
    (h : ∀ d h' tk, Fr h₀ L h' m → News h₀ L h' ((d, dictOf ([(x1, s.toks, Value.str y1 (s.toks + 1)), (x2, s.toks + 2, Value.str y2 (s.toks + 2 + 1))].map (entOf w)) 2) :: news) → (∀ p ∈ news, p.1 < d) → (d == sysModules) = false →
      Q (.ref d) { s with heap := h', toks := tk + 2 }) :
    wpAny (model prog w) A (eval (.Dict [some (.Constant (.str x1) k1 p1), some (.Constant (.str x2) k2 p2)] [.Constant (.str y1) k3 p3, .Constant (.str y2) k4 p4] pos) env) Q E s := by
  rw [arm_eval_Dict]
  refine wpAny_bind (wpAny_standAt ?_)
  simp only [evalEachOpt, evalEach, evalOpt, List.map_cons, List.map_nil, List.zip_cons_cons, List.zip_nil_right]
  have e := dictDisplay_pairs [cpair env pos p1 p3 k1 k3 x1 y1, cpair env pos p2 p4 k2 k4 x2 y2] (by simp) (by simp)
  simp only [List.map_cons, List.map_nil] at e
  rw [e]
  refine wpAny_bind (subDict_ex (by simp) (cpair_eval (cpair_eval (evalPairs_nil ?_))))
  refine ⟨[(x1, s.toks, Value.str y1 (s.toks + 1)), (x2, s.toks + 2, Value.str y2 (s.toks + 2 + 1))], rfl, by simpa using hne, by simp, rfl, fun h' ho hs => wpAny_pure ?_⟩
  have F1 := F.push { cls := .type "dict", data := .dict #[] }
  have hnew : s.heap.objs.size ≠ L := Ne.symm (Nat.ne_of_lt F.ns.lt)
  refine h _ h' (s.toks + 2 + 2) (F1.change hs hnew (next_is_new F)) (fun p hp => ?_) (fun p hp => Heap.lt_size (N p hp).1) (lowSys hbig F (Nat.le_refl _))
  rcases List.mem_cons.mp hp with rfl | hp
  · exact ⟨ho, hnew, next_is_new F⟩
  · exact ⟨hs.extBut _ _ (Nat.ne_of_lt (Heap.lt_size (N p hp).1)) (Heap.get?_push_of_some _ (N p hp).1), (N p hp).2⟩
end
section
variable {prog : Program} {w : World} {A : Around} {E : Value → Shared → Prop} {s : Shared} {env : Env} {h₀ : Heap} {L : Addr} {m : Str → Option Value} {news : List (Addr × Obj)}
set_option maxHeartbeats 2000000 in
theorem display_star {e : PySem.Expr} {o : Addr} {pos p1 p2 p3 q1 q2 q3 : Pos} {k1 k2 k3 j1 j2 j3 : Nat} {x1 y1 x2 y2 x3 y3 : Str} {Q : Value → Shared → Prop} (F : Fr h₀ L s.heap m) (N : News h₀ L s.heap news)
    (hne : [x1, x2, x3].Nodup) (hbig : h₀.NoLimit) (ho : h₀.get? o = some (dictOf [] 0)) (hoS : (o == sysModules) = false)
    (hval : ∀ (s' : Shared) (Q : Value → Shared → Prop), Fr h₀ L s'.heap m → Q (.ref o) s' → wpAny (model prog w) A (eval e env) Q E s')
    (h : ∀ d h' tk t, Fr h₀ L h' m → News h₀ L h' ((d, dictOf ([(x1, t, Value.str y1 (t + 1)), (x2, t + 2, Value.str y2 (t + 2 + 1)), (x3, t + 2 + 2, Value.str y3 (t + 2 + 2 + 1))].map (entOf w)) 3) :: news) → (∀ p ∈ news, p.1 < d) → (d == sysModules) = false → s.toks ≤ t →
      Q (.ref d) { s with heap := h', toks := tk + 2 }) :
    wpAny (model prog w) A (eval (.Dict [none, some (.Constant (.str x1) k1 p1), some (.Constant (.str x2) k2 p2), some (.Constant (.str x3) k3 p3)] [e, .Constant (.str y1) j1 q1, .Constant (.str y2) j2 q2, .Constant (.str y3) j3 q3] pos) env) Q E s := by
  rw [arm_eval_Dict]
  refine wpAny_bind (wpAny_standAt ?_)
  simp only [evalEachOpt, evalEach, evalOpt, List.map_cons, List.map_nil, List.zip_cons_cons, List.zip_nil_right]
  unfold dictDisplay
  dsimp only
  rw [List.forIn_cons]
  refine wpAny_bind (wpAny_bind ?_)
  dsimp only [List.isEmpty_nil]
  rw [if_pos rfl]
  refine wpAny_bind (wpAny_pure ?_)
  dsimp only
  refine wpAny_bind (wpAny_alloc ?_)
  have F1 := F.push { cls := .type "dict", data := .dict #[] }
  have hnew : s.heap.objs.size ≠ L := Ne.symm (Nat.ne_of_lt F.ns.lt)
  have ho1 : (s.heap.push { cls := .type "dict", data := .dict #[] }).get? o = some (dictOf [] 0) := F1.keep _ _ ho
  have hd1 : (s.heap.push { cls := .type "dict", data := .dict #[] }).get? s.heap.objs.size = some (dictOf [] 0) := Heap.get?_push_size _ rfl
  have hdo : s.heap.objs.size ≠ o := Ne.symm (Nat.ne_of_lt (Heap.lt_size (F.keep _ _ ho)))
  refine wpAny_bind (wpAny_holding (wpAny_bind (hval _ _ F1 (wpAny_bind (wpAny_standAt (wpAny_pure ?_))))))
  refine wpAny_bind (wpAny_onRaise (wpAny_tryCatch (wpAny_onRaise (wpAny_holding (merge_ex (s := { s with heap := s.heap.push { cls := .type "dict", data := .dict #[] } }) (ps := []) hdo hoS List.nodup_nil (Nat.zero_le _) hd1 ho1 fun h2 hd2 hs2 => ?_)))))
  refine wpAny_pure ?_
  dsimp only
  have F2 : Fr h₀ L h2 m := F1.change hs2 hnew (next_is_new F)
  simp only [List.forIn_cons, List.forIn_nil, List.nil_append, List.cons_append, List.length_cons, List.length_nil, Nat.reduceAdd, Nat.reduceBEq, Bool.false_eq_true, if_false, pure_bind]
  refine wpAny_pure ?_
  dsimp only
  refine wpAny_bind ?_
  rw [if_neg (by simp)]
  refine wpAny_bind (wpAny_holding (subDict_ex (by simp) ?_))
  refine cpair_eval (pos := pos) (p1 := p1) (p2 := q1) (k1 := k1) (k2 := j1) (x := x1) (y := y1) (env := env) ?_
  refine cpair_eval (pos := pos) (p1 := p2) (p2 := q2) (k1 := k2) (k2 := j2) (x := x2) (y := y2) (env := env) ?_
  refine cpair_eval (pos := pos) (p1 := p3) (p2 := q3) (k1 := k3) (k2 := j3) (x := x3) (y := y3) (env := env) ?_
  refine evalPairs_nil ?_
  dsimp only
  have hd3' : h2.get? s.heap.objs.size = some (dictOf [] 0) := hd2
  have hlt2 : s.heap.objs.size < h2.objs.size := Heap.lt_size hd3'
  refine ⟨[(x1, s.toks, Value.str y1 (s.toks + 1)), (x2, s.toks + 2, Value.str y2 (s.toks + 2 + 1)), (x3, s.toks + 2 + 2, Value.str y3 (s.toks + 2 + 2 + 1))], rfl, by simpa using hne, by simp, rfl, fun h3 ho3 hs3 => ?_⟩
  have hd3 : h3.get? s.heap.objs.size = some (dictOf [] 0) := (hs3.2 _ (Nat.ne_of_lt hlt2)).trans (Heap.get?_push_of_some _ hd3')
  have F2' : Fr h₀ L (h2.push { cls := .type "dict", data := .dict #[] }) m := F2.push _
  have hnew2 : h2.objs.size ≠ L := Ne.symm (Nat.ne_of_lt F2.ns.lt)
  have F3 : Fr h₀ L h3 m := F2'.change hs3 hnew2 (next_is_new F2)
  refine wpAny_bind (wpAny_onRaise (wpAny_holding (merge_ex (ps := [(x1, s.toks, Value.str y1 (s.toks + 1)), (x2, s.toks + 2, Value.str y2 (s.toks + 2 + 1)), (x3, s.toks + 2 + 2, Value.str y3 (s.toks + 2 + 2 + 1))]) (Nat.ne_of_lt hlt2) (lowSys hbig F2 (Nat.le_refl _)) (by simpa using hne) (by simp) hd3 ho3 fun h4 hd4 hs4 => ?_)))
  refine wpAny_pure ?_
  dsimp only
  refine wpAny_pure ?_
  refine h _ h4 (s.toks + 2 + 2 + 2 + 1) s.toks (F3.change hs4 hnew (next_is_new F)) (fun p hp => ?_) (fun p hp => Heap.lt_size (N p hp).1) (lowSys hbig F (Nat.le_refl _)) (Nat.le_refl _)
  rcases List.mem_cons.mp hp with rfl | hp
  · exact ⟨by simpa using hd4, hnew, next_is_new F⟩
  · have q0 := Heap.lt_size (N p hp).1
    have q1 := hs2.extBut _ _ (Nat.ne_of_lt q0) (Heap.get?_push_of_some _ (N p hp).1)
    have q2 := hs3.extBut _ _ (Nat.ne_of_lt (Heap.lt_size q1)) (Heap.get?_push_of_some _ q1)
    exact ⟨hs4.extBut _ _ (Nat.ne_of_lt q0) q2, (N p hp).2⟩
end
section
variable {prog : Program} {w : World} {A : Around} {E : Value → Shared → Prop} {s : Shared}
theorem items_next {it d : Addr} {i ep : Nat} {es : List DictEntry} {en : DictEntry} {ok ov : Value} {Q : Option Value → Shared → Prop} (hit : IsItemIter s.heap it d i es.length ep ok ov)
    (hm : s.heap.get? d = some (dictOf es ep)) (hx : es[i]? = some en)
    (hQ : ∀ h', IsItemIterOut h' it d (i + 1) es.length ep en.key en.val s.heap.objs.size → h'.get? s.heap.objs.size = some { cls := .type "tuple", data := .seq #[en.key, en.val] } →
      (∀ b o, b ≠ it → s.heap.get? b = some o → h'.get? b = some o) → Q (some (.ref s.heap.objs.size)) { s with heap := h' }) :
    wpAny (model prog w) A (pyNext (.ref it)) Q E s := by
  obtain ⟨hp, g, dr, tk, os⟩ := s
  have hT : Shared.TypeIs ⟨hp, g, dr, tk, os⟩ (.ref it) "dict_itemiterator" := ⟨_, hit, rfl⟩
  have hlt : i < es.length := by
    rcases Nat.lt_or_ge i es.length with h | h
    · exact h
    · simp [List.getElem?_eq_none h] at hx
  have hx' : es.toArray[i]? = some en := by simpa using hx
  unfold pyNext
  refine wpAny_bind (wpAny_attempt (wpAny_callSpecial?_slot (name := Str.ofString "__next__") hT F.slot_dict_itemiterator_next
    (wpAny_call_entry F.slot_dict_itemiterator_next hT F.entry_dict_itemiterator_next ?_ (F.args_dict_itemiterator_next_1 _))))
  refine wpAny_bind (wpAny_pure ?_)
  refine wpAny_bind ?_
  refine wpAny_bind ?_
  first | refine wpAny_bind (wpAny_typeNameOfWhole_itemiter hT (wpAny_pure ?_)) | refine wpAny_bind (wpAny_typeNameOf_itemiter hT (wpAny_pure ?_))
  refine wpAny_bind (wpAny_fieldsOf hit rfl ?_)
  have hown : Builtin.Dict_items.ownsTuple "dict_itemiterator" = true := by decide
  simp only [hown, if_true]
  show wpAny _ _ (if (Value.ref d == Value.none) = true then _ else _) _ _ _
  rw [if_neg (show ¬ ((Value.ref d == Value.none) = true) from Bool.false_ne_true)]
  refine wpAny_bind (wpAny_pure ?_)
  refine wpAny_bind (wpAny_dictEntries hm rfl ?_)
  have hsz : es.toArray.size = es.length := by simp
  rw [if_neg (by rw [hsz]; simp)]
  refine wpAny_bind (wpAny_pure ?_)
  refine wpAny_bind (wpAny_dictEpoch hm rfl ?_)
  rw [if_neg (by simp)]
  refine wpAny_pure ?_
  simp only [show ¬ ((i : Int) < 0) from by lia, if_false, Int.toNat_natCast, hx']
  refine wpAny_bind ?_
  first | refine wpAny_bind (wpAny_typeNameOfWhole_itemiter hT (wpAny_pure ?_)) | refine wpAny_bind (wpAny_typeNameOf_itemiter hT (wpAny_pure ?_))
  refine wpAny_bind (wpAny_isOneOf_itemiter hT ?_)
  show wpAny _ _ (setField (.ref it) 3 (rawInt ((i : Int) + 1)) >>= _) _ _ ⟨hp, g, dr, tk, os⟩
  refine wpAny_bind (wpAny_setField_rec hit (by simp) fun h₁ he₁ hs₁ => ?_)
  replace hs₁ : Heap.SameBut it hp h₁ := hs₁
  replace he₁ : IsItemIter h₁ it d (i + 1) es.length ep ok ov := by
    have e : ((i + 1 : Nat) : Int) = (i : Int) + 1 := by lia
    unfold IsItemIter; rw [e]; simpa [rawInt] using he₁
  have hT₁ : Shared.TypeIs ⟨h₁, g, dr, tk, os⟩ (.ref it) "dict_itemiterator" := ⟨_, he₁, rfl⟩
  refine wpAny_bind (wpAny_holding ?_)
  refine wpAny_bind (wpAny_isOneOf_itemiter hT₁ ?_)
  refine wpAny_bind (wpAny_isOneOf_itemiter hT₁ ?_)
  show wpAny _ _ (Builtin.Dict_items.pairFromOwner (.ref it) 6 en.key en.val) _ _ ⟨h₁, g, dr, tk, os⟩
  unfold Builtin.Dict_items.pairFromOwner
  refine wpAny_bind (wpAny_newTuple ?_)
  have he₂ : IsItemIter (h₁.push { cls := .type "tuple", data := .seq #[en.key, en.val] }) it d (i + 1) es.length ep ok ov := Heap.get?_push_of_some _ he₁
  generalize hh₂ : h₁.push { cls := .type "tuple", data := .seq #[en.key, en.val] } = h₂ at he₂
  have hz₁ : h₁.objs.size = hp.objs.size := hs₁.1
  have hil : it < hp.objs.size := Heap.lt_size hit
  have ht₂ : h₂.get? hp.objs.size = some { cls := .type "tuple", data := .seq #[en.key, en.val] } := by rw [← hh₂, ← hz₁]; exact Heap.get?_push_size _ rfl
  have hk₂ : ∀ b o, b ≠ it → hp.get? b = some o → h₂.get? b = some o := fun b o hb e => by rw [← hh₂]; exact Heap.get?_push_of_some _ (hs₁.extBut b o hb e)
  show wpAny _ _ (Builtin.Dict_items.ownedTupleIsFree (.ref it) >>= _) _ _ ⟨h₂, g, dr, tk, os⟩
  rw [hz₁]
  clear hh₂ he₁ hs₁ hT₁ hz₁ h₁
  refine wpAny_bind ?_
  unfold Builtin.Dict_items.ownedTupleIsFree
  refine wpAny_bind (wpAny_field he₂ rfl (x := .none) rfl (wpAny_pure ?_))
  simp only [if_true]
  refine wpAny_bind (wpAny_field he₂ rfl (x := ok) rfl ?_)
  refine wpAny_bind (wpAny_field he₂ rfl (x := ov) rfl ?_)
  refine wpAny_bind (wpAny_setField_rec he₂ (by simp) fun h₃ he₃ hs₃ => ?_)
  replace hs₃ : Heap.SameBut it h₂ h₃ := hs₃
  replace he₃ : IsItemIter h₃ it d (i + 1) es.length ep en.key ov := he₃
  refine wpAny_bind (wpAny_setField_rec he₃ (by simp) fun h₄ he₄ hs₄ => ?_)
  replace hs₄ : Heap.SameBut it h₃ h₄ := hs₄
  replace he₄ : IsItemIter h₄ it d (i + 1) es.length ep en.key en.val := he₄
  refine wpAny_bind (wpAny_setField_rec he₄ (by simp) fun h₅ he₅ hs₅ => ?_)
  replace hs₅ : Heap.SameBut it h₄ h₅ := hs₅
  replace he₅ : IsItemIterOut h₅ it d (i + 1) es.length ep en.key en.val hp.objs.size := he₅
  refine wpAny_bind (wpAny_setField_rec he₅ (by simp) fun h₆ he₆ hs₆ => ?_)
  replace hs₆ : Heap.SameBut it h₅ h₆ := hs₆
  replace he₆ : IsItemIterOut h₆ it d (i + 1) es.length ep en.key en.val hp.objs.size := he₆
  refine wpAny_bind (wpAny_letGo (wpAny_pure (wpAny_pure ⟨_, rfl, wpAny_pure (hQ h₆ he₆ ?_ ?_)⟩)))
  · exact hs₆.extBut _ _ (Nat.ne_of_gt hil) (hs₅.extBut _ _ (Nat.ne_of_gt hil) (hs₄.extBut _ _ (Nat.ne_of_gt hil) (hs₃.extBut _ _ (Nat.ne_of_gt hil) ht₂)))
  · exact fun b o hb e => hs₆.extBut b o hb (hs₅.extBut b o hb (hs₄.extBut b o hb (hs₃.extBut b o hb (hk₂ b o hb e))))
end
section
variable {prog : Program} {w : World} {A : Around} {E : Value → Shared → Prop} {s : Shared} {env : Env} {h₀ : Heap} {L : Addr} {m : Str → Option Value} {news : List (Addr × Obj)} {body : List Stmt} {Q : Flow → Shared → Prop}
theorem dictAt_ex {h : Heap} {d : Addr} {ps : List (Str × Tok × Value)} {ep : Nat} (ho : h.get? d = some (dictOf (ps.map (entOf w)) ep)) (hn : (ps.map (·.1)).Nodup) :
    h.DictAt (PySem.strKind prog w) d (ps.map fun p => (p.1, p.2.2)) ep := by
  refine ⟨_, _, ho, ⟨rfl, rfl, rfl⟩, rfl, fun e he => ?_, ?_, by simpa [Function.comp_def] using hn⟩
  · obtain ⟨p, _, rfl⟩ := List.mem_map.mp (show e ∈ ps.map (entOf w) by simpa using he)
    exact ⟨p.1, strKind_is prog w _ _, rfl⟩
  · show Pairs _ (ps.map (entOf w)) _
    clear ho hn
    induction ps with
    | nil => exact .nil
    | cons p ps ih => exact .cons (strKind_is prog w _ _) rfl ih

theorem exTurns {elts : List PySem.Expr} {kk : Nat} {pos : Pos} (hh : A.handled = none) (I d : Addr) (hne : d ≠ I) (ps : List (Str × Tok × Value)) (ep : Nat) (hn : (ps.map (·.1)).Nodup) :
    KTurns prog w A (.Tuple elts kk pos) I [I, d] [I] ps.length
      (fun i v h => ∃ T p, v = .ref T ∧ ps[i]? = some p ∧ h.IsTuple T #[.str p.1 p.2.1, p.2.2])
      (fun i v h => ∃ T p ok ov, v = .ref T ∧ ps[i]? = some p ∧ h.IsTuple T #[.str p.1 p.2.1, p.2.2] ∧ IsItemIterOut h I d (i + 1) ps.length ep ok ov T ∧ h.get? d = some (dictOf (ps.map (entOf w)) ep) ∧ T ≠ I)
      (fun i h => (∃ ok ov, IsItemIter h I d i ps.length ep ok ov) ∧ h.get? d = some (dictOf (ps.map (entOf w)) ep)) where
  sub := fun b hb => by simp at hb; simp [hb]
  frame := fun i h h' st hk => by
    obtain ⟨⟨ok, ov, he⟩, hm⟩ := st
    exact ⟨⟨ok, ov, hk I (by simp) _ he⟩, hk d (by simp) _ hm⟩
  item := fun i s Q E hi st hQ => by
    obtain ⟨⟨ok, ov, he⟩, hm⟩ := st
    have hx : ps[i]? = some ps[i] := List.getElem?_eq_getElem hi
    have he' : IsItemIter s.heap I d i (ps.map (entOf w)).length ep ok ov := by rw [List.length_map]; exact he
    refine items_next he' hm (en := entOf w ps[i]) (by rw [List.getElem?_map, hx]; rfl) fun h' ho hT hk => ?_
    rw [List.length_map] at ho
    exact hQ (.ref s.heap.objs.size) h' s.toks ⟨s.heap.objs.size, ps[i], _, _, rfl, hx, ⟨_, hT, rfl, _, rfl⟩, ho, hk d _ hne hm, Nat.ne_of_gt (Heap.lt_size he)⟩ fun b o hb e => hk b o (fun h => hb (by simp [h])) e
  go := fun i v s Q E hm hQ => by
    obtain ⟨T, p, ok, ov, rfl, hx, hT, ho, hd, hTI⟩ := hm
    refine wpAny_letOwnedTupleGo_items ho fun h' he hs => ?_
    exact hQ h' ⟨T, p, rfl, hx, hT.at fun o e => hs.extBut T o hTI e⟩ ⟨⟨ok, ov, he⟩, hs.extBut d _ hne hd⟩ fun b o hb e => hs.extBut b o (fun h => hb (by simp [h])) e
  done := fun s Q E st hQ => by
    obtain ⟨⟨ok, ov, he⟩, hm⟩ := st
    have he' : IsItemIter s.heap I d ps.length (ps.map fun p => (p.1, p.2.2)).length ep ok ov := by rw [List.length_map]; exact he
    exact wpAny_pyNext_items_end hh he' (dictAt_ex (prog := prog) hm hn) (by simp) fun h' hx => hQ h' s.toks fun b o hb e => hx b o (fun h => hb (by simp [h])) e

theorem items_turns {elts : List PySem.Expr} {kk : Nat} {pos : Pos} {d vw : Addr} {ps : List (Str × Tok × Value)} {ep : Nat}
    (hh : A.handled = none) (F : Fr h₀ env.locals s.heap m) (N : News h₀ env.locals s.heap news) (hvw : ∃ ov, s.heap.get? vw = some ov ∧ ov.cls = .type "dict_items" ∧ ov.data = .fields #[.ref d]) (hm : (d, dictOf (ps.map (entOf w)) ep) ∈ news) (hn : (ps.map (·.1)).Nodup)
    (rest₀ : ∀ I : Addr, (∀ p ∈ news, p.1 < I) → ItemsRest prog w A E h₀ env (.Tuple elts kk pos) body Q s [(I, "dict_itemiterator")] [(d, dictOf (ps.map (entOf w)) ep)] (ps.map fun p => Itm.pair (fun _ => .str p.1 p.2.1) p.2.2) m news) :
    wpAny (model prog w) A (pyIter (.ref vw)) (fun it s₂ => TurnsAt prog w A h₀ env (.Tuple elts kk pos) body Q E it s₂) E s := by
  have hax := N _ hm
  have hat := dictAt_ex (prog := prog) hax.1 hn
  have hne : d ≠ s.heap.objs.size := Nat.ne_of_lt hat.lt_size
  refine wpAny_pyIter_items hvw hat ?_
  refine ktu_core (tk0 := s.toks) (keep := [(d, dictOf (ps.map (entOf w)) ep)]) (exTurns hh s.heap.objs.size d hne ps ep hn) (by rw [List.length_map]) ?_ ?_ ?_ ?_ ?_ ?_ ?_ ?_ (F.push _) (fun p hp => ⟨Heap.get?_push_of_some _ (N p hp).1, (N p hp).2⟩) (And.intro hm trivial) (rest₀ _ fun p hp => Heap.lt_size (N p hp).1)
  · rintro i v h ⟨T, p, rfl, hx, hT⟩
    exact ⟨.pair (fun _ => .str p.1 p.2.1) p.2.2, by rw [List.getElem?_map, hx]; rfl, T, 0, rfl, hT⟩
  · rintro i h ⟨⟨ok, ov, he⟩, _⟩
    have e1 : ∃ o : Obj, h.get? s.heap.objs.size = some o ∧ o.cls = .type "dict_itemiterator" := ⟨_, he, rfl⟩
    obtain ⟨oi, g, c⟩ := e1
    exact ⟨[(s.heap.objs.size, oi)], ⟨⟨rfl, c⟩, trivial⟩, fun p hp => by rw [List.mem_singleton.mp hp]; exact g⟩
  · intro b hb
    have hb' : b = s.heap.objs.size := by simpa using hb
    rw [hb']
    exact ⟨List.mem_cons_self .., next_is_new F⟩
  · intro b hb
    simpa using hb
  · intro b hb
    have hb' : b = s.heap.objs.size ∨ b = d := by simpa using hb
    rcases hb' with e | e
    · exact .inl (by simp [e])
    · exact .inr ⟨dictOf (ps.map (entOf w)) ep, by rw [e]; exact .head _⟩
  · intro hI
    have hb' : env.locals = s.heap.objs.size ∨ env.locals = d := by simpa using hI
    rcases hb' with e | e
    · exact absurd F.ns.lt (e ▸ Nat.lt_irrefl _)
    · exact hax.2.1 e.symm
  · intro p hp hI
    exact absurd (Heap.lt_size (N p hp).1) ((List.mem_singleton.mp hI) ▸ Nat.lt_irrefl _)
  · refine ⟨⟨.none, .none, ?_⟩, Heap.get?_push_of_some _ hax.1⟩
    have := Heap.get?_push_size s.heap (o := { cls := .type "dict_itemiterator", data := .fields #[.none, .bool false, .ref d, .int 0 0, .int (ps.map fun p => (p.1, p.2.2)).length 0, .int ep 0, .none, .none] }) rfl
    rw [List.length_map] at this ⊢
    exact this

theorem items_meth {pl : Sem Bool} {d : Addr} {ps : List (Str × Tok × Value)} {ep : Nat} {Q : Value × List Value → Shared → Prop} (N : News h₀ L s.heap news) (hm : (d, dictOf (ps.map (entOf w)) ep) ∈ news) (hn : (ps.map (·.1)).Nodup)
    (h : Q (.builtin "dict.items", [.ref d]) s) : wpAny (model prog w) A (getMethod (.ref d) (Str.ofString "items") pl) Q E s := by
  have hd := (dictAt_ex (prog := prog) (N _ hm).1 hn).dictOf
  exact getMethod_builtin hd.typeIs PySem.F.plainAttrs_dict PySem.F.slot_dict_items PySem.F.type_dict_items hd.mapOf.noDict h
theorem items_call {d : Addr} {ps : List (Str × Tok × Value)} {ep : Nat} {Q : Value → Shared → Prop} (F : Fr h₀ L s.heap m) (N : News h₀ L s.heap news) (hm : (d, dictOf (ps.map (entOf w)) ep) ∈ news) (hn : (ps.map (·.1)).Nodup) (lo : (d == sysModules) = false)
    (h : ∀ h', (∃ ov, h'.get? s.heap.objs.size = some ov ∧ ov.cls = .type "dict_items" ∧ ov.data = .fields #[.ref d]) → Fr h₀ L h' m → News h₀ L h' news → Q (.ref s.heap.objs.size) { s with heap := h' }) :
    wpAny (model prog w) A (call (.builtin "dict.items") [.ref d]) Q E s := by
  have hd := (dictAt_ex (prog := prog) (N _ hm).1 hn).dictOf
  exact call_meetsIn PySem.F.slot_dict_items hd.typeIs PySem.F.entry_dict_items (PySem.F.args_dict_items_1 _) (meets_dict_items (PySem.strKind prog w) d lo)
    ⟨⟨_, hd⟩, h _ ⟨_, Heap.get?_push_size _ rfl, rfl, rfl⟩ (F.push _) (fun p hp => ⟨Heap.get?_push_of_some _ (N p hp).1, (N p hp).2⟩)⟩
end
section
variable {prog : Program} {w : World} {A : Around} {E : Value → Shared → Prop} {s : Shared} {env : Env} {h₀ : Heap} {news : List (Addr × Obj)} {body : List Stmt} {Q : Flow → Shared → Prop} {target : PySem.Expr}
/-- what a turn leaves -/
def TurnEnds (news : List (Addr × Obj)) (C : (Str → Option Value) → Prop) (m : Str → Option Value) (n : List (Addr × Obj)) : Prop := n = news ∧ C m
theorem items_ind {α : Type} {f : α → Itm} {ws : List (Addr × String)} {keep : List (Addr × Obj)} (hk : SubL keep news) (C : List α → (Str → Option Value) → Prop)
    (hnil : ∀ m, C [] m → ∀ h tk, Fr h₀ env.locals h m → News h₀ env.locals h news → Q .next { s with heap := h, toks := tk })
    (hcons : ∀ p qs m, C (p :: qs) m → ∀ v h tk, (f p).Is v h → Fr h₀ env.locals h m → AllObj ws (fun its => News h₀ env.locals h (its ++ news) →
      wpAny (model prog w) A (assign target env v) (fun _ s₂ => wpAny (model prog w) A (execs body env) (UnrPostW h₀ env.locals { s with heap := h, toks := tk } its (TurnEnds news (C qs)) Q) E s₂) E { s with heap := h, toks := tk })) :
    ∀ qs m, C qs m → ItemsRest prog w A E h₀ env target body Q s ws keep (qs.map f) m news
  := by
  intro qs
  induction qs with
  | nil => exact fun m h => hnil m h
  | cons p qs ih =>
    intro m h v h' tk hv F
    have hc := hcons p qs m h v h' tk hv F
    have up : ∀ its, (News h₀ env.locals h' (its ++ news) → wpAny (model prog w) A (assign target env v) (fun _ s₂ => wpAny (model prog w) A (execs body env) (UnrPostW h₀ env.locals { s with heap := h', toks := tk } its (TurnEnds news (C qs)) Q) E s₂) E { s with heap := h', toks := tk }) →
        News h₀ env.locals h' (its ++ news) → wpAny (model prog w) A (assign target env v) (fun _ s₂ => wpAny (model prog w) A (execs body env) (UnrPostW h₀ env.locals { s with heap := h', toks := tk } its (fun m' n' => SubL keep n' ∧ ItemsRest prog w A E h₀ env target body Q s ws keep (qs.map f) m' n') Q) E s₂) E { s with heap := h', toks := tk } := by
      intro its hx N
      refine wpAny_mono (hx N) (fun _ s₂ h₂ => wpAny_mono h₂ (fun fl s₃ h₃ => ?_) fun _ _ e => e) fun _ _ e => e
      have e1 : UnrEndW h₀ env.locals { s with heap := h', toks := tk } its (TurnEnds news (C qs)) s₃ → UnrEndW h₀ env.locals { s with heap := h', toks := tk } its (fun m' n' => SubL keep n' ∧ ItemsRest prog w A E h₀ env target body Q s ws keep (qs.map f) m' n') s₃ := by
        rintro ⟨h2, tk2, m2, n2, e, F2, N2, o2, e2, c2⟩
        subst e2
        exact ⟨h2, tk2, m2, _, e, F2, N2, o2, hk, ih m2 c2⟩
      cases fl with
      | ret v => exact h₃
      | brk => exact h₃
      | next => exact e1 h₃
      | cont => exact e1 h₃
    have all : ∀ (ws : List (Addr × String)) (k k' : List (Addr × Obj) → Prop), (∀ its, k its → k' its) → AllObj ws k → AllObj ws k' := by
      intro ws
      induction ws with
      | nil => exact fun k k' hh x => hh _ x
      | cons w r ih => exact fun k k' hh x o ho => ih _ _ (fun its => hh _) (x o ho)
    exact all _ _ _ up hc
end
def valStr : Value → Str
  | .str y _ => y
  | _ => Str.empty
def replAll : List (Str × Tok × Value) → Str → Str
  | [], x => x
  | p :: r, x => replAll r (Txt.replace x p.1 (valStr p.2.2))
def PairOk (p : Str × Tok × Value) : Prop := ∃ y u, p.2.2 = .str y u ∧ p.2.1 ≠ 0 ∧ u ≠ 0 ∧ p.2.1 ≠ u ∧ (p.1 == y) = false ∧ y.length ≤ 14
section
variable {prog : Program} {w : World} {A : Around} {E : Value → Shared → Prop} {s : Shared} {h₀ : Heap} {L : Addr} {m : Str → Option Value} {env : Env}
/-- a text as a comprehension's source -/
def SrcS (prog : Program) (w : World) (A : Around) (h₀ : Heap) (L : Addr) (m : Str → Option Value) (env : Env) (elt : PySem.Expr) (x : Str) (scope : Scope) (cl : List (Str × Addr)) (Fin : Shared → List Value → List (Addr × Obj) → Prop) (xv : Value) (s₁ : Shared) : Prop :=
  ∃ y t news, xv = .str y t ∧ A.handled = none ∧ Fr h₀ L s₁.heap m ∧ News h₀ L s₁.heap news ∧ y.length ≤ sizeLine ∧
    ∀ s₂ : Shared, (∃ h, s₂ = { s₁ with heap := h }) → LCg.CompRest prog w A h₀ L m env elt x scope cl s₂ (fun _ => True) (SignAt y) (Fin s₂) y.cps.size 0 [] news
theorem strIter_st {I : Addr} {T : String} {x : Str} {t : Tok} : ∀ i (h h' : Heap) (o : Obj) (nw : List (Addr × Obj)), h.IsStrIter I T x t i → h.get? I = some o → h'.get? I = some o → (∀ b o, h₀.get? b = some o → h'.get? b = some o) → News h₀ L h' nw → True → h'.IsStrIter I T x t i :=
  fun i h h' o nw st e e' _ _ _ => by obtain ⟨o', q, r⟩ := st; rw [e] at q; cases q; exact ⟨o, e', r⟩
theorem str_block {elt iter : PySem.Expr} {x : Str} {px : Pos} {scope : Scope} {cl : List (Str × Addr)} {pos : Pos} {y : Str} {t : Tok} {s₁ : Shared} {news : List (Addr × Obj)} {Fin : Shared → List Value → List (Addr × Obj) → Prop} {RR : Value → Addr → Result → Shared → Prop}
    (hcell : ∀ y ∈ scope.names, y.2 ≠ .cell) (hkind : scope.kind = .function) (hx : scope.names.lookup x = some .local)
    (hh : A.handled = none) (F : Fr h₀ L s₁.heap m) (N : News h₀ L s₁.heap news) (hsz : y.length ≤ sizeLine)
    (R : ∀ s₂ : Shared, (∃ h, s₂ = { s₁ with heap := h }) → LCg.CompRest prog w A h₀ L m env elt x scope cl s₂ (fun _ => True) (SignAt y) (Fin s₂) y.cps.size 0 [] news)
    (hRR : ∀ s₂ : Shared, (∃ h, s₂ = { s₁ with heap := h }) → ∀ D C h tk m' ys news', Fr h₀ L h m → News h₀ L h ((D, LCg.lst ys) :: news') → LCg.Off1 D news' → h.Ns C m' → h₀.get? C = none → h₀.get? D = none → C ≠ L → D ≠ L → C ≠ D → (∀ p ∈ news', p.1 ≠ C) → Fin s₂ ys news' → RR (.ref D) C (.ok .next) { s₂ with heap := h, toks := tk }) :
    wpAny (model prog w) A (pyIter (.str y t)) (fun it s₂ => wpAny (model prog w) A (newList []) (fun acc s₃ => wpAny (model prog w) A (newFunctionEnv scope env.globals cl [] env.qual none .none (some env)) (fun cenv s₄ =>
      codeAny (model prog w) A (.compStart (.ListComp elt [⟨.Name x px, iter, [], 0⟩] scope pos) 0 it acc { cenv with scope := relabel scope env }) (RR acc cenv.locals) s₄) E s₃) E s₂) E s₁ := by
  have key : ∀ (T : String) (o : Obj),
      Walks prog w A s₁.heap.objs.size [s₁.heap.objs.size] [s₁.heap.objs.size] y.cps.size (SignAt y) (fun i h => h.IsStrIter s₁.heap.objs.size T y t i) →
      (s₁.heap.push o).IsStrIter s₁.heap.objs.size T y t 0 → _ := fun T o W st =>
    LCg.block_U (x := x) (px := px) (iter := iter) (pos := pos) (elt := elt) (m := m) (cl := cl) (env := env) (s₂ := { s₁ with heap := s₁.heap.push o }) (E := E) (S := fun _ => True) (Fin := Fin { s₁ with heap := s₁.heap.push o }) (h₀ := h₀) (L := L) (news := news)
      (RR := RR)
      W hsz (fun i h st => by obtain ⟨o, e, _⟩ := st; exact ⟨o, e⟩) strIter_st hcell hkind hx st (fun b hb => by
        rw [List.mem_singleton.mp hb]
        show s₁.heap.objs.size < (s₁.heap.push _).objs.size
        rw [Heap.size_push]; exact Nat.lt_succ_self _)
      (F.keeps fun _ _ e => Heap.get?_push_of_some _ e) (N.grown fun _ _ e => Heap.get?_push_of_some _ e) (Nat.ne_of_lt F.ns.lt) (next_is_new F) (fun p hp => Nat.ne_of_lt (Heap.lt_size (N p hp).1)) trivial (R _ ⟨_, rfl⟩)
      (hRR _ ⟨_, rfl⟩)
  cases ha : y.cps.all (· < 128)
  · refine wpAny_pyIter_wide ha ?_
    refine key "str_iterator" _ (Walks.strWide hh _ y t) ?_
    exact ⟨_, Heap.get?_push_size _ rfl, rfl, rfl⟩
  · refine wpAny_pyIter_ascii ha ?_
    refine key "str_ascii_iterator" _ (Walks.strAscii hh _ y t) ?_
    exact ⟨_, Heap.get?_push_size _ rfl, rfl, rfl⟩
theorem ListComp_S {elt iter : PySem.Expr} {x : Str} {px : Pos} {scope : Scope} {cl : List (Str × Addr)} {pos : Pos} {Q : Value → Shared → Prop} (_F₀ : Fr h₀ L s.heap m)
    (hclos : closureFor scope env = pure cl) (hcell : ∀ y ∈ scope.names, y.2 ≠ .cell) (hkind : scope.kind = .function)
    (hnames : ∀ y ∈ scope.names, y.2 = .local → scope.names.lookup y.1 = some .local) (hx : scope.names.lookup x = some .local)
    (h : wpAny (model prog w) A (eval iter env) (SrcS prog w A h₀ L m env elt x scope cl (fun s₂ => LCg.FinE h₀ L m s₂ Q)) E s)
    (hs : ∀ x, foldedSetIterable iter env x = pure x := by intro _; rfl) :
    wpAny (model prog w) A (eval (.ListComp elt [⟨.Name x px, iter, [], 0⟩] scope pos) env) Q E s := by
  rw [eval_ListComp]
  refine wpAny_comprehension_free (use := none) rfl hs hclos hkind hnames (wpAny_mono h (fun xv s₁ h₁ => ?_) fun _ _ e => e)
  refine hideG fun G hG => ?_
  obtain ⟨y, t, news, rfl, hh, F, N, hsz, R⟩ := h₁
  refine hG ?_
  clear hG
  refine str_block hcell hkind hx hh F N hsz R ?_
  intro s₂ hR1 D C h tk m' ys news' F' N' o1 hn hC₀ hD₀ hCL hDL hCD offC fin
  refine hideG fun G hG => ?_
  obtain ⟨g, rfl⟩ := hR1
  refine hG ?_
  clear hG
  refine ⟨m', hn, fun h'' hs'' => fin D h'' tk (F'.change hs'' hCL hC₀) (fun p hp => ?_) o1⟩
  refine ⟨hs''.extBut _ _ ?_ (N' p hp).1, (N' p hp).2⟩
  rcases List.mem_cons.mp hp with rfl | hp
  · exact Ne.symm hCD
  · exact offC p hp
theorem Assign_ListComp_S {elt iter : PySem.Expr} {x y : Str} {px py : Pos} {scope : Scope} {cl : List (Str × Addr)} {pos spos : Pos} {Q : Flow → Shared → Prop} (_F₀ : Fr h₀ L s.heap m) (hLe : env.locals = L)
    (hsw : swapsWith (.ListComp elt [⟨.Name x px, iter, [], 0⟩] scope pos) (some (.Name y py)) spos.line env = pure true)
    (hclos : closureFor scope env = pure cl) (hcell : ∀ z ∈ scope.names, z.2 ≠ .cell) (hkind : scope.kind = .function)
    (hnames : ∀ z ∈ scope.names, z.2 = .local → scope.names.lookup z.1 = some .local) (hx : scope.names.lookup x = some .local)
    (hy : env.kindOf y = some .local) (hp : (env.scope.kind == .class || (env.scope.kind == .module && env.locals != env.globals)) = false)
    (h : wpAny (model prog w) A (eval iter env) (SrcS prog w A h₀ L m env elt x scope cl (fun s₂ => LCg.FinA h₀ L m s₂ y Q)) E s)
    (hs : ∀ x, foldedSetIterable iter env x = pure x := by intro _; rfl) :
    wpAny (model prog w) A (exec (.Assign [.Name y py] (.ListComp elt [⟨.Name x px, iter, [], 0⟩] scope pos) spos) env) Q E s := by
  subst hLe
  rw [exec_Assign_Name_used _ _ _ _ hsw]
  refine wpAny_bind (wpAny_standAt (wpAny_bind ?_))
  show wpAny _ A (do let _ ← comprehension (.ListComp elt [⟨.Name x px, iter, [], 0⟩] scope pos) scope env _ (newList []) false (eval iter env) (some (assign (.Name y py) env))) _ _ s
  refine wpAny_bind (wpAny_mono (wpAny_comprehension_free (use := some (assign (.Name y py) env)) (Q := fun _ s' => Q .next s') rfl hs hclos hkind hnames
    (wpAny_mono h (fun xv s₁ h₁ => ?_) fun _ _ e => e)) (fun _ s' hq => wpAny_pure (wpAny_pure hq)) fun _ _ e => e)
  refine hideG fun G hG => ?_
  obtain ⟨y', t, news, rfl, hh, F, N, hsz, R⟩ := h₁
  refine hG ?_
  clear hG
  refine str_block hcell hkind hx hh F N hsz R ?_
  intro s₂ hR1 D C h tk m' ys news' F' N' o1 hn hC₀ hD₀ hCL hDL hCD offC fin
  refine hideG fun G hG => ?_
  obtain ⟨g, rfl⟩ := hR1
  refine hG ?_
  clear hG
  show wpAny _ A (assign (.Name y py) env (.ref D)) _ _ _
  refine wpAny_assign_Name (wpAny_storeName_local hy F'.ns (fun h₂ hn₂ hs₂ => ?_) hp)
  have hL₀ : h₀.get? env.locals = none := Heap.get?_none_of_le F'.above
  have F₂ : Fr h₀ env.locals h₂ (fun z => if z = y then some (.ref D) else m z) := ⟨hn₂, fun b o e => hs₂.extBut b o (fun q => by rw [q, hL₀] at e; cases e) (F'.keep b o e), F'.above⟩
  refine ⟨m', hn.sameBut hs₂ hCL, fun h'' hs'' => fin D h'' _ (F₂.change hs'' hCL hC₀) (fun p hp => ?_) o1⟩
  have z : h₂.get? p.1 = some p.2 := hs₂.extBut _ _ (N' p hp).2.1 (N' p hp).1
  refine ⟨hs''.extBut _ _ ?_ z, (N' p hp).2⟩
  rcases List.mem_cons.mp hp with rfl | hp
  · exact Ne.symm hCD
  · exact offC p hp
/-- the turns of a comprehension by an invariant -/
theorem comp_ind {elt : PySem.Expr} {x : Str} {scope : Scope} {cl : List (Str × Addr)} {S : List (Addr × Obj) → Prop} {P : Nat → Value → Prop} {Fin : List Value → List (Addr × Obj) → Prop} {n : Nat}
    (C : Nat → List Value → List (Addr × Obj) → Prop)
    (turn : ∀ i ys news v I oI Cc oC D m₂ h tk (E' : Value → Shared → Prop), i < n → C i ys news → P i v → LCg.NsObj oC m₂ → m₂ x = some v → Fr h₀ L h m → News h₀ L h ((I, oI) :: (Cc, oC) :: (D, LCg.lst ys) :: news) → LCg.Off3 I Cc D news → ((@Ne Nat I Cc) ∧ (@Ne Nat I D) ∧ (@Ne Nat Cc D)) →
      wpAny (model prog w) A (eval elt (compEnvC scope cl Cc env)) (LCg.CompEnd h₀ L m { s with heap := h, toks := tk } I oI Cc oC D (LCg.lst ys) S (fun y news' => C (i + 1) (ys ++ [y]) news')) E' { s with heap := h, toks := tk })
    (fin : ∀ ys news, C n ys news → Fin ys news) :
    ∀ k i ys news, i + k = n → C i ys news → LCg.CompRest prog w A h₀ L m env elt x scope cl s S P Fin k i ys news := by
  intro k
  induction k with
  | zero => intro i ys news e c; obtain rfl : i = n := by lia
            exact fin _ _ c
  | succ k ih =>
    intro i ys news e c
    intro v I oI Cc oC D m₂ h tk E' hP h1 h2 F N off ne
    refine wpAny_mono (turn i ys news v I oI Cc oC D m₂ h tk E' (by lia) c hP h1 h2 F N off ne) (fun y s₂ hy => ?_) fun _ _ e => e
    obtain ⟨h', tk, news', rfl, F', N', o', hS, r⟩ := hy
    exact ⟨h', tk, news', rfl, F', N', o', hS, ih _ _ _ (by lia) r⟩
end
section
variable {prog : Program} {w : World} {A : Around} {E : Value → Shared → Prop} {s : Shared} {env : Env} {h₀ : Heap} {x : Str} {body : List Stmt} {Q : Flow → Shared → Prop}
set_option maxHeartbeats 3200000 in
theorem range_loop {r : Addr} {a₀ b₀ c₀ : Int} {t₀ u₀ v₀ : Tok} {n : Nat} {m₀ : Str → Option Value} {news nx₀ : List (Addr × Obj)} (J : Nat → (Str → Option Value) → List (Addr × Obj) → Prop)
    (hh : A.handled = none) (hr : IsRange s.heap r a₀ b₀ c₀ t₀ u₀ v₀) (hsmall : Builtin.Range.small a₀ b₀ c₀ = true) (hsz : Builtin.Range.rangeSize a₀ b₀ c₀ = (n : Int)) (F : Fr h₀ env.locals s.heap m₀) (N : News h₀ env.locals s.heap news) (hn : ∀ p ∈ nx₀, p ∈ news) (hj : J 0 m₀ nx₀)
    (turn : ∀ i t m₁ nx h tk own, i < n → OwnOff own (nx.map (·.1)) → (∀ p ∈ own, p.2.cls = .type "range_iterator") → J i m₁ nx → Fr h₀ env.locals h (fun y => if y = x then some (.int (a₀ + i * c₀) t) else m₁ y) → News h₀ env.locals h (nx ++ own) →
      wpAny (model prog w) A (execs body env) (InvPostG h₀ env.locals (J (i + 1)) own { s with heap := h, toks := tk } Q) E { s with heap := h, toks := tk })
    (done : ∀ m₁ nx h tk, J n m₁ nx → Fr h₀ env.locals h m₁ → News h₀ env.locals h nx → Q .next { s with heap := h, toks := tk }) :
    wpAny (model prog w) A (pyIter (.ref r)) (fun it s₂ => LoopAtV prog w A h₀ env x body Q E it s₂) E s := by
  refine wpAny_pyIter_range hr hsmall ?_
  have W : Walks prog w A s.heap.objs.size [s.heap.objs.size] [s.heap.objs.size] n (fun i v => i < n ∧ ∃ t, v = .int (a₀ + i * c₀) t)
      (fun i h => IsRangeIter h s.heap.objs.size (a₀ + (i : Nat) * c₀) ((n : Int) - (i : Nat)) c₀) := (Walks.range hh _ a₀ c₀ n).bound
  refine ⟨s.heap.objs.size, [s.heap.objs.size], [s.heap.objs.size], n, _, _, m₀, nx₀, J, rfl, W, ?_, ?_, ?_, (by show IsRangeIter _ _ _ _ _; rw [hsz]; simpa using Heap.get?_push_size _ rfl), F.push _, (fun p hp => ⟨Heap.get?_push_of_some _ (N p (hn p hp)).1, (N p (hn p hp)).2⟩), hj, ?_, ?_⟩
  · intro hm
    exact absurd F.ns.lt ((List.mem_singleton.mp hm) ▸ Nat.lt_irrefl _)
  · intro b hb
    rw [List.mem_singleton.mp hb]
    exact next_is_new F
  · intro p hp hI
    exact absurd (Heap.lt_size (N p (hn p hp)).1) ((List.mem_singleton.mp hI) ▸ Nat.lt_irrefl _)
  · rintro i v m₁ nx s₁ own ⟨h, tk, rfl⟩ hi ⟨_, t, rfl⟩ hJ hoff hown _ hmem hst F₁ N₁
    have sep : OwnOff own (nx.map (·.1)) := by
      intro p hp b hb e
      obtain ⟨q, hq, rfl⟩ := List.mem_map.mp hb
      exact hoff q hq (e ▸ hown p hp)
    have cl : ∀ p ∈ own, p.2.cls = .type "range_iterator" := by
      intro p hp
      have e1 := (N₁ p (List.mem_append_left _ hp)).1
      have e2 : p.1 = s.heap.objs.size := List.mem_singleton.mp (hown p hp)
      rw [e2, show h.get? s.heap.objs.size = some _ from hst] at e1
      rw [← Option.some.inj e1]
    have N₂ : News h₀ env.locals h (nx ++ own) := fun p hp => N₁ p ((List.mem_append.mp hp).elim (fun h => List.mem_append_right _ h) fun h => List.mem_append_left _ h)
    refine wpAny_mono (turn i t m₁ nx h tk own hi sep cl hJ F₁ N₂) (fun f s₂ p => ?_) fun _ _ e => e
    have fin : InvEndG h₀ env.locals (J (i + 1)) own { s with heap := h, toks := tk } s₂ → LoopStepU h₀ env.locals [s.heap.objs.size] own (J (i + 1)) { s with heap := h, toks := tk } .next s₂ := by
      intro hR1
      refine hideG fun G hG => ?_
      obtain ⟨h', tk', m', news', nx', e, F', N', hn', ho, ha, hm⟩ := hR1
      refine hG ?_
      clear hG
      refine ⟨rfl, h', tk', m', nx', e, F', fun p hp => N' p ((List.mem_append.mp hp).elim (ho p) (hn' p)), fun p hp hq => ?_, hm⟩
      have hq' : p.1 = s.heap.objs.size := List.mem_singleton.mp hq
      exact ha _ (hmem _ (List.mem_singleton.mpr rfl) (next_is_new F) _ hst) p.1 (List.mem_map.mpr ⟨p, hp, rfl⟩) hq'.symm
    cases f with
    | ret v => exact .ret p
    | brk => exact .brk p
    | next => exact .next (fin p)
    | cont => exact .cont (fin p)
  · rintro h' tk m' news' F' N' _ hJ
    exact done m' news' h' tk hJ F' N'
theorem allLt_mem {d : Addr} {l : List (Addr × Obj)} (h : AllLt d l) : ∀ p ∈ l, p.1 < d := by
  induction l with
  | nil => intro p hp; cases hp
  | cons q r ih =>
    intro p hp
    cases hp with
    | head => exact h.1
    | tail _ hp => exact ih h.2 p hp
end
theorem small0 (n : Nat) (hn : n ≤ 1000) : Builtin.Range.small 0 (n : Int) 1 = true := small_one (by decide) (by decide) (by lia) (by lia)
theorem rsize0 (n : Nat) : Builtin.Range.rangeSize 0 (n : Int) 1 = (n : Int) := by rw [rangeSize_one]; split <;> lia
theorem src_range {prog : Program} {w : World} {A₁ : Around} {h₁ : Heap} {L₁ : Addr} {m₁ : Str → Option Value} {env₁ : Env} {elt₁ : PySem.Expr} {x₁ : Str} {scope₁ : Scope} {cl₁ : List (Str × Addr)} {Fin₁ : Shared → List Value → List (Addr × Obj) → Prop} {r₁ : Addr} {t₁ u₁ v₁ : Tok} {news₁ : List (Addr × Obj)} {s₁ : Shared} (n₁ : Nat)
    (hh : A₁.handled = none) (F : Fr h₁ L₁ s₁.heap m₁) (N : News h₁ L₁ s₁.heap news₁) (hr : IsRange s₁.heap r₁ 0 (n₁ : Int) 1 t₁ u₁ v₁) (hsz : n₁ ≤ 1000)
    (h : ∀ g, LCg.CompRest prog w A₁ h₁ L₁ m₁ env₁ elt₁ x₁ scope₁ cl₁ { s₁ with heap := g } (fun _ => True) (fun i v => ∃ t, v = .int ((i : Nat) : Int) t) (Fin₁ { s₁ with heap := g }) n₁ 0 [] news₁) :
    LCg.CompSrc prog w A₁ h₁ L₁ m₁ env₁ elt₁ x₁ scope₁ cl₁ Fin₁ (.ref r₁) s₁ :=
  LCg.CompSrc.range hh F N hr (small0 _ hsz) (rsize0 _) (Nat.le_trans hsz (by rw [sizeLine_eq]; decide)) (by
    intro g
    have e : (fun (i : Nat) (v : Value) => ∃ t, v = Value.int (0 + (i : Int)) t) = (fun (i : Nat) (v : Value) => ∃ t, v = Value.int (i : Int) t) := by funext i v; rw [Int.zero_add]
    rw [e]; exact h g)
theorem fc {α : Type} {P : α → Prop} {a : α} {l : List α} (h : P a) (k : ∀ x, x ∈ l → P x) : ∀ x, x ∈ a :: l → P x := List.forall_mem_cons.mpr ⟨h, k⟩
section
open StrLaws Builtin Builtin.Str
/-- replace on lists -/
def rpS (y z : List Nat) : Nat → List Nat → List Nat
  | _, [] => []
  | k + 1, _ :: r => rpS y z k r
  | 0, c :: r => if y.isPrefixOf (c :: r) then z ++ rpS y z (y.length - 1) r else c :: rpS y z 0 r
theorem rpS_skip (y z : List Nat) : ∀ k l, rpS y z k l = rpS y z 0 (l.drop k)
  | 0, _ => rfl
  | _ + 1, [] => rfl
  | k + 1, _ :: r => by rw [rpS, rpS_skip y z k r]; rfl
theorem at_iff (x y : Str) (i : Nat) (hi : i < x.length) : At x y x.length i ↔ y.cps.toList.isPrefixOf (x.cps.toList.drop i) = true := by
  unfold At
  rw [subAt_eq, List.isPrefixOf_iff_prefix, List.prefix_iff_eq_take, beq_iff_eq]
  have hn : x.cps.toList.length = x.length := by simp [Str.length]
  have hm : y.cps.toList.length = y.length := by simp [Str.length]
  rw [hm]
  constructor
  · rintro ⟨_, h⟩; exact h.symm
  · intro h
    refine ⟨?_, h.symm⟩
    have := congrArg List.length h
    rw [List.length_take, List.length_drop, hm, hn] at this
    lia
theorem rpS_free (x y : Str) (z : List Nat) (hy : 1 ≤ y.length) : ∀ (n a : Nat), a + n ≤ x.length → (∀ k, a ≤ k → k < a + n → ¬ At x y x.length k) →
    rpS y.cps.toList z 0 (x.cps.toList.drop a) = (x.cps.toList.drop a).take n ++ rpS y.cps.toList z 0 (x.cps.toList.drop (a + n))
  | 0, a, _, _ => by simp
  | n + 1, a, hl, h => by
    have hn : x.cps.toList.length = x.length := by simp [Str.length]
    have ha := h a (Nat.le_refl _) (by lia)
    rw [at_iff x y a (by lia)] at ha
    rw [List.drop_eq_getElem_cons (by lia)] at ha ⊢
    rw [rpS, if_neg ha, rpS_free x y z hy n (a + 1) (by lia) (fun k h1 h2 => h k (by lia) (by lia))]
    rw [show a + 1 + n = a + (n + 1) by lia, List.take_succ_cons, List.cons_append]
theorem rpS_end (x y : Str) (z : List Nat) (hy : 1 ≤ y.length) (a : Nat) (h : ∀ k, a ≤ k → ¬ At x y x.length k) : rpS y.cps.toList z 0 (x.cps.toList.drop a) = x.cps.toList.drop a := by
  have hn : x.cps.toList.length = x.length := by simp [Str.length]
  by_cases ha : a ≤ x.length
  · rw [rpS_free x y z hy (x.length - a) a (by lia) (fun k h1 _ => h k h1)]
    rw [show a + (x.length - a) = x.length by lia, List.drop_of_length_le (i := x.length) (by lia), rpS, List.append_nil, List.take_of_length_le (by rw [List.length_drop]; lia)]
  · rw [List.drop_of_length_le (by lia), rpS]
theorem rpS_chain (x y z : Str) (hy : 1 ≤ y.length) : ∀ (cuts : List Nat) (a f : Nat), ChainG x y x.length a cuts f → (∀ k, f ≤ k → ¬ At x y x.length k) →
    (Str.join z (partsFrom x y.length a cuts)).cps.toList = rpS y.cps.toList z.cps.toList 0 (x.cps.toList.drop a)
  | [], a, f, h, hn => by
    obtain rfl : f = a := h
    rw [rpS_end x y _ hy f hn]
    show (strSub x f x.length).cps.toList = _
    have hn : x.cps.toList.length = x.length := by simp [Str.length]
    rw [strSub_toList, List.take_of_length_le (by rw [List.length_drop]; lia)]
  | c :: r, a, f, ⟨h1, h2, h3, h4⟩, hn => by
    have ih := rpS_chain x y z hy r _ f h4 hn
    have hn : x.cps.toList.length = x.length := by simp [Str.length]
    have hc : c + y.length ≤ x.length := h2.1
    have e : (Str.join z (partsFrom x y.length a (c :: r))).cps.toList = (strSub x a c).cps.toList ++ (z.cps.toList ++ (Str.join z (partsFrom x y.length (c + y.length) r)).cps.toList) := by
      obtain ⟨p, r', e⟩ := partsFrom_ne x y.length (c + y.length) r
      show (Str.join z (strSub x a c :: partsFrom x y.length (c + y.length) r)).cps.toList = _
      rw [e]
      show (strSub x a c ++ z ++ Str.join z (p :: r')).cps.toList = _
      simp only [Str.cps_append, Array.toList_append, List.append_assoc]
    rw [e, ih, rpS_free x y _ hy (c - a) a (by lia) (fun k k1 k2 => h3 k k1 (by lia)), show a + (c - a) = c by lia, strSub_toList]
    congr 1
    have h5 := (at_iff x y c (by lia)).mp h2
    have hdc : x.cps.toList.drop c = x.cps.toList[c] :: x.cps.toList.drop (c + 1) := List.drop_eq_getElem_cons (by lia)
    rw [hdc] at h5 ⊢
    rw [rpS, if_pos h5, rpS_skip _ _ (y.cps.toList.length - 1), List.drop_drop]
    have hm : y.cps.toList.length = y.length := by simp [Str.length]
    rw [show c + 1 + (y.cps.toList.length - 1) = c + y.length by lia]
theorem replace_list (x y z : Str) (hy : 1 ≤ y.length) : (Txt.replace x y z).cps.toList = rpS y.cps.toList z.cps.toList 0 x.cps.toList := by
  obtain ⟨f, h, hn⟩ := occ_tight x y hy
  have := rpS_chain x y z hy _ 0 f h hn
  rw [List.drop_zero] at this
  rw [← this]
  unfold Txt.replace
  split
  · rename_i hc
    have : (y.length == 0) = false := by simp; lia
    rw [this, Bool.false_and, Bool.or_false, List.isEmpty_iff] at hc
    rw [hc]
    show x.cps.toList = (strSub x 0 x.length).cps.toList
    rw [sub_whole]
  · rw [glued_eq_join, partsBetween_eq]
/-- the parts between one sign -/
theorem split_uniq (c : Nat) : ∀ (ps qs : List Str), ps ≠ [] → qs ≠ [] → (∀ p ∈ ps, c ∉ p.cps.toList) → (∀ p ∈ qs, c ∉ p.cps.toList) → Str.join ⟨#[c]⟩ ps = Str.join ⟨#[c]⟩ qs → ps = qs := by
  have cut : ∀ (a b u v : List Nat), c ∉ a → c ∉ b → a ++ c :: u = b ++ c :: v → a = b ∧ u = v := by
    intro a
    induction a with
    | nil =>
      intro b u v _ hb e
      cases b with
      | nil => exact ⟨rfl, by simpa using e⟩
      | cons d b => simp only [List.nil_append, List.cons_append, List.cons.injEq] at e; exact absurd (e.1 ▸ List.mem_cons_self ..) hb
    | cons d a ih =>
      intro b u v ha hb e
      cases b with
      | nil => simp only [List.nil_append, List.cons_append, List.cons.injEq] at e; exact absurd (e.1 ▸ List.mem_cons_self ..) ha
      | cons d' b =>
        simp only [List.cons_append, List.cons.injEq] at e
        obtain ⟨e1, e2⟩ := ih b u v (fun h => ha (.tail _ h)) (fun h => hb (.tail _ h)) e.2
        exact ⟨by rw [e.1, e1], e2⟩
  have cut1 : ∀ (a b u : List Nat), c ∉ a → a = b ++ c :: u → False := by
    intro a b u h e; exact h (by rw [e]; simp)
  intro ps
  induction ps with
  | nil => intro qs h; exact absurd rfl h
  | cons p ps ih =>
    intro qs _ hq fp fq e
    cases qs with
    | nil => exact absurd rfl hq
    | cons q qs =>
      have e' := congrArg (fun s : Str => s.cps.toList) e
      cases ps with
      | nil =>
        cases qs with
        | nil => have : p = q := e; rw [this]
        | cons q2 qs =>
          exact (cut1 p.cps.toList q.cps.toList _ (fp _ (.head _)) (by
            have : p.cps.toList = (q ++ ⟨#[c]⟩ ++ Str.join ⟨#[c]⟩ (q2 :: qs)).cps.toList := e'
            simp only [Str.cps_append, Array.toList_append, List.append_assoc] at this
            exact this)).elim
      | cons p2 ps =>
        cases qs with
        | nil =>
          exact (cut1 q.cps.toList p.cps.toList _ (fq _ (.head _)) (by
            have : (p ++ ⟨#[c]⟩ ++ Str.join ⟨#[c]⟩ (p2 :: ps)).cps.toList = q.cps.toList := e'
            simp only [Str.cps_append, Array.toList_append, List.append_assoc] at this
            exact this.symm)).elim
        | cons q2 qs =>
          have e2 : (p ++ ⟨#[c]⟩ ++ Str.join ⟨#[c]⟩ (p2 :: ps)).cps.toList = (q ++ ⟨#[c]⟩ ++ Str.join ⟨#[c]⟩ (q2 :: qs)).cps.toList := e'
          simp only [Str.cps_append, Array.toList_append, List.append_assoc] at e2
          obtain ⟨e3, e4⟩ := cut _ _ _ _ (fp _ (.head _)) (fq _ (.head _)) e2
          have e5 : p = q := Str.ext' (Array.toList_inj.mp e3)
          rw [e5, ih (q2 :: qs) (by simp) (by simp) (fun x h => fp x (.tail _ h)) (fun x h => fq x (.tail _ h)) (Str.ext' (Array.toList_inj.mp e4))]
theorem split_is (c : Nat) (ps : List Str) (hn : ps ≠ []) (hf : ∀ p ∈ ps, c ∉ p.cps.toList) : Txt.split (Str.join ⟨#[c]⟩ ps) ⟨#[c]⟩ = ps := by
  refine split_uniq c _ _ ?_ hn (split_free _ c) hf (join_split _ _)
  unfold Txt.split
  split
  · simp
  · split
    · simp
    · unfold partsBetween; simp
end
def kasEv (lt : Nat → Nat → Bool) (n : Nat) : KasT (Array Nat) → Option (Array Nat)
  | .ret a => some a
  | .ask i j k => if i < n ∧ j < n ∧ i ≠ j then kasEv lt n (k (lt i j)) else none
def ltL (l : List Nat) (i j : Nat) : Bool := Nat.blt (l.getD i 0) (l.getD j 0)
/-- the numbers below six that stand in the list, in order -/
def asc6 (l : List Nat) : List Nat := (List.range 6).filter (l.contains ·)
def goodP (l : List Nat) (p : Array Nat) : Bool := (p.toList.map fun i => l.getD i 0) == asc6 l && p.toList.all (Nat.blt · l.length)
/-- the same by bare recursors, quick for the kernel -/
noncomputable def nthR (l : List Nat) : Nat → Nat := @List.rec Nat (fun _ => Nat → Nat) (fun _ => 0) (fun a _ ih i => @Bool.rec (fun _ => Nat) (ih (Nat.pred i)) a (Nat.beq i 0)) l
noncomputable def ltR (l : List Nat) (i j : Nat) : Bool := Nat.ble (Nat.succ (nthR l i)) (nthR l j)
noncomputable def filR (f : List Nat → Bool) (l : List (List Nat)) : List (List Nat) := @List.rec (List Nat) (fun _ => List (List Nat)) [] (fun a _ ih => @Bool.rec (fun _ => List (List Nat)) ih (a :: ih) (f a)) l
noncomputable def memR (a : Nat) (l : List Nat) : Bool := @List.rec Nat (fun _ => Bool) false (fun b _ ih => @Bool.rec (fun _ => Bool) ih true (Nat.beq a b)) l
noncomputable def addR (a : Nat) (l acc : List Nat) : List Nat := @Bool.rec (fun _ => List Nat) acc (a :: acc) (memR a l)
noncomputable def ascR (l : List Nat) : List Nat := addR 0 l (addR 1 l (addR 2 l (addR 3 l (addR 4 l (addR 5 l [])))))
noncomputable def goodR (l : List Nat) (p : Array Nat) : Bool := @Bool.rec (fun _ => Bool) false (p.toList.all fun i => Nat.blt i l.length) (Fast.lEq (p.toList.map (nthR l)) (ascR l))
theorem nthR_eq : ∀ (l : List Nat) (i : Nat), nthR l i = l.getD i 0
  | [], _ => rfl
  | _ :: _, 0 => rfl
  | _ :: l, i + 1 => by rw [List.getD_cons_succ, ← nthR_eq l i]; rfl
theorem ltR_eq (l : List Nat) (i j : Nat) : ltR l i j = ltL l i j := by
  unfold ltR ltL Nat.blt
  rw [nthR_eq, nthR_eq]
theorem filR_eq (f : List Nat → Bool) : ∀ l : List (List Nat), filR f l = l.filter f
  | [] => rfl
  | a :: l => by
    show @Bool.rec (fun _ => List (List Nat)) (filR f l) (a :: filR f l) (f a) = _
    rw [List.filter_cons, filR_eq f l]
    cases f a <;> rfl
theorem memR_eq (a : Nat) : ∀ l : List Nat, memR a l = l.contains a
  | [] => rfl
  | b :: l => by
    show @Bool.rec (fun _ => Bool) (memR a l) true (Nat.beq a b) = _
    rw [List.contains_cons, memR_eq a l]
    have e : (a == b) = Nat.beq a b := by
      cases h : Nat.beq a b with
      | true => rw [Nat.eq_of_beq_eq_true h]; exact beq_self_eq_true b
      | false => exact beq_false_of_ne (Nat.ne_of_beq_eq_false h)
    rw [e]
    cases Nat.beq a b <;> rfl
theorem addR_eq (a : Nat) (l acc : List Nat) : addR a l acc = if l.contains a then a :: acc else acc := by
  unfold addR
  rw [memR_eq]
  cases l.contains a <;> rfl
theorem ascR_eq (l : List Nat) : ascR l = asc6 l := by
  unfold ascR asc6
  rw [show List.range 6 = [0, 1, 2, 3, 4, 5] from rfl]
  simp only [addR_eq, List.filter_cons, List.filter_nil]
theorem goodR_good {l : List Nat} {p : Array Nat} (h : goodR l p = true) : goodP l p = true := by
  unfold goodR at h
  unfold goodP
  cases e : Fast.lEq (p.toList.map (nthR l)) (ascR l) with
  | false => rw [e] at h; cases h
  | true =>
    rw [e] at h
    have e2 := Fast.lEq_iff.mp e
    rw [ascR_eq] at e2
    rw [← e2, show (fun i => l.getD i 0) = nthR l from (funext (nthR_eq l)).symm, Bool.and_eq_true]
    exact ⟨beq_self_eq_true _, h⟩
noncomputable def chkS (n : Nat) : KasT (Array Nat) → List (List Nat) → Bool
  | .ret p, ls => ls.all fun l => goodR l p
  | .ask i j k, ls => Nat.blt i n && Nat.blt j n && !Nat.beq i j && ((filR (fun l => ltR l i j) ls).isEmpty || chkS n (k true) (filR (fun l => ltR l i j) ls)) && ((filR (fun l => !ltR l i j) ls).isEmpty || chkS n (k false) (filR (fun l => !ltR l i j) ls))
theorem chkS_sound (n : Nat) : ∀ (t : KasT (Array Nat)) (ls : List (List Nat)), chkS n t ls = true → ∀ l ∈ ls, ∃ p, kasEv (ltL l) n t = some p ∧ goodP l p = true
  | .ret p, ls, h, l, hl => ⟨p, rfl, goodR_good (List.all_eq_true.mp h l hl)⟩
  | .ask i j k, ls, h, l, hl => by
    simp only [chkS, Bool.and_eq_true, Bool.or_eq_true, List.isEmpty_iff, filR_eq] at h
    obtain ⟨⟨⟨⟨hi, hj⟩, hij⟩, h1⟩, h2⟩ := h
    have hij : i ≠ j := fun e => by rw [e, Nat.beq_refl] at hij; cases hij
    have hi : i < n := Nat.le_of_ble_eq_true hi
    have hj : j < n := Nat.le_of_ble_eq_true hj
    rw [kasEv, if_pos ⟨hi, hj, hij⟩]
    cases hb : ltL l i j with
    | true =>
      have hm : l ∈ ls.filter fun l => ltR l i j := List.mem_filter.mpr ⟨hl, by rw [ltR_eq]; exact hb⟩
      rcases h1 with h1 | h1
      · rw [h1] at hm; cases hm
      · exact chkS_sound n (k true) _ h1 l hm
    | false =>
      have hm : l ∈ ls.filter fun l => !ltR l i j := List.mem_filter.mpr ⟨hl, by rw [ltR_eq, hb]; rfl⟩
      rcases h2 with h2 | h2
      · rw [h2] at hm; cases hm
      · exact chkS_sound n (k false) _ h2 l hm
theorem kasWp_ev {α : Type} {ask : Nat → Nat → (Bool → Shared → Prop) → Shared → Prop} {lt : Nat → Nat → Bool} {n : Nat} {s : Shared} {Q : Array Nat → Shared → Prop}
    (H : ∀ i j, i < n → j < n → i ≠ j → ∀ C : Bool → Shared → Prop, C (lt i j) s → ask i j C s) : ∀ (t : KasT (Array Nat)) (p : Array Nat), kasEv lt n t = some p → Q p s → t.kasWp ask Q s
  | .ret a, p, h, q => by cases h; exact q
  | .ask i j k, p, h, q => by
    rw [kasEv] at h
    split at h
    · rename_i hc
      exact H i j hc.1 hc.2.1 hc.2.2 _ (kasWp_ev (α := α) H (k (lt i j)) p h q)
    · cases h
noncomputable def extA (a : Nat) (l : List Nat) (acc : List (List Nat)) : List (List Nat) := @Bool.rec (fun _ => List (List Nat)) ((a :: l) :: acc) acc (memR a l)
noncomputable def extL (l : List Nat) (acc : List (List Nat)) : List (List Nat) := extA 0 l (extA 1 l (extA 2 l (extA 3 l (extA 4 l (extA 5 l acc)))))
noncomputable def extend (ls : List (List Nat)) : List (List Nat) := @List.rec (List Nat) (fun _ => List (List Nat)) [] (fun l _ ih => extL l ih) ls
noncomputable def perms : Nat → List (List Nat)
  | 0 => [[]]
  | n + 1 => extend (perms n)
theorem extA_sub {a : Nat} {l : List Nat} {acc : List (List Nat)} {x : List Nat} (h : x ∈ acc) : x ∈ extA a l acc := by
  unfold extA
  cases memR a l
  · exact .tail _ h
  · exact h
theorem extA_mem {a : Nat} {l : List Nat} {acc : List (List Nat)} (h : a ∉ l) : a :: l ∈ extA a l acc := by
  unfold extA
  rw [memR_eq, show l.contains a = false by simp [h]]
  exact .head _
theorem extL_sub {l : List Nat} {acc : List (List Nat)} {x : List Nat} (h : x ∈ acc) : x ∈ extL l acc := extA_sub (extA_sub (extA_sub (extA_sub (extA_sub (extA_sub h)))))
theorem extL_mem {l : List Nat} {acc : List (List Nat)} : ∀ {a : Nat}, a < 6 → a ∉ l → a :: l ∈ extL l acc
  | 0, _, h => extA_mem h
  | 1, _, h => extA_sub (extA_mem h)
  | 2, _, h => extA_sub (extA_sub (extA_mem h))
  | 3, _, h => extA_sub (extA_sub (extA_sub (extA_mem h)))
  | 4, _, h => extA_sub (extA_sub (extA_sub (extA_sub (extA_mem h))))
  | 5, _, h => extA_sub (extA_sub (extA_sub (extA_sub (extA_sub (extA_mem h)))))
  | _ + 6, k, _ => absurd k (Nat.not_lt.mpr (Nat.le_add_left _ _))
theorem ext_mem {a : Nat} {l : List Nat} (ha : a < 6) (hn : a ∉ l) : ∀ {ls : List (List Nat)}, l ∈ ls → a :: l ∈ extend ls
  | _, .head _ => extL_mem ha hn
  | _, .tail _ h => extL_sub (ext_mem ha hn h)
theorem perms_mem : ∀ (l : List Nat), l.Nodup → (∀ a ∈ l, a < 6) → l ∈ perms l.length
  | [], _, _ => .head _
  | a :: l, hn, hb => ext_mem (hb a (.head _)) (List.nodup_cons.mp hn).1 (perms_mem l (List.nodup_cons.mp hn).2 fun b hb' => hb b (.tail _ hb'))
theorem srt2 : chkS 2 (kas_sort 2) (perms 2) = true := by decide +kernel
theorem srt3 : chkS 3 (kas_sort 3) (perms 3) = true := by decide +kernel
theorem srt4 : chkS 4 (kas_sort 4) (perms 4) = true := by decide +kernel
theorem srt5 : chkS 5 (kas_sort 5) (perms 5) = true := by decide +kernel
theorem srt6 : chkS 6 (kas_sort 6) (perms 6) = true := by decide +kernel
theorem nodup_len : ∀ (n : Nat) (l : List Nat), l.Nodup → (∀ a ∈ l, a < n) → l.length ≤ n
  | 0, [], _, _ => Nat.le_refl _
  | 0, a :: l, _, h => absurd (h a (.head _)) (Nat.not_lt_zero _)
  | n + 1, l, hn, h => by
    by_cases hm : n ∈ l
    · have ih := nodup_len n (l.erase n) (hn.erase n) fun a ha => by
        obtain ⟨h1, h2⟩ := (List.Nodup.mem_erase_iff hn).mp ha
        have := h a h2
        lia
      rw [List.length_erase_of_mem hm] at ih
      lia
    · have ih := nodup_len n l hn fun a ha => by
        have := h a ha
        have : a ≠ n := fun e => hm (e ▸ ha)
        lia
      lia
theorem sort_ev (l : List Nat) (hn : l.Nodup) (hb : ∀ a ∈ l, a < 6) (h2 : 2 ≤ l.length) : ∃ p, kasEv (ltL l) l.length (kas_sort l.length) = some p ∧ goodP l p = true := by
  have hm := perms_mem l hn hb
  have h6 := nodup_len 6 l hn hb
  have : l.length = 2 ∨ l.length = 3 ∨ l.length = 4 ∨ l.length = 5 ∨ l.length = 6 := by lia
  rcases this with e | e | e | e | e <;> rw [e] at hm ⊢
  · exact chkS_sound 2 _ _ srt2 l hm
  · exact chkS_sound 3 _ _ srt3 l hm
  · exact chkS_sound 4 _ _ srt4 l hm
  · exact chkS_sound 5 _ _ srt5 l hm
  · exact chkS_sound 6 _ _ srt6 l hm
section
variable {prog : Program} {w : World} {A : Around} {E : Value → Shared → Prop} {s : Shared} {h₀ : Heap} {L a : Addr} {m : Str → Option Value} {news : List (Addr × Obj)} {vs : List Value}
theorem short_sort {n : Nat} {P : PySem.Fin → Shared → Prop} (F : Fr h₀ L s.heap m) (N : News h₀ L s.heap news) (ho : s.heap.get? a = some (seqObj "list" vs.toArray n)) (haL : a ≠ L) (ha0 : h₀.get? a = none) (hna : ∀ p ∈ news, p.1 ≠ a)
    (h1 : vs.length < 2)
    (h : ∀ h' c, Fr h₀ L h' m → News h₀ L h' ((a, listOf vs.toArray c) :: news) → P (.done (.ret .none)) { s with heap := h' }) :
    wpAny (model prog w) A (Builtin.«list.sort» ⟨[.ref a], []⟩) P E s := by
  have s1 := Heap.SameBut.update s.heap a (Obj.mapSeq fun _ => (#[] : Array Value))
  obtain ⟨e1, ho1⟩ : ∃ e1, (s.heap.update a (Obj.mapSeq fun _ => (#[] : Array Value))).get? a = some (seqObj "list" #[] e1) := ⟨_, get?_update_seq ho fun _ => #[]⟩
  have F3 : Fr h₀ L (((s.heap.update a (Obj.mapSeq fun _ => (#[] : Array Value))).push (seqObj "tuple" vs.toArray 0)).push (seqObj "list" #[] 0)) m := ((kas_fr F s1 haL ha0).push _).push _
  have N2 : News h₀ L (((s.heap.update a (Obj.mapSeq fun _ => (#[] : Array Value))).push (seqObj "tuple" vs.toArray 0)).push (seqObj "list" #[] 0)) news :=
    (kas_news N s1 hna).grown fun b x e => Heap.get?_push_of_some _ (Heap.get?_push_of_some _ e)
  have ho3 : (((s.heap.update a (Obj.mapSeq fun _ => (#[] : Array Value))).push (seqObj "tuple" vs.toArray 0)).push (seqObj "list" #[] 0)).get? a = some (seqObj "list" #[] e1) := Heap.get?_push_of_some _ (Heap.get?_push_of_some _ ho1)
  rw [list_sort_plain]
  refine wpAny_bind (listItems_at ho rfl ?_)
  refine wpAny_bind (listUpdate_at ho rfl ?_ (by rw [List.size_toArray, sizeLine_eq]; lia) (Nat.zero_le _))
  refine wpAny_bind (seqEpoch_at ho1 rfl ?_)
  refine wpAny_bind (wpAny_newTuple ?_ (by show vs.length ≤ _; rw [sizeLine_eq]; lia))
  refine wpAny_bind (wpAny_newList ?_ (Nat.zero_le _))
  refine wpAny_holding ?_
  show wpAny (model prog w) A _ P E { s with heap := ((s.heap.update a (Obj.mapSeq fun _ => (#[] : Array Value))).push (seqObj "tuple" vs.toArray 0)).push (seqObj "list" #[] 0) }
  dsimp only
  have hn2 : vs.toArray.size < 2 := by rw [List.size_toArray]; exact h1
  rw [if_pos hn2, if_pos hn2]
  refine wpAny_bind (wpAny_pure ?_)
  refine wpAny_bind ?_
  rw [StateT.run_pure]
  refine wpAny_pure ?_
  dsimp only
  have hout : (arrOf (SortSt.mk' general' (vs.toArray.zip vs.toArray) #[] 7 none)).map (·.2) = vs.toArray := by
    show (vs.toArray.zip vs.toArray).map (·.2) = vs.toArray
    apply Array.toList_inj.mp
    rw [Array.toList_map, Array.toList_zip]
    exact List.map_snd_zip (Nat.le_refl _)
  rw [hout]
  have s2 := Heap.SameBut.update (((s.heap.update a (Obj.mapSeq fun _ => (#[] : Array Value))).push (seqObj "tuple" vs.toArray 0)).push (seqObj "list" #[] 0)) a (Obj.mapSeq fun _ => vs.toArray)
  obtain ⟨c2, hc2⟩ : ∃ c2, ((((s.heap.update a (Obj.mapSeq fun _ => (#[] : Array Value))).push (seqObj "tuple" vs.toArray 0)).push (seqObj "list" #[] 0)).update a (Obj.mapSeq fun _ => vs.toArray)).get? a = some (seqObj "list" vs.toArray c2) := ⟨_, get?_update_seq ho3 fun _ => vs.toArray⟩
  refine wpAny_bind (seqEpoch_at ho3 rfl ?_)
  refine wpAny_bind (listUpdate_at ho3 rfl ?_ (Nat.zero_le _) (by rw [List.size_toArray, sizeLine_eq]; lia))
  simp only [bne_self_eq_false, Bool.false_eq_true, if_false]
  refine wpAny_pure (h _ c2 (kas_fr F3 s2 haL ha0) fun p hp => ?_)
  rcases List.mem_cons.mp hp with rfl | hp
  · exact ⟨hc2, haL, ha0⟩
  · exact kas_news N2 s2 hna p hp
theorem short_sorted {l : Addr} {Q : Value → Shared → Prop} (F : Fr h₀ L s.heap m) (N : News h₀ L s.heap news) (hl : s.heap.IsList l vs.toArray) (h1 : vs.length < 2)
    (h : ∀ D h' c, Fr h₀ L h' m → News h₀ L h' ((D, listOf vs.toArray c) :: news) → (∀ q ∈ news, q.1 < D) → Q (.ref D) { s with heap := h' }) :
    wpAny (model prog w) A (call (.builtin "sorted") [.ref l]) Q E s := by
  refine Calls.call_function_entry kind_sorted plain_sorted entry_sorted (args_sorted1 _) ?_
  unfold Builtin.«sorted»
  refine wpAny_bind (m := checkCount "sorted" 1 1 _) (wpAny_pure ?_)
  refine wpAny_bind (collect_list hl ?_ (by rw [sizeLine_eq]; show vs.length ≤ _; lia))
  refine wpAny_bind (wpAny_newList ?_ (by rw [sizeLine_eq]; show vs.length ≤ _; lia))
  have hsz : ((s.heap.push (seqObj "list" #[] 0)).update s.heap.objs.size (Obj.mapSeq (· ++ vs.toArray))).objs.size = s.heap.objs.size + 1 := by
    rw [Heap.size_update, size_push']
  have hoL : (((s.heap.push (seqObj "list" #[] 0)).update s.heap.objs.size (Obj.mapSeq (· ++ vs.toArray))).push (seqObj "list" vs.toArray 0)).get? (s.heap.objs.size + 1) = some (seqObj "list" vs.toArray 0) := by
    rw [← hsz]; exact Heap.get?_push_size _ rfl
  have keep : ∀ b o, s.heap.get? b = some o → (((s.heap.push (seqObj "list" #[] 0)).update s.heap.objs.size (Obj.mapSeq (· ++ vs.toArray))).push (seqObj "list" vs.toArray 0)).get? b = some o := fun b o q => by
    have hlt : b < s.heap.objs.size := Heap.lt_size q
    rw [Heap.get?_push_ne _ _ _ (by rw [hsz]; exact Nat.ne_of_lt (Nat.lt_succ_of_lt hlt)), Heap.get?_update_ne _ _ _ _ (Nat.ne_of_lt hlt), Heap.get?_push_ne _ _ _ (Nat.ne_of_lt hlt)]
    exact q
  have hL : L < s.heap.objs.size := F.ns.lt
  show wpAny _ _ _ _ _ { s with heap := ((s.heap.push (seqObj "list" #[] 0)).update s.heap.objs.size (Obj.mapSeq (· ++ vs.toArray))).push (seqObj "list" vs.toArray 0) }
  rw [hsz]
  refine wpAny_bind (wpAny_holding (wpAny_call_entry slot_list_sort ⟨_, hoL, rfl⟩ entry_list_sort ?body (args_list_sort _)))
  case body =>
    refine short_sort (s := { s with heap := ((s.heap.push (seqObj "list" #[] 0)).update s.heap.objs.size (Obj.mapSeq (· ++ vs.toArray))).push (seqObj "list" vs.toArray 0) })
      (F.kept keep) (N.grown keep) hoL (Nat.ne_of_gt (Nat.lt_succ_of_lt hL)) (Heap.get?_none_of_le (Nat.le_trans F.above (Nat.le_succ_of_le (Nat.le_of_lt hL))))
      (fun p hp => Nat.ne_of_lt (Nat.lt_succ_of_lt (Heap.lt_size (N p hp).1))) h1 fun h' c F' N' => ?_
    exact ⟨_, rfl, wpAny_pure ⟨_, rfl, h _ h' c F' N' fun q hq => Nat.lt_succ_of_lt (Heap.lt_size (N q hq).1)⟩⟩
theorem keyLt_pair {x y : Addr} {i j : Int} {u1 u2 : Tok} {p q : Str} {v1 v2 : Tok} {n k : Nat} {C : Bool → Shared → Prop} (hne : i ≠ j)
    (hx : s.heap.get? x = some ({ cls := .type "tuple", data := .seq #[.int i u1, .str p v1] n } : Obj)) (hy : s.heap.get? y = some ({ cls := .type "tuple", data := .seq #[.int j u2, .str q v2] k } : Obj))
    (h : C (decide (i < j)) s) : wpAny (model prog w) A (keyLt' (tuples' true) (.ref x) (.ref y)) C E s := by
  refine kat_lt hx rfl hy rfl (kat_cons (wpAny_eqBool_int ?_))
  rw [beq_eq_false_iff_ne.mpr hne]
  refine kat_no ?_
  show wpAny _ _ (oneLt' true _ _) _ _ _
  exact oneLt_int h
def pd (lab : Nat → Str) (k : Nat) : Dat := .tuple [.int (k : Int), .str (lab k)]
theorem datPd {nx : List (Addr × Obj)} {v : Value} {lab : Nat → Str} {k : Nat} (h : DatIn nx v (pd lab k)) : ∃ ad t1 t2 n, v = .ref ad ∧ (ad, ({ cls := .type "tuple", data := .seq #[.int (k : Int) t1, .str (lab k) t2] n } : Obj)) ∈ nx := by
  obtain ⟨ad, vs, n, e, hm, hr⟩ := tup_inv h
  obtain ⟨v1, w1, rfl, h1, hr⟩ := cons_inv hr
  obtain ⟨v2, w2, rfl, h2, hr⟩ := cons_inv hr
  obtain rfl := nil_inv hr
  obtain ⟨t1, rfl⟩ := int_inv h1
  obtain ⟨t2, rfl⟩ := str_inv h2
  exact ⟨ad, t1, t2, n, e, hm⟩
theorem pd_at {lab : Nat → Str} {ns : List Nat} (hv : DatAll news vs (ns.map (pd lab))) {i : Nat} (hi : i < ns.length) : DatIn news (vs.getD i .none) (pd lab (ns.getD i 0)) := by
  obtain ⟨v, h1, h2⟩ := hv.get (k := i) (by rw [List.length_map]; exact hi)
  rw [List.getElem_map] at h2
  rw [List.getD_eq_getElem?_getD, h1, List.getD_eq_getElem?_getD, List.getElem?_eq_getElem hi]
  exact h2
theorem pd_tups {h : Heap} {lab : Nat → Str} (N : News h₀ L h news) : ∀ {vs : List Value} {ns : List Nat}, DatAll news vs (ns.map (pd lab)) → ∃ fs, KatTups h vs fs ∧ fs.length = ns.length ∧ ∀ v ∈ fs, ∃ i t, v = Value.int i t
  | _, [], .nil => ⟨[], trivial, rfl, fun _ h => nomatch h⟩
  | _, k :: ns, .cons h1 h2 => by
    obtain ⟨fs, f1, f2, f3⟩ := pd_tups N h2
    obtain ⟨ad, t1, t2, n, rfl, hm⟩ := datPd h1
    refine ⟨.int (k : Int) t1 :: fs, KatTups.cons (N _ hm).1 rfl rfl rfl f1, by rw [List.length_cons, List.length_cons, f2], ?_⟩
    intro v hv
    rcases List.mem_cons.mp hv with rfl | hv
    · exact ⟨_, _, rfl⟩
    · exact f3 v hv
theorem pd_perm {lab : Nat → Str} {ns : List Nat} (hv : DatAll news vs (ns.map (pd lab))) : ∀ (p : List Nat), (∀ i ∈ p, i < ns.length) → DatAll news (p.map fun i => vs.getD i .none) ((p.map fun i => ns.getD i 0).map (pd lab))
  | [], _ => .nil
  | i :: p, h => .cons (pd_at hv (h i (.head _))) (pd_perm hv p fun j hj => h j (.tail _ hj))
/-- sorted of a path: by the numbers -/
theorem sorted_path {l : Addr} {n : Nat} {lab : Nat → Str} {ns : List Nat} {n₁ : List (Addr × Obj)} {Q : Value → Shared → Prop} (F : Fr h₀ L s.heap m) (N : News h₀ L s.heap news) (hm : (l, listOf vs.toArray n) ∈ news) (hv : DatAll n₁ vs (ns.map (pd lab))) (hs : ∀ p ∈ n₁, p ∈ news)
    (hn : ns.Nodup) (hb : ∀ a ∈ ns, a < 6)
    (h : ∀ D h' vs' c, Fr h₀ L h' m → News h₀ L h' ((D, listOf vs'.toArray c) :: news) → (∀ q ∈ news, q.1 < D) → DatAll n₁ vs' ((asc6 ns).map (pd lab)) → Q (.ref D) { s with heap := h' }) :
    wpAny (model prog w) A (call (.builtin "sorted") [.ref l]) Q E s := by
  have hl := PySem.IsL.isList (n := n) (N _ hm).1
  have hlen : vs.length = ns.length := by rw [hv.length, List.length_map]
  have h6 := nodup_len 6 ns hn hb
  by_cases h2 : ns.length < 2
  · refine short_sorted F N hl (by lia) fun D h' c F' N' l1 => h D h' vs c F' N' l1 ?_
    have e : asc6 ns = ns := by
      cases ns with
      | nil => rfl
      | cons a r =>
        cases r with
        | nil =>
          have := hb a (.head _)
          have : a = 0 ∨ a = 1 ∨ a = 2 ∨ a = 3 ∨ a = 4 ∨ a = 5 := by lia
          rcases this with rfl | rfl | rfl | rfl | rfl | rfl <;> decide
        | cons b r => simp at h2; lia
    rw [e]; exact hv
  · refine kat_sorted F N hl (by lia) (by lia) fun D e1 h' F' N' l1 => ?_
    obtain ⟨fs, f1, f2, f3⟩ := pd_tups (h := h') (fun p hp => N' p (.tail _ (hs p hp))) hv
    refine kat_kind (T := .type "int") f1 (by lia) (fun v hv' => ?_) rfl ?_
    · obtain ⟨i, t, rfl⟩ := f3 v hv'
      exact Looks.of_pure rfl
    obtain ⟨p, e, g⟩ := sort_ev ns hn hb (by lia)
    rw [hlen]
    simp only [goodP, Bool.and_eq_true, beq_iff_eq, List.all_eq_true] at g
    obtain ⟨g1, g2⟩ := g
    refine kasWp_ev (α := Unit) (lt := ltL ns) (n := ns.length) (fun i j hi hj hij C hC => ?_) _ p e ?_
    · show wpAny _ _ (keyLt' (tuples' true) (vs.getD i .none) (vs.getD j .none)) C (fun _ _ => False) _
      have d1 := pd_at hv hi
      have d2 := pd_at hv hj
      obtain ⟨ad, t1, t2, n1, e1, m1⟩ := datPd d1
      obtain ⟨bd, u1, u2, n2, e2, m2⟩ := datPd d2
      rw [e1, e2]
      have hne : ns.getD i 0 ≠ ns.getD j 0 := by
        intro e4
        rw [List.getD_eq_getElem?_getD, List.getElem?_eq_getElem hi, List.getD_eq_getElem?_getD, List.getElem?_eq_getElem hj] at e4
        exact hij ((List.getElem_inj hn).mp e4)
      refine keyLt_pair (by lia) (N' _ (.tail _ (hs _ m1))).1 (N' _ (.tail _ (hs _ m2))).1 ?_
      have e3 : decide (((ns.getD i 0 : Nat) : Int) < ((ns.getD j 0 : Nat) : Int)) = ltL ns i j := by
        unfold ltL
        rw [Bool.eq_iff_iff, decide_eq_true_iff, Nat.blt_eq]
        lia
      rw [e3]; exact hC
    · refine KasFin.intro F' N' (.head fun q hq => Nat.ne_of_lt (l1 q hq)) fun h2' c F2 N2 => h D h2' _ c F2 N2 l1 ?_
      rw [← g1]
      exact pd_perm hv p.toList fun i hi => Nat.le_of_ble_eq_true (g2 i hi)
end
local macro_rules | `(tactic| walk_at "execs cons") => `(tactic| (k_here; first | dsimp only | (with_reducible refine gentoks ?_; intro tk) | with_reducible refine wpAny_execs_cons ?_))
local macro_rules | `(tactic| walk_at "execs nil") => `(tactic| (k_here; first | dsimp only | with_reducible refine wpAny_execs_nil ?_))
local macro_rules | `(tactic| walk_at "call builtin:str.replace") => `(tactic| (refine SC.replaceW (by exact Nat.ne_of_gt (by omega)) (by exact Nat.ne_of_gt (by omega)) (by exact Nat.ne_of_lt (by omega)) (by decide +kernel) (by first | assumption | omega) (by decide +kernel) ?_; intro t' k'))
local macro_rules | `(tactic| walk_at "subscriptTail") => `(tactic| k_dflt (refine list_sub (by k_asm) (by k_mem) _ (by first | with_reducible assumption | rfl) (by omega) (by with_reducible assumption) ?_ (by with_unfolding_all rfl)))
local macro_rules | `(tactic| walk_at "call builtin:len") => `(tactic| k_dflt (refine list_len (by k_asm) (by k_mem) (by omega) ?_))
local macro_rules | `(tactic| walk_at "setItem ref int") => `(tactic| (k_dflt (refine list_set (by k_asm) (by k_asm) (by assumption) _ (by first | with_reducible assumption | rfl) (by omega) (by omega) ?_); intro h3 F3 N3))
local macro_rules | `(tactic| walk_at "eval Name") => `(tactic| ((with_reducible show wpAny _ _ (eval (Expr.Name _ _) (compEnvC _ _ _ _)) _ _ _); k_dflt (refine LCgL.ld_built (by k_asm) (by k_asm) (by k_asm) (by k_is) (by boot_fast) (by decide) ?_)))
local macro_rules | `(tactic| walk_at "newList") => `(tactic| (k_here; k_dflt (refine newList_K (by k_asm) (by k_asm) ?_ (by rw [sizeLine_eq]; decide)); intro l' h' F' N' l1; (try k_lt l1); (try k_sweep)))
local macro_rules | `(tactic| walk_at "subscriptTail Name Slice ref ref") => `(tactic| (k_dflt (refine kmk_slice_ints (s := ⟨_, _, _, _, _⟩) (by k_asm) (by k_asm) (by kmk_list) (by kmk_part) (by kmk_part) (by first | assumption | l_ints) (by first | exact kmk_from (by assumption) (by omega) | exact kmk_upto (by assumption) (by omega)) (by kmk_len) ?_ (by with_unfolding_all rfl) (by kmk_pure) (by rw [List.size_toArray, sizeLine_eq]; omega)); intro D' ws' h' F' N' l1 hI' hC' hL'; (try k_lt l1)))
local macro_rules | `(tactic| k_steps) => `(tactic| repeat' (first | (k_unfold; (try dsimp only)) | (k_end; wrow_close) | ((fail_if_success (with_reducible first | refine stopped (by constructor) ?_ | refine srcStop ?_)); first | walk1 | (dsimp only; walk1)) | (leave1; try dsimp only)))
local macro_rules | `(tactic| k_all) => `(tactic| first | assumption | (intro q hq; (have hlt := ltN (‹∀ p ∈ _, p.1 < _› q hq)); refine neN ?_; omega))
local macro_rules | `(tactic| k_mem) => `(tactic| first | assumption | exact List.Mem.head _ | (refine' List.Mem.tail _ ?_; k_mem))
def sdown (x : T3) (pos : Nat) (xs : List T3) : List T3 :=
  if h : 0 < pos then
    if lt3 x (xs.getD ((pos - 1) / 2) (0, 0, 0)) then sdown x ((pos - 1) / 2) (xs.set pos (xs.getD ((pos - 1) / 2) (0, 0, 0))) else xs.set pos x
  else xs.set pos x
termination_by pos
decreasing_by omega
abbrev TA (nx : List (Addr × Obj)) (vs : List Value) (H : List T3) : Prop := DatAll nx vs (H.map d3)
theorem TA.len {nx : List (Addr × Obj)} {vs : List Value} {H : List T3} (h : TA nx vs H) : vs.length = H.length := by have := DatAll.length h; simpa using this
theorem TA.get {nx : List (Addr × Obj)} {vs : List Value} {H : List T3} (h : TA nx vs H) {j : Nat} (hj : j < H.length) : ∃ v, vs[j]? = some v ∧ DatIn nx v (d3 (H.getD j (0, 0, 0))) := by
  obtain ⟨v, h1, h2⟩ := DatAll.get h (k := j) (by simpa using hj)
  refine ⟨v, h1, ?_⟩
  rw [List.getElem_map] at h2
  rw [List.getD_eq_getElem?_getD, List.getElem?_eq_getElem hj]
  exact h2
theorem DatAll.set {nx : List (Addr × Obj)} {v : Value} {d : Dat} (hv : DatIn nx v d) : ∀ {vs : List Value} {ds : List Dat}, DatAll nx vs ds → ∀ j, DatAll nx (vs.set j v) (ds.set j d)
  | _, _, .nil, _ => .nil
  | _, _, .cons _ r, 0 => .cons hv r
  | _, _, .cons h r, j + 1 => .cons h (DatAll.set hv r j)
theorem TA.set {nx : List (Addr × Obj)} {vs : List Value} {H : List T3} (h : TA nx vs H) {v : Value} {a : T3} (hv : DatIn nx v (d3 a)) (j : Nat) : TA nx (vs.set j v) (H.set j a) := by
  have := DatAll.set hv h j
  rwa [← List.map_set] at this

inductive SdI (s : Shared) (g' : Heap) (L' hp : Addr) (t0 : Tok) (ad : Addr) (n : Nat) (rest : List (Addr × Obj)) (x : T3) (pos : Nat) (H : List T3) (k : Nat) (s' : Shared) : Prop
  | mk (h : Heap) (tk : Nat) (u : Str → Option Value) (vs' : List Value) (H' : List T3) (q : Nat) (tq : Tok) (e : s' = { s with heap := h, toks := tk + 1 })
      (F : Fr g' L' h (lk [(Str.ofString "heap", .ref hp), (Str.ofString "startpos", .int 0 t0), (Str.ofString "pos", .int (q : Int) tq), (Str.ofString "newitem", .ref ad)] u)) (N : News g' L' h ((hp, listOf vs'.toArray n) :: rest))
      (hT : TA rest vs' H') (hq : q < H'.length) (hl : H'.length = H.length) (hs : sdown x q H' = sdown x pos H) (hk : k = q)
set_option maxRecDepth 100000 in
set_option maxHeartbeats 8000000 in
theorem siftdown_c (w : World) (p : Program) (loose : List Str) (mean : ExcName → Option Value) (mg mb : Str → Option Value) (rest : List (Addr × Obj)) (hp : Addr) (vs : List Value) (n : Nat) (H : List T3) (t0 t1 : Tok) (pos : Nat)
    (hT : TA rest vs H) (hpos : pos < H.length) (hlen : H.length ≤ 100) (hsep : ∀ p ∈ rest, p.1 ≠ hp) :
    Sp w p loose mean mg mb 69 [.ref hp, .int 0 t0, .int (pos : Int) t1] 3 30 ((hp, listOf vs.toArray n) :: rest)
     (fun v news' => v = .none ∧ ∃ vs', news' = (hp, listOf vs'.toArray n) :: rest ∧ TA rest vs' (sdown (H.getD pos (0, 0, 0)) pos H)) := by
  unfold Sp
  k_fill
  w_top off
  intro dp un gd cn cs a ccd cl outer A₀ base h₀ L m s Q E B F X N T hk hd hu hret
  refine wpAny_call ?_
  k_dflt (refine' code_def ?k1 ?k2 ?k3 ?k4 ?k5 ?kA ?kF ?kK ?k6 ?k7 ?k8 ?k9 ?kB ?_ ?c2 ?c3 ?c4 ?c5; (case kA => exact rfl); (case kF => exact rfl); (case kK => assumption); (case k1 => k_asm); (case k2 => k_asm); (case k3 => k_asm); (case k4 => k_asm); (case k5 => k_asm); (case k6 => k_is); (case k7 => k_is); (case k8 => ktr_room); (case k9 => first | exact BindsTo.of_eq rfl | exact binds_K (by k_in) rfl (by k_is) rfl rfl rfl); (case c5 => decide); (case kB => exact locs rfl); (case c2 => exact rfl); (case c3 => exact rfl); (case c4 => exact rfl); k_whole)
  intro g' L' h1 FG' F' N' B' X' T'
  (try dsimp only)
  (try k_lift B')
  (try k_fold)
  refine hideG fun G hG => ?_
  obtain ⟨v0, hv0, hD1⟩ := hT.get hpos
  generalize hx : H.getD pos (0, 0, 0) = x at *
  obtain ⟨ad, x1, x2, x3, nn, rfl, hmx⟩ := dat3 hD1
  refine hG ?_
  clear hG
  k_steps
  rename Fr _ _ _ _ => F1
  rename News _ _ _ _ => N1
  have e1 : H[pos]? = some (H.getD pos (0, 0, 0)) := by rw [List.getD_eq_getElem?_getD, List.getElem?_eq_getElem hpos]; rfl
  (try k_fold)
  refine while_rule (SdI s g' L' hp t0 ad n rest x pos H) (by passes_own) ?turn pos ?init
  case init =>
    exact ⟨_, _, _, vs, H, pos, t1, rfl, fr_as [(Str.ofString "heap", .ref hp), (Str.ofString "startpos", .int 0 t0), (Str.ofString "pos", .int (pos : Int) t1), (Str.ofString "newitem", .ref ad)] F1 ⟨rfl, rfl, rfl, rfl, trivial⟩, N1, hT, hpos, rfl, rfl, rfl⟩
  intro k s' hI
  refine hideG fun G hG => ?_
  obtain ⟨h, tk, u, vs', H', q, tq, rfl, F2, N2, hT2, hq, hl2, hs2, rfl⟩ := hI
  dsimp only [lk] at F2
  refine hG ?_
  clear hG
  (try dsimp only)
  clear F1 N1
  have hlv := hT2.len
  k_steps
  by_cases hk0 : 0 < k
  · refine WhlIf.yes (by simpa using hk0) ?_
    have hpv : ((k : Int) - 1).fdiv (2 ^ Int.toNat 1) = (((k - 1) / 2 : Nat) : Int) := by
      rw [show (2 : Int) ^ Int.toNat 1 = 2 from rfl, Int.fdiv_eq_ediv_of_nonneg _ (by decide)]
      omega
    refine hideG fun G hG => ?_
    obtain ⟨v1, hv1, hd1⟩ := hT2.get (j := (k - 1) / 2) (by omega)
    obtain ⟨ad1, y1, y2, y3, nn1, rfl, hm1⟩ := dat3 hd1
    refine hG ?_
    clear hG
    k_steps
    k_dflt (refine lt_trip (by ktr_units) (News.get (by k_asm) (by k_mem)) (News.get (by k_asm) (by k_mem)) ?_)
    k_steps
    · rename Fr _ _ _ _ => F4
      simp only [hpv] at F4
      refine ⟨(k - 1) / 2, by omega, _, _, _, _, H'.set k (H'.getD ((k - 1) / 2) (0, 0, 0)), (k - 1) / 2, _, rfl, fr_as [(Str.ofString "heap", .ref hp), (Str.ofString "startpos", .int 0 t0), (Str.ofString "pos", .int (((k - 1) / 2 : Nat) : Int) _), (Str.ofString "newitem", .ref ad)] F4 ⟨rfl, rfl, rfl, rfl, trivial⟩, by assumption, hT2.set hd1 k, ?_, ?_, ?_, rfl⟩
      · rw [List.length_set]; omega
      · rw [List.length_set]; exact hl2
      · rw [← hs2]
        conv => rhs; rw [sdown]
        rw [dif_pos hk0, if_pos (by assumption)]
    · refine hret _ _ _ _ ⟨rfl, _, rfl, ?_⟩ (by assumption) (by assumption)
      rw [← hs2, sdown, dif_pos hk0, if_neg (by simp_all)]
      exact hT2.set hD1 k
  · refine WhlIf.no (by simpa using hk0) ?_
    have hk00 : k = 0 := by omega
    subst hk00
    k_steps
    refine hret _ _ _ _ ⟨rfl, _, rfl, ?_⟩ (by assumption) (by assumption)
    rw [← hs2, sdown]
    exact hT2.set hD1 0
def sup : Nat → Nat → List T3 → Nat × List T3
  | 0, pos, xs => (pos, xs)
  | f + 1, pos, xs =>
    if 2 * pos + 1 < xs.length then
      if 2 * pos + 2 < xs.length ∧ lt3 (xs.getD (2 * pos + 1) (0, 0, 0)) (xs.getD (2 * pos + 2) (0, 0, 0)) = false then
        sup f (2 * pos + 2) (xs.set pos (xs.getD (2 * pos + 2) (0, 0, 0)))
      else sup f (2 * pos + 1) (xs.set pos (xs.getD (2 * pos + 1) (0, 0, 0)))
    else (pos, xs)
def siftupL (H : List T3) : List T3 :=
  sdown (H.getD 0 (0, 0, 0)) (sup H.length 0 H).1 ((sup H.length 0 H).2.set (sup H.length 0 H).1 (H.getD 0 (0, 0, 0)))

inductive SuI (s : Shared) (g' : Heap) (L' hp : Addr) (t0 : Tok) (ad : Addr) (n : Nat) (rest : List (Addr × Obj)) (H : List T3) (k : Nat) (s' : Shared) : Prop
  | mk (h : Heap) (tk : Nat) (u : Str → Option Value) (vs' : List Value) (H' : List T3) (q : Nat) (tq tc te : Tok) (e : s' = { s with heap := h, toks := tk + 1 })
      (F : Fr g' L' h (lk [(Str.ofString "heap", .ref hp), (Str.ofString "startpos", .int 0 t0), (Str.ofString "pos", .int (q : Int) tq), (Str.ofString "newitem", .ref ad), (Str.ofString "endpos", .int (H.length : Int) te), (Str.ofString "childpos", .int ((2 * q + 1 : Nat) : Int) tc)] u)) (N : News g' L' h ((hp, listOf vs'.toArray n) :: rest))
      (hT : TA rest vs' H') (hq : q < H'.length) (hl : H'.length = H.length) (hs : sup k q H' = sup H.length 0 H) (hk : H'.length ≤ k + q)
inductive SuJ (s : Shared) (g' : Heap) (L' hp : Addr) (t0 : Tok) (ad : Addr) (n : Nat) (rest : List (Addr × Obj)) (H H' : List T3) (vs' : List Value) (q : Nat) (tq te : Tok) (k' : Nat) (f : Flow) (s' : Shared) : Prop
  | mk (c : Nat) (h : Heap) (tk : Nat) (u : Str → Option Value) (tc : Tok) (adc : Addr) (hq : q < c) (hc : c < H'.length) (ef : f = .next) (es : s' = { s with heap := h, toks := tk })
      (F : Fr g' L' h (lk [(Str.ofString "heap", .ref hp), (Str.ofString "startpos", .int 0 t0), (Str.ofString "pos", .int (q : Int) tq), (Str.ofString "newitem", .ref ad), (Str.ofString "endpos", .int (H.length : Int) te), (Str.ofString "childpos", .int (c : Int) tc)] u)) (N : News g' L' h ((hp, listOf vs'.toArray n) :: rest)) (hv : vs'[c]? = some (.ref adc)) (hd : DatIn rest (.ref adc) (d3 (H'.getD c (0, 0, 0))))
      (hs : sup k' c (H'.set q (H'.getD c (0, 0, 0))) = sup H.length 0 H)
theorem atIf {M : Model} {A : Around} {E : Value → Shared → Prop} {Q : Flow → Shared → Prop} {s : Shared} {c t o p e} (h : wpAny M A (exec (.If c t o p) e) Q E s) : wpAny M A (exec (.If c t o p) e) Q E s := h
set_option maxRecDepth 100000 in
set_option maxHeartbeats 8000000 in
theorem siftup_c (w : World) (p : Program) (loose : List Str) (mean : ExcName → Option Value) (mg mb : Str → Option Value) (rest : List (Addr × Obj)) (hp : Addr) (vs : List Value) (n : Nat) (H : List T3) (t0 : Tok)
    (hT : TA rest vs H) (hpos : 0 < H.length) (hlen : H.length ≤ 100) (hsep : ∀ p ∈ rest, p.1 ≠ hp) :
    Sp w p loose mean mg mb 76 [.ref hp, .int 0 t0] 5 60 ((hp, listOf vs.toArray n) :: rest)
     (fun v news' => v = .none ∧ ∃ vs', news' = (hp, listOf vs'.toArray n) :: rest ∧ TA rest vs' (siftupL H)) := by
  unfold Sp
  k_fill
  w_top off
  intro dp un gd cn cs a ccd cl outer A₀ base h₀ L m s Q E B F X N T hk hd hu hret
  refine wpAny_call ?_
  k_dflt (refine' code_def ?k1 ?k2 ?k3 ?k4 ?k5 ?kA ?kF ?kK ?k6 ?k7 ?k8 ?k9 ?kB ?_ ?c2 ?c3 ?c4 ?c5; (case kA => exact rfl); (case kF => exact rfl); (case kK => assumption); (case k1 => k_asm); (case k2 => k_asm); (case k3 => k_asm); (case k4 => k_asm); (case k5 => k_asm); (case k6 => k_is); (case k7 => k_is); (case k8 => ktr_room); (case k9 => first | exact BindsTo.of_eq rfl | exact binds_K (by k_in) rfl (by k_is) rfl rfl rfl); (case c5 => decide); (case kB => exact locs rfl); (case c2 => exact rfl); (case c3 => exact rfl); (case c4 => exact rfl); k_whole)
  intro g' L' h1 FG' F' N' B' X' T'
  (try dsimp only)
  (try k_lift B')
  (try k_fold)
  refine hideG fun G hG => ?_
  obtain ⟨v0, hv0, hD1⟩ := hT.get hpos
  obtain ⟨ad, x1, x2, x3, nn, rfl, hmx⟩ := dat3 hD1
  have h00 : (0 : Int) = ((0 : Nat) : Int) := rfl
  have hlv0 := hT.len
  refine hG ?_
  clear hG
  k_steps
  rename Fr _ _ _ _ => F1
  rename News _ _ _ _ => N1
  generalize hx : H.getD 0 (0, 0, 0) = x at *
  (try k_fold)
  refine while_rule (SuI s g' L' hp t0 ad n rest H) (by passes_own) ?turn H.length ?init
  case init =>
    refine ⟨_, _, _, vs, H, 0, _, _, _, rfl, fr_as [(Str.ofString "heap", .ref hp), (Str.ofString "startpos", .int 0 t0), (Str.ofString "pos", .int ((0 : Nat) : Int) _), (Str.ofString "newitem", .ref ad), (Str.ofString "endpos", .int (H.length : Int) _), (Str.ofString "childpos", .int ((2 * 0 + 1 : Nat) : Int) _)] F1 (by simp only [hlv0] at *; exact ⟨rfl, rfl, rfl, rfl, rfl, rfl, trivial⟩), N1, hT, hpos, rfl, rfl, by omega⟩
  intro k s' hI
  refine hideG fun G hG => ?_
  obtain ⟨h, tk, u, vs', H', q, tq, tc, te, rfl, F2, N2, hT2, hq, hl2, hs2, hk2⟩ := hI
  dsimp only [lk] at F2
  refine hG ?_
  clear hG
  (try dsimp only)
  clear F1 N1
  have hlv := hT2.len
  k_steps
  by_cases hk0 : 2 * q + 1 < H'.length
  · refine WhlIf.yes (by simp only [decide_eq_true_eq]; omega) ?_
    obtain ⟨k', rfl⟩ : ∃ k', k = k' + 1 := ⟨k - 1, by omega⟩
    rw [sup, if_pos hk0] at hs2
    have e2 : ((2 * q + 1 : Nat) : Int) + 1 = ((2 * q + 2 : Nat) : Int) := rfl
    have hq1 : q < 2 * q + 1 := by omega
    have hq2 : q < 2 * q + 2 := by omega
    refine hideG fun G hG => ?_
    obtain ⟨v1, hv1, hd1⟩ := hT2.get (j := 2 * q + 1) (by omega)
    obtain ⟨ad1, y1, y2, y3, nn1, rfl, hm1⟩ := dat3 hd1
    refine hG ?_
    clear hG
    repeat' (first | (k_unfold; (try dsimp only)) | ((fail_if_success (with_reducible refine atIf ?_)); first | walk1 | (dsimp only; walk1)))
    refine wpAny_mono (Q := SuJ s g' L' hp t0 ad n rest H H' vs' q tq te k') ?ifA ?ifT (fun _ _ e => e)
    case ifT =>
      intro f s' hJ
      refine hideG fun G hG => ?_
      obtain ⟨c, h7, tk7, u7, t7, adc, c1, c2, rfl, rfl, F7, N7, hv7, hd7, hs7⟩ := hJ
      dsimp only [lk] at F7
      have e3 : (2 : Int) * (c : Int) + 1 = ((2 * c + 1 : Nat) : Int) := rfl
      refine hG ?_
      clear hG
      (try dsimp only)
      k_steps
      rename Fr _ _ _ _ => F4
      rename News _ _ _ _ => N4
      simp only [e3] at F4
      refine ⟨k', Nat.lt_succ_self k', _, _, _, vs'.set q (.ref adc), H'.set q (H'.getD c (0, 0, 0)), c, _, _, _, rfl, fr_as [(Str.ofString "heap", .ref hp), (Str.ofString "startpos", .int 0 t0), (Str.ofString "pos", .int (c : Int) _), (Str.ofString "newitem", .ref ad), (Str.ofString "endpos", .int (H.length : Int) te), (Str.ofString "childpos", .int ((2 * c + 1 : Nat) : Int) _)] F4 ⟨rfl, rfl, rfl, rfl, rfl, rfl, trivial⟩, N4, hT2.set hd7 q, by rw [List.length_set]; exact c2, by rw [List.length_set]; exact hl2, hs7, by rw [List.length_set]; omega⟩
    case ifA =>
      by_cases hr : 2 * q + 2 < H'.length
      · refine hideG fun G hG => ?_
        obtain ⟨v2, hv2, hd2⟩ := hT2.get (j := 2 * q + 2) (by omega)
        obtain ⟨ad2, z1, z2, z3, nn2, rfl, hm2⟩ := dat3 hd2
        refine hG ?_
        clear hG
        k_steps
        k_dflt (refine lt_trip (by ktr_units) (News.get (by k_asm) (by k_mem)) (News.get (by k_asm) (by k_mem)) ?_)
        k_steps
        · rename Fr _ _ _ _ => F4
          rename News _ _ _ _ => N4
          rw [if_neg (by simp_all)] at hs2
          exact ⟨2 * q + 1, _, _, _, _, ad1, hq1, hk0, rfl, rfl, fr_as [(Str.ofString "heap", .ref hp), (Str.ofString "startpos", .int 0 t0), (Str.ofString "pos", .int (q : Int) tq), (Str.ofString "newitem", .ref ad), (Str.ofString "endpos", .int (H.length : Int) te), (Str.ofString "childpos", .int (((2 * q + 1 : Nat)) : Int) _)] F4 ⟨rfl, rfl, rfl, rfl, rfl, rfl, trivial⟩, N4, hv1, hd1, hs2⟩
        · rename Fr _ _ _ _ => F4
          rename News _ _ _ _ => N4
          simp only [e2] at F4
          rw [if_pos ⟨hr, by assumption⟩] at hs2
          exact ⟨2 * q + 2, _, _, _, _, ad2, hq2, hr, rfl, rfl, fr_as [(Str.ofString "heap", .ref hp), (Str.ofString "startpos", .int 0 t0), (Str.ofString "pos", .int (q : Int) tq), (Str.ofString "newitem", .ref ad), (Str.ofString "endpos", .int (H.length : Int) te), (Str.ofString "childpos", .int (((2 * q + 2 : Nat)) : Int) _)] F4 ⟨rfl, rfl, rfl, rfl, rfl, rfl, trivial⟩, N4, hv2, hd2, hs2⟩
      · k_steps
        rename Fr _ _ _ _ => F4
        rename News _ _ _ _ => N4
        rw [if_neg (fun h => hr h.1)] at hs2
        exact ⟨2 * q + 1, _, _, _, _, ad1, hq1, hk0, rfl, rfl, fr_as [(Str.ofString "heap", .ref hp), (Str.ofString "startpos", .int 0 t0), (Str.ofString "pos", .int (q : Int) tq), (Str.ofString "newitem", .ref ad), (Str.ofString "endpos", .int (H.length : Int) te), (Str.ofString "childpos", .int (((2 * q + 1 : Nat)) : Int) _)] F4 ⟨rfl, rfl, rfl, rfl, rfl, rfl, trivial⟩, N4, hv1, hd1, hs2⟩
  · refine WhlIf.no (by simp only [decide_eq_false_iff_not]; omega) ?_
    have hs3 : sup H.length 0 H = (q, H') := by
      rw [← hs2]
      cases k with
      | zero => rfl
      | succ k => rw [sup, if_neg (by omega)]
    k_steps
    rename Fr _ _ _ _ => F4
    rename News _ _ _ _ => N4
    refine (siftdown_c w _ _ _ _ _ rest hp _ n (H'.set q x) _ _ q (hT2.set hD1 q) (by rw [List.length_set]; omega) (by rw [List.length_set]; omega) hsep).use B' F4 X' N4 T' rfl (by show dp + 4 < recursionLimit; exact room hd (by decide)) (by show un + 33 < cLine; exact room hu (by decide)) ?_
    intro v news' h6 tk6 hR1 F6 N6
    refine hideG fun G hG => ?_
    obtain ⟨rfl, vs6, rfl, hT6⟩ := hR1
    refine hG ?_
    clear hG
    clear F4 N4
    k_steps
    refine hret _ _ _ _ ⟨rfl, _, rfl, ?_⟩ (by assumption) (by assumption)
    rw [siftupL, hx, hs3]
    have e : (H'.set q x).getD q (0, 0, 0) = x := by
      rw [List.getD_eq_getElem?_getD, List.getElem?_set_self (by omega)]; rfl
    rw [e] at hT6
    exact hT6
def pushL (x : T3) (H : List T3) : List T3 := sdown x H.length (H ++ [x])
section
local macro_rules | `(tactic| walk_at "call builtin:list.append") => `(tactic| (k_dflt (refine list_append (by k_asm) (by k_asm) (by assumption) (by omega) ?_); intro h3 F3 N3))
set_option maxRecDepth 100000 in
set_option maxHeartbeats 8000000 in
theorem heappush_c (w : World) (p : Program) (loose : List Str) (mean : ExcName → Option Value) (mg mb : Str → Option Value) (rest : List (Addr × Obj)) (hp : Addr) (vs : List Value) (n : Nat) (H : List T3) (ad : Addr) (x : T3)
    (hT : TA rest vs H) (hlen : H.length ≤ 90) (hsep : ∀ p ∈ rest, p.1 ≠ hp) (hx : DatIn rest (.ref ad) (d3 x)) :
    Sp w p loose mean mg mb 55 [.ref hp, .ref ad] 5 60 ((hp, listOf vs.toArray n) :: rest)
     (fun v news' => v = .none ∧ ∃ vs' n', news' = (hp, listOf vs'.toArray n') :: rest ∧ TA rest vs' (pushL x H)) := by
  unfold Sp
  k_fill
  w_top off
  intro dp un gd cn cs a ccd cl outer A₀ base h₀ L m s Q E B F X N T hk hd hu hret
  refine wpAny_call ?_
  k_dflt (refine' code_def ?k1 ?k2 ?k3 ?k4 ?k5 ?kA ?kF ?kK ?k6 ?k7 ?k8 ?k9 ?kB ?_ ?c2 ?c3 ?c4 ?c5; (case kA => exact rfl); (case kF => exact rfl); (case kK => assumption); (case k1 => k_asm); (case k2 => k_asm); (case k3 => k_asm); (case k4 => k_asm); (case k5 => k_asm); (case k6 => k_is); (case k7 => k_is); (case k8 => ktr_room); (case k9 => first | exact BindsTo.of_eq rfl | exact binds_K (by k_in) rfl (by k_is) rfl rfl rfl); (case c5 => decide); (case kB => exact locs rfl); (case c2 => exact rfl); (case c3 => exact rfl); (case c4 => exact rfl); k_whole)
  intro g' L' h1 FG' F' N' B' X' T'
  (try dsimp only)
  (try k_lift B')
  (try k_fold)
  have hlv0 := hT.len
  have hT2 : TA rest (vs ++ [.ref ad]) (H ++ [x]) := by
    show DatAll _ _ _
    rw [List.map_append]
    exact DatAll.append hT (DatAll.one hx)
  have hlv1 : (vs ++ [Value.ref ad]).length = H.length + 1 := by simp [hlv0]
  have hlH : (H ++ [x]).length = H.length + 1 := by simp
  k_steps
  rename Fr _ _ _ _ => F4
  rename News _ _ _ _ => N4
  have e1 : (((vs ++ [Value.ref ad]).length : Nat) : Int) - 1 = ((H.length : Nat) : Int) := by omega
  rw [e1]
  refine (siftdown_c w _ _ _ _ _ rest hp _ _ (H ++ [x]) _ _ H.length hT2 (by omega) (by omega) hsep).use B' F4 X' N4 T' rfl (by show dp + 4 < recursionLimit; exact room hd (by decide)) (by show un + 33 < cLine; exact room hu (by decide)) ?_
  intro v news' h6 tk6 hR1 F6 N6
  refine hideG fun G hG => ?_
  obtain ⟨rfl, vs6, rfl, hT6⟩ := hR1
  refine hG ?_
  clear hG
  clear F4 N4
  k_steps
  refine hret _ _ _ _ ⟨rfl, _, _, rfl, ?_⟩ (by assumption) (by assumption)
  have e : (H ++ [x]).getD H.length (0, 0, 0) = x := by simp [List.getD_eq_getElem?_getD]
  rw [e] at hT6
  exact hT6
end
set_option maxRecDepth 100000 in
set_option maxHeartbeats 8000000 in
theorem heappop_c (w : World) (p : Program) (loose : List Str) (mean : ExcName → Option Value) (mg mb : Str → Option Value) (rest : List (Addr × Obj)) (hp : Addr) (vs : List Value) (n : Nat) (H : List T3) (x : T3)
    (hT : TA rest vs (H ++ [x])) (hlen : H.length ≤ 90) (hsep : ∀ p ∈ rest, p.1 ≠ hp) :
    Sp w p loose mean mg mb 62 [.ref hp] 7 90 ((hp, listOf vs.toArray n) :: rest)
     (fun v news' => DatIn rest v (d3 (if H = [] then x else H.getD 0 (0, 0, 0))) ∧ ∃ vs' n', news' = (hp, listOf vs'.toArray n') :: rest ∧ TA rest vs' (if H = [] then [] else siftupL (H.set 0 x))) := by
  unfold Sp
  k_fill
  w_top off
  intro dp un gd cn cs a ccd cl outer A₀ base h₀ L m s Q E B F X N T hk hd hu hret
  refine wpAny_call ?_
  k_dflt (refine' code_def ?k1 ?k2 ?k3 ?k4 ?k5 ?kA ?kF ?kK ?k6 ?k7 ?k8 ?k9 ?kB ?_ ?c2 ?c3 ?c4 ?c5; (case kA => exact rfl); (case kF => exact rfl); (case kK => assumption); (case k1 => k_asm); (case k2 => k_asm); (case k3 => k_asm); (case k4 => k_asm); (case k5 => k_asm); (case k6 => k_is); (case k7 => k_is); (case k8 => ktr_room); (case k9 => first | exact BindsTo.of_eq rfl | exact binds_K (by k_in) rfl (by k_is) rfl rfl rfl); (case c5 => decide); (case kB => exact locs rfl); (case c2 => exact rfl); (case c3 => exact rfl); (case c4 => exact rfl); k_whole)
  intro g' L' h1 FG' F' N' B' X' T'
  (try dsimp only)
  (try k_lift B')
  (try k_fold)
  have hlv0 := hT.len
  refine hideG fun G hG => ?_
  obtain ⟨us, v, rfl, hTu, hv⟩ : ∃ us v, vs = us ++ [v] ∧ TA rest us H ∧ DatIn rest v (d3 x) := by
    have h1 : DatAll rest vs (H.map d3 ++ [d3 x]) := by
      have := hT
      unfold TA at this
      rwa [List.map_append] at this
    have h2 : vs ≠ [] := by rintro rfl; simp at hlv0
    obtain ⟨us, v, rfl⟩ : ∃ us v, vs = us ++ [v] := ⟨vs.dropLast, vs.getLast h2, (List.dropLast_concat_getLast h2).symm⟩
    obtain ⟨es, d, e, h3, h4⟩ := DatAll.snoc h1
    have h5 := List.append_inj' e rfl
    obtain ⟨e1, e2⟩ := h5
    injection e2 with e2 _
    subst e1 e2
    exact ⟨us, v, rfl, h3, h4⟩
  obtain ⟨ad, x1, x2, x3, nn, rfl, hmx⟩ := dat3 hv
  have hlu := hTu.len
  refine hG ?_
  clear hG
  k_steps
  refine list_pop (by assumption) (by assumption) hsep (by omega) ?_
  intro h3 F3 N3
  rcases H with _ | ⟨y, H⟩
  · have : us = [] := by cases us with | nil => rfl | cons _ _ => simp at hlu
    subst this
    k_steps
    refine hret _ _ _ _ ⟨?_, [], _, rfl, ?_⟩ (by assumption) (by assumption)
    · rw [if_pos rfl]; exact hv
    · rw [if_pos rfl]; exact DatAll.nil
  · obtain ⟨u, us, rfl⟩ : ∃ u us', us = u :: us' := by cases us with | nil => simp at hlu | cons u us' => exact ⟨_, _, rfl⟩
    have hTu' : DatIn rest u (d3 y) := by
      have := hTu
      unfold TA at this
      cases this with | cons h1 h2 => exact h1
    have hT6 := hTu.set hv 0
    have hs0 : (0 : Int) = ((0 : Nat) : Int) := rfl
    have hx0 : (u :: us)[0]? = some u := rfl
    have hlc : (u :: us).length = H.length + 1 := by simpa using hlu
    have hlH : (y :: H).length = H.length + 1 := rfl
    have hlS : ((y :: H).set 0 x).length = H.length + 1 := rfl
    k_steps
    rename Fr _ _ _ _ => F4
    rename News _ _ _ _ => N4
    refine (siftup_c w _ _ _ _ _ rest hp _ _ ((y :: H).set 0 x) _ hT6 (by omega) (by omega) hsep).use B' F4 X' N4 T' rfl (by show dp + 6 < recursionLimit; exact room hd (by decide)) (by show un + 63 < cLine; exact room hu (by decide)) ?_
    intro v7 news' h6 tk6 hR1 F6 N6
    refine hideG fun G hG => ?_
    obtain ⟨rfl, vs6, rfl, hT7⟩ := hR1
    refine hG ?_
    clear hG
    clear F4 N4
    k_steps
    refine hret _ _ _ _ ⟨?_, vs6, _, rfl, ?_⟩ (by assumption) (by assumption)
    · rw [if_neg (by simp)]; exact hTu'
    · rw [if_neg (by simp)]; exact hT7
set_option maxRecDepth 100000 in
set_option maxHeartbeats 8000000 in
theorem drep_c (w : World) (p : Program) (loose : List Str) (mean : ExcName → Option Value) (mg mb : Str → Option Value) (news : List (Addr × Obj)) (x : Str) (t : Tok) (d : Addr) (ps : List (Str × Tok × Value)) (ep : Nat)
    (hm : (d, dictOf (ps.map (entOf w)) ep) ∈ news) (hn : (ps.map (·.1)).Nodup) (lo : (d == sysModules) = false) (hok : ∀ p ∈ ps, PairOk p) (hlen : (x.length + 1) * 15 ^ ps.length ≤ 1000000) :
    Sp0 w p loose mean mg mb 21 [.str x t, .ref d] 3 30 news (fun v news' => news' = news ∧ ∃ t', v = .str (replAll ps x) t') := by
  unfold Sp0
  k_fill
  w_top off
  intro dp un gd cn cs a ccd cl outer A₀ base h₀ L m s Q E B F X N T hk hd hu hret
  refine wpAny_call ?_
  k_dflt (refine' code_def ?k1 ?k2 ?k3 ?k4 ?k5 ?kA ?kF ?kK ?k6 ?k7 ?k8 ?k9 ?kB ?_ ?c2 ?c3 ?c4 ?c5; (case kA => exact rfl); (case kF => exact rfl); (case kK => assumption); (case k1 => k_asm); (case k2 => k_asm); (case k3 => k_asm); (case k4 => k_asm); (case k5 => k_asm); (case k6 => k_is); (case k7 => k_is); (case k8 => ktr_room); (case k9 => first | exact BindsTo.of_eq rfl | exact binds_K (by k_in) rfl (by k_is) rfl rfl rfl); (case c5 => decide); (case kB => exact locs rfl); (case c2 => exact rfl); (case c3 => exact rfl); (case c4 => exact rfl); k_whole)
  intro g' L' h1 FG' F' N' B' X' T'
  (try dsimp only)
  (try k_lift B')
  (try k_fold)
  k_steps
  rename Fr _ _ _ _ => F1
  rename News _ _ _ _ => N1
  refine For_turns F1 ?_ (by intro _; rfl) (by passes_own)
  k_steps
  refine items_meth (by assumption) hm hn ?_
  k_steps
  refine items_call F1 N1 hm hn lo ?_
  intro h2 hvw F2 N2
  refine items_turns rfl F2 N2 hvw hm hn ?_
  intro I hI
  refine items_ind (show SubL [(d, dictOf (ps.map (entOf w)) ep)] news from And.intro hm trivial) (fun qs m => ∃ x' t' u, m = lk [(Str.ofString "s", .str x' t'), (Str.ofString "d", .ref d)] u ∧ (∀ p ∈ qs, PairOk p) ∧ (x'.length + 1) * 15 ^ qs.length ≤ 1000000 ∧ replAll qs x' = replAll ps x) ?nil ?cons ps _ ?init
  case init =>
    refine ⟨x, t, _, (lk_as ?_).symm, hok, hlen, rfl⟩
    exact ⟨rfl, rfl, trivial⟩
  case nil =>
    intro m2 hR1 h3 tk3 F3 N3
    refine hideG fun G hG => ?_
    obtain ⟨x', t', u, rfl, _, _, he⟩ := hR1
    refine hG ?_
    clear hG
    dsimp only [lk] at F3
    clear F1 N1 F2 N2
    k_steps
    exact hret _ _ _ _ ⟨rfl, _, by rw [← he]; rfl⟩ (by assumption) (by assumption)
  case cons =>
    intro q qs m2 hR1 v h3 tk3 hv F3
    refine hideG fun G hG => ?_
    obtain ⟨x', t', u, rfl, hq, hb, he⟩ := hR1
    refine hG ?_
    clear hG
    dsimp only [lk] at F3
    clear F1 N1 F2 N2
    obtain ⟨T0, t0, rfl, hT0⟩ := hv
    obtain ⟨y, uy, e1, e2, e3, e4, e5, e6⟩ := hq q (.head _)
    refine AllObj.cons fun o ho => AllObj.nil fun N3 => ?_
    k_steps
    rw [e1]
    refine SC.replaceW e2 e3 e4 e5 (by simp only [List.length_cons] at hb; have : 1 ≤ 15 ^ (qs.length + 1) := Nat.pow_pos (by decide); have := Nat.mul_le_mul_left (x'.length + 1) this; omega) e6 fun t' k' => ?_
    k_steps
    rename Fr _ _ _ _ => F4
    rename News _ _ _ _ => N4
    refine ⟨_, _, _, _, rfl, F4, N4, ?own, rfl, ?_⟩
    case own =>
      intro p hp q hq e
      rw [List.mem_singleton.mp hq] at e
      exact Nat.ne_of_lt (hI p hp) e
    refine ⟨Txt.replace x' q.1 y, t', _, (lk_as ?_).symm, fun p hp => hq p (.tail _ hp), ?_, ?_⟩
    · exact ⟨rfl, rfl, trivial⟩
    · have h1 := len_repA (x := x') (y := q.1) e6
      have h2 := Nat.mul_le_mul_right (15 ^ qs.length) h1
      simp only [List.length_cons, Nat.pow_succ] at hb
      calc _ ≤ (x'.length + 1) * 15 * 15 ^ qs.length := h2
        _ = (x'.length + 1) * (15 ^ qs.length * 15) := by rw [Nat.mul_assoc, Nat.mul_comm 15]
        _ ≤ _ := hb
    · rw [← he]
      show _ = replAll qs (Txt.replace x' q.1 (valStr q.2.2))
      rw [e1]
      rfl
set_option maxRecDepth 100000 in
set_option maxHeartbeats 8000000 in
theorem escape_c (w : World) (p : Program) (loose : List Str) (mean : ExcName → Option Value) (mg mb : Str → Option Value) (news : List (Addr × Obj)) (x : Str) (t : Tok) (hx : x.length ≤ 10000) :
    Sp w p loose mean mg mb 30 [.str x t] 3 30 news (fun v news' => news' = news ∧ ∃ t', v = .str (escS x) t') := by
  unfold Sp
  k_fill
  w_top off
  intro dp un gd cn cs a ccd cl outer A₀ base h₀ L m s Q E B F X N T hk hd hu hret
  refine wpAny_call ?_
  k_dflt (refine' code_def ?k1 ?k2 ?k3 ?k4 ?k5 ?kA ?kF ?kK ?k6 ?k7 ?k8 ?k9 ?kB ?_ ?c2 ?c3 ?c4 ?c5; (case kA => exact rfl); (case kF => exact rfl); (case kK => assumption); (case k1 => k_asm); (case k2 => k_asm); (case k3 => k_asm); (case k4 => k_asm); (case k5 => k_asm); (case k6 => k_is); (case k7 => k_is); (case k8 => ktr_room); (case k9 => first | exact BindsTo.of_eq rfl | exact binds_K (by k_in) rfl (by k_is) rfl rfl rfl); (case c5 => decide); (case kB => exact locs rfl); (case c2 => exact rfl); (case c3 => exact rfl); (case c4 => exact rfl); k_whole)
  intro g' L' h1 FG' F' N' B' X' T'
  (try dsimp only)
  (try k_lift B')
  (try k_fold)
  have r2 : (Txt.replace x (Str.ofString "&") (Str.ofString "&amp;")).length ≤ 1048576 := Nat.le_trans (len_rep hx (by decide +kernel)) (by decide)
  have r3 : (Txt.replace (Txt.replace x (Str.ofString "&") (Str.ofString "&amp;")) (Str.ofString ">") (Str.ofString "&gt;")).length ≤ 1048576 := Nat.le_trans (len_rep (len_rep hx (by decide +kernel)) (by decide +kernel)) (by decide)
  k_steps
  k_dflt (refine truthy_dict22 (by decide) (by first | (refine (Frag.In.keeps (by assumption) (Fr.keep (by assumption))) _ _ ?_; k_is)) ?_)
  k_steps
  exact hret _ _ _ _ ⟨rfl, _, rfl⟩ (by assumption) (by assumption)

/-- unescape without entities -/
def uneS (x : Str) : Str := Txt.replace (Txt.replace (Txt.replace x (Str.ofString "&lt;") (Str.ofString "<")) (Str.ofString "&gt;") (Str.ofString ">")) (Str.ofString "&amp;") (Str.ofString "&")
set_option maxRecDepth 100000 in
set_option maxHeartbeats 8000000 in
theorem unescape_c (w : World) (p : Program) (loose : List Str) (mean : ExcName → Option Value) (mg mb : Str → Option Value) (news : List (Addr × Obj)) (x : Str) (t : Tok) (hx : x.length ≤ 10000) :
    Sp0 w p loose mean mg mb 39 [.str x t] 3 30 news (fun v news' => news' = news ∧ ∃ t', v = .str (uneS x) t') := by
  unfold Sp0
  k_fill
  w_top off
  intro dp un gd cn cs a ccd cl outer A₀ base h₀ L m s Q E B F X N T hk hd hu hret
  refine wpAny_call ?_
  k_dflt (refine' code_def ?k1 ?k2 ?k3 ?k4 ?k5 ?kA ?kF ?kK ?k6 ?k7 ?k8 ?k9 ?kB ?_ ?c2 ?c3 ?c4 ?c5; (case kA => exact rfl); (case kF => exact rfl); (case kK => assumption); (case k1 => k_asm); (case k2 => k_asm); (case k3 => k_asm); (case k4 => k_asm); (case k5 => k_asm); (case k6 => k_is); (case k7 => k_is); (case k8 => ktr_room); (case k9 => first | exact BindsTo.of_eq rfl | exact binds_K (by k_in) rfl (by k_is) rfl rfl rfl); (case c5 => decide); (case kB => exact locs rfl); (case c2 => exact rfl); (case c3 => exact rfl); (case c4 => exact rfl); k_whole)
  intro g' L' h1 FG' F' N' B' X' T'
  (try dsimp only)
  (try k_lift B')
  (try k_fold)
  have r2 : (Txt.replace x (Str.ofString "&lt;") (Str.ofString "<")).length ≤ 1048576 := Nat.le_trans (len_rep hx (by decide +kernel)) (by decide)
  have r3 : (Txt.replace (Txt.replace x (Str.ofString "&lt;") (Str.ofString "<")) (Str.ofString "&gt;") (Str.ofString ">")).length ≤ 1048576 := Nat.le_trans (len_rep (len_rep hx (by decide +kernel)) (by decide +kernel)) (by decide)
  k_steps
  k_dflt (refine truthy_dict22 (by decide) (by first | (refine (Frag.In.keeps (by assumption) (Fr.keep (by assumption))) _ _ ?_; k_is)) ?_)
  k_steps
  exact hret _ _ _ _ ⟨rfl, _, rfl⟩ (by assumption) (by assumption)
section
variable {prog : Program} {w : World} {A : Around} {E : Value → Shared → Prop} {s : Shared} {h₀ : Heap} {L : Addr} {news : List (Addr × Obj)}
theorem truthy_ex {d : Addr} {ps : List (Str × Tok × Value)} {ep : Nat} {Q : Bool → Shared → Prop} (N : News h₀ L s.heap news) (hm : (d, dictOf (ps.map (entOf w)) ep) ∈ news) (hn : (ps.map (·.1)).Nodup) (lo : (d == sysModules) = false) (hz : ps.length < 1000)
    (h : Q (!ps.isEmpty) { s with toks := s.toks + 1 + 1 }) : wpAny (model prog w) A (truthy (.ref d)) Q E s := by
  have hd := (dictAt_ex (prog := prog) (N _ hm).1 hn).dictOf
  refine wpAny_truthy_dict lo hd (by rw [List.length_map]; omega) ?_
  have e : (!(ps.map fun p => (p.1, p.2.2)).isEmpty) = (!ps.isEmpty) := by cases ps <;> rfl
  rw [e]; exact h
end
set_option maxRecDepth 100000 in
set_option maxHeartbeats 8000000 in
theorem escape2_c (w : World) (p : Program) (loose : List Str) (mean : ExcName → Option Value) (mg mb : Str → Option Value) (news : List (Addr × Obj)) (x : Str) (t : Tok) (d : Addr) (ps : List (Str × Tok × Value)) (ep : Nat)
    (hx : x.length ≤ 10) (hm : (d, dictOf (ps.map (entOf w)) ep) ∈ news) (hn : (ps.map (·.1)).Nodup) (lo : (d == sysModules) = false) (hok : ∀ p ∈ ps, PairOk p) (hl : ps.length ≤ 3) (hne : ps ≠ []) (hlen : ((escS x).length + 1) * 15 ^ ps.length ≤ 1000000) :
    Sp w p loose mean mg mb 30 [.str x t, .ref d] 5 60 news (fun v news' => news' = news ∧ ∃ t', v = .str (replAll ps (escS x)) t') := by
  unfold Sp
  k_fill
  w_top off
  intro dp un gd cn cs a ccd cl outer A₀ base h₀ L m s Q E B F X N T hk hd hu hret
  refine wpAny_call ?_
  k_dflt (refine' code_def ?k1 ?k2 ?k3 ?k4 ?k5 ?kA ?kF ?kK ?k6 ?k7 ?k8 ?k9 ?kB ?_ ?c2 ?c3 ?c4 ?c5; (case kA => exact rfl); (case kF => exact rfl); (case kK => assumption); (case k1 => k_asm); (case k2 => k_asm); (case k3 => k_asm); (case k4 => k_asm); (case k5 => k_asm); (case k6 => k_is); (case k7 => k_is); (case k8 => ktr_room); (case k9 => first | exact BindsTo.of_eq rfl | exact binds_K (by k_in) rfl (by k_is) rfl rfl rfl); (case c5 => decide); (case kB => exact locs rfl); (case c2 => exact rfl); (case c3 => exact rfl); (case c4 => exact rfl); k_whole)
  intro g' L' h1 FG' F' N' B' X' T'
  (try dsimp only)
  (try k_lift B')
  (try k_fold)
  have r2 : (Txt.replace x (Str.ofString "&") (Str.ofString "&amp;")).length ≤ 1048576 := Nat.le_trans (len_rep hx (by decide +kernel)) (by decide)
  have r3 : (Txt.replace (Txt.replace x (Str.ofString "&") (Str.ofString "&amp;")) (Str.ofString ">") (Str.ofString "&gt;")).length ≤ 1048576 := Nat.le_trans (len_rep (len_rep hx (by decide +kernel)) (by decide +kernel)) (by decide)
  k_steps
  refine truthy_ex (by assumption) hm hn lo (by omega) ?_
  rw [show (!ps.isEmpty) = true by cases ps with
    | nil => exact absurd rfl hne
    | cons => rfl]
  k_steps
  rename Fr _ _ _ _ => F4
  rename News _ _ _ _ => N4
  refine (drep_c w _ _ _ _ _ _ _ _ d ps ep hm hn lo hok hlen).useS B' F4 X' N4 T' rfl (by show dp + 4 < recursionLimit; exact room hd (by decide)) (by show un + 33 < cLine; exact room hu (by decide)) ?_
  intro t6 h6 tk6 F6 N6
  clear F4 N4
  k_steps
  exact hret _ _ _ _ ⟨rfl, _, rfl⟩ (by assumption) (by assumption)
set_option maxRecDepth 100000 in
set_option maxHeartbeats 8000000 in
theorem unescape2_c (w : World) (p : Program) (loose : List Str) (mean : ExcName → Option Value) (mg mb : Str → Option Value) (news : List (Addr × Obj)) (x : Str) (t : Tok) (d : Addr) (ps : List (Str × Tok × Value)) (ep : Nat)
    (hx : x.length ≤ 50) (hm : (d, dictOf (ps.map (entOf w)) ep) ∈ news) (hn : (ps.map (·.1)).Nodup) (lo : (d == sysModules) = false) (hok : ∀ p ∈ ps, PairOk p) (hl : ps.length ≤ 3) (hne : ps ≠ []) (hlen : ((Txt.replace (Txt.replace x (Str.ofString "&lt;") (Str.ofString "<")) (Str.ofString "&gt;") (Str.ofString ">")).length + 1) * 15 ^ ps.length ≤ 1000000)
    (hlen2 : (replAll ps (Txt.replace (Txt.replace x (Str.ofString "&lt;") (Str.ofString "<")) (Str.ofString "&gt;") (Str.ofString ">"))).length ≤ 1000000) :
    Sp0 w p loose mean mg mb 39 [.str x t, .ref d] 5 60 news (fun v news' => news' = news ∧ ∃ t', v = .str (Txt.replace (replAll ps (Txt.replace (Txt.replace x (Str.ofString "&lt;") (Str.ofString "<")) (Str.ofString "&gt;") (Str.ofString ">"))) (Str.ofString "&amp;") (Str.ofString "&")) t') := by
  unfold Sp0
  k_fill
  w_top off
  intro dp un gd cn cs a ccd cl outer A₀ base h₀ L m s Q E B F X N T hk hd hu hret
  refine wpAny_call ?_
  k_dflt (refine' code_def ?k1 ?k2 ?k3 ?k4 ?k5 ?kA ?kF ?kK ?k6 ?k7 ?k8 ?k9 ?kB ?_ ?c2 ?c3 ?c4 ?c5; (case kA => exact rfl); (case kF => exact rfl); (case kK => assumption); (case k1 => k_asm); (case k2 => k_asm); (case k3 => k_asm); (case k4 => k_asm); (case k5 => k_asm); (case k6 => k_is); (case k7 => k_is); (case k8 => ktr_room); (case k9 => first | exact BindsTo.of_eq rfl | exact binds_K (by k_in) rfl (by k_is) rfl rfl rfl); (case c5 => decide); (case kB => exact locs rfl); (case c2 => exact rfl); (case c3 => exact rfl); (case c4 => exact rfl); k_whole)
  intro g' L' h1 FG' F' N' B' X' T'
  (try dsimp only)
  (try k_lift B')
  (try k_fold)
  have r2 : (Txt.replace x (Str.ofString "&lt;") (Str.ofString "<")).length ≤ 1048576 := Nat.le_trans (len_rep hx (by decide +kernel)) (by decide)
  have r3 : (Txt.replace (Txt.replace x (Str.ofString "&lt;") (Str.ofString "<")) (Str.ofString "&gt;") (Str.ofString ">")).length ≤ 1048576 := Nat.le_trans (len_rep (len_rep hx (by decide +kernel)) (by decide +kernel)) (by decide)
  k_steps
  refine truthy_ex (by assumption) hm hn lo (by omega) ?_
  rw [show (!ps.isEmpty) = true by cases ps with
    | nil => exact absurd rfl hne
    | cons => rfl]
  k_steps
  rename Fr _ _ _ _ => F4
  rename News _ _ _ _ => N4
  refine (drep_c w _ _ _ _ _ _ _ _ d ps ep hm hn lo hok hlen).useS B' F4 X' N4 T' rfl (by show dp + 4 < recursionLimit; exact room hd (by decide)) (by show un + 33 < cLine; exact room hu (by decide)) ?_
  intro t6 h6 tk6 F6 N6
  clear F4 N4
  k_steps
  exact hret _ _ _ _ ⟨rfl, _, rfl⟩ (by assumption) (by assumption)
/-- the three entries of quoteattr -/
def qEnt (t : Tok) : List (Str × Tok × Value) := [(Str.ofString "\n", t, Value.str (Str.ofString "&#10;") (t + 1)), (Str.ofString "\r", t + 2, Value.str (Str.ofString "&#13;") (t + 2 + 1)), (Str.ofString "\t", t + 2 + 2, Value.str (Str.ofString "&#9;") (t + 2 + 2 + 1))]
def qMid (x : Str) : Str := Txt.replace (Txt.replace (Txt.replace (escS x) (Str.ofString "\n") (Str.ofString "&#10;")) (Str.ofString "\r") (Str.ofString "&#13;")) (Str.ofString "\t") (Str.ofString "&#9;")
/-- the sign does not stand in the text -/
def lacks (x y : Str) : Bool := (Builtin.Str.occurrences x y 0 x.length 1).isEmpty
def quoS (x : Str) : Str :=
  if lacks (qMid x) (Str.ofString "\"") then Str.ofString "\"" ++ qMid x ++ Str.ofString "\""
  else if lacks (qMid x) (Str.ofString "'") then Str.ofString "'" ++ qMid x ++ Str.ofString "'"
  else Str.ofString "\"" ++ Txt.replace (qMid x) (Str.ofString "\"") (Str.ofString "&quot;") ++ Str.ofString "\""
set_option maxRecDepth 100000 in
set_option maxHeartbeats 8000000 in
theorem fmtD {prog : Program} {w : World} {A : Around} {E : Value → Shared → Prop} {s : Shared} {y : Str} {t u : Tok} {Q : Value → Shared → Prop} (hy : y.length ≤ 1000000)
    (h : ∀ t' k, Q (.str (Str.ofString "\"" ++ y ++ Str.ofString "\"") t') { s with toks := k }) : wpAny (model prog w) A (binaryOp .Mod (.str (Str.ofString "\"%s\"") t) (.str y u)) Q E s := by
  refine' KPc.mod_str ?kpcF hy ?kpcm ?_
  case kpcF => kpc_eq
  case kpcm => k_dflt kpc_run_s
  exact h
set_option maxRecDepth 100000 in
set_option maxHeartbeats 8000000 in
theorem fmtS {prog : Program} {w : World} {A : Around} {E : Value → Shared → Prop} {s : Shared} {y : Str} {t u : Tok} {Q : Value → Shared → Prop} (hy : y.length ≤ 1000000)
    (h : ∀ t' k, Q (.str (Str.ofString "'" ++ y ++ Str.ofString "'") t') { s with toks := k }) : wpAny (model prog w) A (binaryOp .Mod (.str (Str.ofString "'%s'") t) (.str y u)) Q E s := by
  refine' KPc.mod_str ?kpcF hy ?kpcm ?_
  case kpcF => kpc_eq
  case kpcm => k_dflt kpc_run_s
  exact h
local macro_rules | `(tactic| walk_at "binaryOp Mod str str") => `(tactic| ((with_reducible first | refine fmtD (by assumption) ?_ | refine fmtS (by assumption) ?_); intro _ _))
set_option maxRecDepth 100000 in
set_option maxHeartbeats 8000000 in
theorem quoteattr_c (w : World) (p : Program) (loose : List Str) (mean : ExcName → Option Value) (mg mb : Str → Option Value) (news : List (Addr × Obj)) (x : Str) (t : Tok) (hx : x.length ≤ 10) (hlen : (escS x).length ≤ 250) (hq : (qMid x).length ≤ 1000) :
    Sp0 w p loose mean mg mb 48 [.str x t] 7 90 news (fun v news' => news' = news ∧ ∃ t', v = .str (quoS x) t') := by
  unfold Sp0
  k_fill
  w_top off
  intro dp un gd cn cs a ccd cl outer A₀ base h₀ L m s Q E B F X N T hk hd hu hret
  refine wpAny_call ?_
  k_dflt (refine' code_def ?k1 ?k2 ?k3 ?k4 ?k5 ?kA ?kF ?kK ?k6 ?k7 ?k8 ?k9 ?kB ?_ ?c2 ?c3 ?c4 ?c5; (case kA => exact rfl); (case kF => exact rfl); (case kK => assumption); (case k1 => k_asm); (case k2 => k_asm); (case k3 => k_asm); (case k4 => k_asm); (case k5 => k_asm); (case k6 => k_is); (case k7 => k_is); (case k8 => ktr_room); (case k9 => first | exact BindsTo.of_eq rfl | exact binds_K (by k_in) rfl (by k_is) rfl rfl rfl); (case c5 => decide); (case kB => exact locs rfl); (case c2 => exact rfl); (case c3 => exact rfl); (case c4 => exact rfl); k_whole)
  intro g' L' h1 FG' F' N' B' X' T'
  (try dsimp only)
  (try k_lift B')
  (try k_fold)
  k_steps
  refine display_star (o := 40) (by assumption) (by assumption) (by decide) (Top.nolimit T') (X' _ _ (by k_is)) (by decide) ?hval ?_
  case hval =>
    intro s' Q F1 hQ
    k_steps
    exact hQ
  intro d h6 tk6 t6 F6 N6 hlt lo ht6
  have h0 : 0 < t6 := Nat.lt_of_lt_of_le (by first | omega | with_unfolding_all exact Nat.succ_pos _) ht6
  have b1 : ∀ k, (t6 + k : Nat) ≠ (0 : Nat) := fun k => Nat.ne_of_gt (Nat.lt_of_lt_of_le h0 (Nat.le_add_right _ _))
  k_steps
  rename Fr _ _ _ _ => F4
  rename News _ _ _ _ => N4
  refine (escape2_c w _ _ _ _ _ _ _ _ d (qEnt t6) 3 hx (.head _) (by show [Str.ofString "\n", Str.ofString "\r", Str.ofString "\t"].Nodup; decide) lo ?hok (by show 3 ≤ 3; decide) (by simp [qEnt]) (by show _ * 15 ^ 3 ≤ _; omega)).useS B' F4 X' N4 T' rfl (by show dp + 6 < recursionLimit; exact room hd (by decide)) (by show un + 63 < cLine; exact room hu (by decide)) ?_
  case hok =>
    intro p hp
    simp only [qEnt, List.mem_cons, List.not_mem_nil, or_false] at hp
    rcases hp with rfl | rfl | rfl
    · exact ⟨_, _, rfl, b1 0, b1 1, Nat.ne_of_lt (Nat.lt_succ_self t6), rfl, by decide⟩
    · exact ⟨_, _, rfl, b1 2, b1 3, Nat.ne_of_lt (Nat.lt_succ_self (t6 + 2)), rfl, by decide⟩
    · exact ⟨_, _, rfl, b1 4, b1 5, Nat.ne_of_lt (Nat.lt_succ_self (t6 + 4)), rfl, by decide⟩
  intro t6 h6 tk6 F6 N6
  clear F4 N4
  show wpAny _ _ _ _ _ _
  rw [show replAll (qEnt _) (escS x) = qMid x from rfl]
  have hm1 : (qMid x).length ≤ 1000000 := by omega
  have hm2 : (Txt.replace (qMid x) (Str.ofString "\"") (Str.ofString "&quot;")).length ≤ 1000000 := by
    have := len_repA (x := qMid x) (y := Str.ofString "\"") (z := Str.ofString "&quot;") (by decide)
    omega
  k_steps
  · rename News _ _ _ _ => N5
    have e : quoS x = Str.ofString "\"" ++ qMid x ++ Str.ofString "\"" := by
      unfold quoS lacks
      rw [if_pos (by assumption)]
    exact hret _ _ _ _ ⟨rfl, _, by rw [e]⟩ (by assumption) (fun p hp => N5 p (.tail _ hp))
  · rename News _ _ _ _ => N5
    have e : quoS x = Str.ofString "'" ++ qMid x ++ Str.ofString "'" := by
      unfold quoS lacks
      rw [if_neg (by simp_all), if_pos (by assumption)]
    exact hret _ _ _ _ ⟨rfl, _, by rw [e]⟩ (by assumption) (fun p hp => N5 p (.tail _ hp))
  · rename News _ _ _ _ => N5
    have e : quoS x = Str.ofString "\"" ++ Txt.replace (qMid x) (Str.ofString "\"") (Str.ofString "&quot;") ++ Str.ofString "\"" := by
      unfold quoS lacks
      rw [if_neg (by simp_all), if_neg (by simp_all)]
    exact hret _ _ _ _ ⟨rfl, _, by rw [e]⟩ (by assumption) (fun p hp => N5 p (.tail _ hp))
def dsp (a : Int × Int × Str) : Dat := .tuple [.int a.1, .int a.2.1, .str a.2.2]
def pcs (t : Tok) : List Value := [Value.str (Str.ofString "\"") t, Value.str (Str.ofString "'") (t + 1), Value.str (Str.ofString "<") (t + 1 + 1), Value.str (Str.ofString ">") (t + 1 + 1 + 1), Value.str (Str.ofString "&") (t + 1 + 1 + 1 + 1), Value.str (Str.ofString "a") (t + 1 + 1 + 1 + 1 + 1), Value.str (Str.ofString "\n") (t + 1 + 1 + 1 + 1 + 1 + 1), Value.str (Str.ofString " ") (t + 1 + 1 + 1 + 1 + 1 + 1 + 1), Value.str (Str.ofString "=") (t + 1 + 1 + 1 + 1 + 1 + 1 + 1 + 1), Value.str (Str.ofString "") (t + 1 + 1 + 1 + 1 + 1 + 1 + 1 + 1 + 1)]
def pieceS (j : Nat) : Str := ([Str.ofString "\"", Str.ofString "'", Str.ofString "<", Str.ofString ">", Str.ofString "&", Str.ofString "a", Str.ofString "\n", Str.ofString " ", Str.ofString "=", Str.ofString ""] : List Str).getD j Str.empty
/-- the signs of a number's figures -/
def figs (n : Int) : List Nat := (Str.ofString (toString ((if n < 0 then -n else n).fmod 100))).cps.toList
def labS (n : Int) : Str := Txt.join (Str.ofString "") ((figs n).map fun c => pieceS (c - 48))
def spanOf (size a b : Int) : Int × Int × Str := (min (a.fmod (size + 1)) (b.fmod (size + 1)), max (a.fmod (size + 1)) (b.fmod (size + 1)), labS a)
def spansTo (size : Int) (ns : List Int) (n : Nat) : List (Int × Int × Str) := (List.range n).map fun i => spanOf size (ns.getD (2 * i) 0) (ns.getD (2 * i + 1) 0)
theorem figs_lt (n : Int) : ∀ c ∈ figs n, 48 ≤ c ∧ c ≤ 57 := by
  unfold figs
  obtain ⟨m, hm⟩ : ∃ m : Nat, (if n < 0 then -n else n).fmod 100 = (m : Int) := ⟨_, (Int.toNat_of_nonneg (Int.fmod_nonneg_of_pos _ (by decide))).symm⟩
  rw [hm, KIN.signs_num]
  intro c hc
  obtain ⟨ch, hch, e⟩ := List.mem_map.mp hc
  have r := digit_range (Nat.isDigit_of_mem_toDigits (by decide) (by decide) hch)
  rw [← e]
  exact r
theorem figs_len (n : Int) : (figs n).length ≤ 2 := by
  have h0 : 0 ≤ (if n < 0 then -n else n).fmod 100 := Int.fmod_nonneg_of_pos _ (by decide)
  have h1 : (if n < 0 then -n else n).fmod 100 < 100 := Int.fmod_lt_of_pos _ (by decide)
  exact toString_length_le (k := 2) h0 (by decide) h1
theorem piece_len (j : Nat) : (pieceS j).length ≤ 1 := by
  match j with
  | 0 | 1 | 2 | 3 | 4 | 5 | 6 | 7 | 8 | 9 => decide
  | j + 10 => exact Nat.zero_le _
theorem pieces_len (l : List Nat) : ((l.map fun c => pieceS (c - 48)).map (·.length)).sum ≤ l.length := by
  induction l with
  | nil => exact Nat.le_refl _
  | cons c l ih =>
    simp only [List.map_cons, List.sum_cons, List.length_cons]
    have := piece_len (c - 48)
    omega
theorem fig_fact (t : Tok) (c : Nat) (h1 : 48 ≤ c) (h2 : c ≤ 57) : ∃ tj, PySem.intText? ⟨#[c]⟩ = some ((c - 48 : Nat) : Int) ∧ (pcs t)[c - 48]? = some (.str (pieceS (c - 48)) tj) := by
  obtain ⟨k, rfl⟩ : ∃ k, c = 48 + k := ⟨c - 48, (Nat.add_sub_cancel' h1).symm⟩
  have hk : k < 10 := by omega
  rw [Nat.add_sub_cancel_left]
  have a : ∀ k, k < 10 → PySem.intText? ⟨#[48 + k]⟩ = some (k : Int) := by decide +kernel
  obtain ⟨tj, b⟩ : ∃ tj, (pcs t)[k]? = some (.str (pieceS k) tj) := by
    match k, hk with
    | 0, _ => exact ⟨_, rfl⟩
    | 1, _ => exact ⟨_, rfl⟩
    | 2, _ => exact ⟨_, rfl⟩
    | 3, _ => exact ⟨_, rfl⟩
    | 4, _ => exact ⟨_, rfl⟩
    | 5, _ => exact ⟨_, rfl⟩
    | 6, _ => exact ⟨_, rfl⟩
    | 7, _ => exact ⟨_, rfl⟩
    | 8, _ => exact ⟨_, rfl⟩
    | 9, _ => exact ⟨_, rfl⟩
    | k + 10, h => exact absurd h (Nat.not_lt.mpr (Nat.le_add_left _ _))
  exact ⟨tj, a k hk, b⟩
theorem strsAre_snoc {vs : List Value} {ys : List Str} {y : Str} {t : Tok} (h : StrsAre vs ys) : StrsAre (vs ++ [.str y t]) (ys ++ [y]) := by
  induction h with
  | nil => exact .cons _ _ .nil
  | cons x u h ih => exact .cons x u ih
theorem half_facts : ∀ n : Nat, n < 13 → 2 ≤ n → Builtin.Range.rangeSize 0 ((n : Int) - 1) 2 = ((n / 2 : Nat) : Int) ∧ Builtin.Range.small 0 ((n : Int) - 1) 2 = true := by decide +kernel
theorem min_of {v a b : Int} (h : (v = a ∨ v = b) ∧ v ≤ a ∧ v ≤ b) : v = min a b := by
  rcases h with ⟨rfl | rfl, h1, h2⟩
  · exact (Int.min_eq_left h2).symm
  · exact (Int.min_eq_right h1).symm
theorem max_of {v a b : Int} (h : (v = a ∨ v = b) ∧ a ≤ v ∧ b ≤ v) : v = max a b := by
  rcases h with ⟨rfl | rfl, h1, h2⟩
  · exact (Int.max_eq_left h2).symm
  · exact (Int.max_eq_right h1).symm
inductive SpJ (na : Addr) (size : Int) (t : Tok) (sp : Addr) (bs : List (Addr × Obj)) (ns : List Int) (i : Nat) (m : Str → Option Value) (nx : List (Addr × Obj)) : Prop
  | mk (u : Str → Option Value) (vs' : List Value) (n' : Nat) (ex : List (Addr × Obj)) (hm : m = lk [(Str.ofString "numbers", .ref na), (Str.ofString "size", .int size t), (Str.ofString "spans", .ref sp)] u) (hn : nx = (sp, listOf vs'.toArray n') :: (ex ++ bs)) (hD : DatAll (ex ++ bs) vs' ((spansTo size ns i).map dsp)) (hs : ∀ p ∈ ex, p.1 ≠ sp)
set_option maxRecDepth 100000 in
set_option maxHeartbeats 8000000 in
theorem spans_c (w : World) (p : Program) (loose : List Str) (mean : ExcName → Option Value) (mg mb : Str → Option Value) (news : List (Addr × Obj)) (na : Addr) (vs : List Value) (nn : Nat) (ns : List Int) (size : Int) (t : Tok)
   (hm : (na, listOf vs.toArray nn) ∈ news) (hv : IntsAre vs ns) (hl : ns.length ≤ 12) (hl2 : 2 ≤ ns.length) (hs : 0 < size) (hs2 : size ≤ 20) :
    Sp0 w p loose mean mg mb 81 [.ref na, .int size t] 5 60 news (fun v news' => ∃ D vs' n' ex, v = .ref D ∧ news' = (D, listOf vs'.toArray n') :: (ex ++ news) ∧ DatAll (ex ++ news) vs' ((spansTo size ns (ns.length / 2)).map dsp) ∧ (∀ p ∈ ex ++ news, p.1 ≠ D)) := by
  unfold Sp0
  k_fill
  w_top off
  intro dp un gd cn cs a ccd cl outer A₀ base h₀ L m s Q E B F X N T hk hd hu hret
  refine wpAny_call ?_
  k_dflt (refine' code_defC ?k1 ?k2 ?k3 ?k4 ?k5 ?kA ?kF ?kK ?k6 ?k7 ?k8 ?k9 ?kB ?kD ?_ ?c2 ?c3 ?c4; (case kA => exact rfl); (case kF => exact rfl); (case kK => assumption); (case k1 => k_asm); (case k2 => k_asm); (case k3 => k_asm); (case k4 => k_asm); (case k5 => k_asm); (case k6 => k_is); (case k7 => k_is); (case k8 => ktr_room); (case k9 => first | exact BindsTo.of_eq rfl | exact binds_K (by k_in) rfl (by k_is) rfl rfl rfl); (case kB => exact rfl); (case kD => decide +kernel); (case c2 => exact rfl); (case c3 => exact rfl); (case c4 => exact rfl); k_whole)
  intro g' L' h' tk' cells' FG' F' N' Y' B' X' T' l1
  k_cells Y'
  (try simp only [List.cons_append, List.nil_append] at N')
  (try dsimp only)
  (try k_lift B')
  (try k_fold)
  have hvl : vs.length = ns.length := hv.length
  k_steps
  rename Fr _ _ _ _ => F1
  (try k_fold)
  refine For_invVF F1 (by rfl) (by rfl) ?_
  k_steps
  rename_i pl _ lpl _ oc hoc sp _ lsp _ F0 N0 hh tkn t1 u1 v1 hR F2 N2 hK
  clear F0 N0
  have hN2 : News g' L' hh ((sp, listOf ([] : List Value).toArray 0) :: ((pl, listOf (pcs tk').toArray 0) :: (L' + 1, oc) :: news)) := N2
  generalize hbase : ((pl, listOf (pcs tk').toArray 0) :: (L' + 1, oc) :: news) = bs at hN2
  have b1 : (pl, listOf (pcs tk').toArray 0) ∈ bs := hbase ▸ .head _
  have b2 : (L' + 1, oc) ∈ bs := hbase ▸ .tail _ (.head _)
  have b3 : ∀ p ∈ news, p ∈ bs := fun p hp => hbase ▸ .tail _ (.tail _ hp)
  have b4 : ∀ p ∈ bs, p.1 < sp := by
    intro p hp
    rw [← hbase] at hp
    exact allLt_mem (l := (pl, listOf (pcs tk').toArray 0) :: (L' + 1, oc) :: news) lsp p hp
  have hz := half_facts ns.length (by omega) hl2
  have hz2 : Builtin.Range.rangeSize 0 ((vs.length : Int) - 1) 2 = ((ns.length / 2 : Nat) : Int) := by rw [hvl]; exact hz.1
  have hz1 : Builtin.Range.small 0 ((vs.length : Int) - 1) 2 = true := by rw [hvl]; exact hz.2
  clear hz
  refine range_loop (SpJ na size t sp bs ns) (by rfl) hR hz1 hz2 F2 hN2 (fun p h => h) ?init ?turn ?done
  case init =>
    refine ⟨_, [], 0, [], (lk_as ?_).symm, rfl, .nil, by simp⟩
    exact ⟨rfl, rfl, rfl, trivial⟩
  case done =>
    intro m1 nx h tk hR1 F3 N3
    refine hideG fun G hG => ?_
    obtain ⟨u, vs', n', ex, rfl, rfl, hD, hsep⟩ := hR1
    refine hG ?_
    clear hG
    dsimp only [lk] at F3
    clear hR hK F2 N2
    k_steps
    have e : ex ++ bs = (ex ++ [(pl, listOf (pcs tk').toArray 0), (L' + 1, oc)]) ++ news := by rw [← hbase, List.append_assoc]; rfl
    refine hret _ _ _ _ ⟨sp, vs', n', _, rfl, congrArg _ e, e ▸ hD, ?_⟩ (by assumption) (by assumption)
    intro p hp
    rw [← e] at hp
    replace hp := List.mem_append.mp hp; rcases hp with hp | hp
    · exact hsep p hp
    · exact Nat.ne_of_lt (b4 p hp)
  clear hR hK F2 N2
  intro i tk1 m1 nx h tk own hi hoff _ hR1 F3 N3
  refine hideG fun G hG => ?_
  obtain ⟨u, vs', n', ex, rfl, rfl, hD, hsep⟩ := hR1
  dsimp only [lk] at F3
  dsimp only [List.cons_append] at N3
  generalize hrest : ex ++ bs ++ own = rest at N3
  have c1 : (pl, listOf (pcs tk').toArray 0) ∈ rest := hrest ▸ List.mem_append_left _ (List.mem_append_right _ b1)
  have c2 : (L' + 1, oc) ∈ rest := hrest ▸ List.mem_append_left _ (List.mem_append_right _ b2)
  have c3 : (na, listOf vs.toArray nn) ∈ rest := hrest ▸ List.mem_append_left _ (List.mem_append_right _ (b3 _ hm))
  have c4 : ∀ p ∈ rest, p.1 ≠ sp := by
    intro p hp
    rw [← hrest] at hp
    replace hp := List.mem_append.mp hp; rcases hp with hp | hp
    · replace hp := List.mem_append.mp hp; rcases hp with hp | hp
      · exact hsep p hp
      · exact Nat.ne_of_lt (b4 p hp)
    · exact hoff p hp sp (.head _)
  have hg1 : vs[2 * i]? = some vs[2 * i] := List.getElem?_eq_getElem (by omega)
  have hg2 : vs[2 * i + 1]? = some vs[2 * i + 1] := List.getElem?_eq_getElem (by omega)
  obtain ⟨ta, ea⟩ := hv.int_at _ _ hg1
  obtain ⟨tb, eb⟩ := hv.int_at _ _ hg2
  rw [ea] at hg1
  rw [eb] at hg2
  clear ea eb
  generalize hav : ns.getD (2 * i) 0 = av at hg1
  generalize hbv : ns.getD (2 * i + 1) 0 = bv at hg2
  have hi1 : (0 : Int) + ↑i * 2 = ((2 * i : Nat) : Int) := by omega
  have hi2 : (0 : Int) + ↑i * 2 + 1 = ((2 * i + 1 : Nat) : Int) := by omega
  refine hG ?_
  clear hG
  (try dsimp only)
  k_steps
  walk1
  k_steps
  (try k_fold)
  refine ListComp_S (by assumption) (by with_unfolding_all rfl) (by decide) (by rfl) (by decide) (by rfl) ?_
  k_steps
  rename News _ _ _ _ => N5
  refine ⟨_, _, _, rfl, rfl, by assumption, N5, ?size, ?_⟩
  case size => exact Nat.le_trans (figs_len av) (by decide)
  intro s₂ hR1
  refine hideG fun G hG => ?_
  obtain ⟨g2, rfl⟩ := hR1
  refine hG ?_
  clear hG
  (try dsimp only)
  refine comp_ind (n := (figs av).length) (fun j ys nx => nx = _ ∧ StrsAre ys (((figs av).take j).map fun c => pieceS (c - 48))) ?ct ?cf _ 0 [] _ (by rw [Nat.zero_add]; exact (Array.length_toList).symm) ⟨rfl, .nil⟩
  case ct =>
    intro j ys nx v I oI Cc oC D m₂ h6 tk6 E' hj hR1 hR2 hC hx F6 N6 off ne
    refine hideG fun G hG => ?_
    obtain ⟨rfl, hys⟩ := hR1
    obtain ⟨c, uc, hc, rfl⟩ := hR2
    have hcj : (figs av)[j]? = some c := by
      show (Str.cps _).toList[j]? = some c
      rw [Array.getElem?_toList]; exact hc
    have hcm : c ∈ figs av := List.mem_of_getElem? hcj
    obtain ⟨r1, r2⟩ := figs_lt av c hcm
    obtain ⟨tj, q1, q2⟩ := fig_fact tk' c r1 r2
    have q3 : (⟨#[c]⟩ : Str).length ≤ 640 := by show 1 ≤ 640; decide
    refine hG ?_
    clear hG
    k_steps
    refine LCg.CompEnd.intro F6 N6 _ (fun p hp => hp) off trivial ⟨rfl, ?_⟩
    rw [List.take_add_one, hcj, Option.toList_some, List.map_append]
    exact strsAre_snoc hys
  case cf =>
    intro ys nx hR1
    refine hideG fun G hG => ?_
    obtain ⟨rfl, hys⟩ := hR1
    refine hG ?_
    clear hG
    intro D h6 tk6 F6 N6 off
    simp only [LCg.Off1] at off
    refine hideG fun G hG => ?_
    obtain ⟨of1, of2, of3, of4⟩ := off
    rw [List.take_length] at hys
    refine hG ?_
    clear hG
    k_steps
    refine join_list (ys := (figs av).map fun c => pieceS (c - 48)) (⟨_, (N6 _ (.head _)).1, rfl, _, rfl⟩ : h6.IsList D ys.toArray) (by simpa using hys) ?hok ?_
    case hok =>
      have := pieces_len (figs av)
      have := figs_len av
      simp only [List.length_map]
      show _ + _ * 0 ≤ _
      omega
    rw [show Txt.join (Str.ofString "") ((figs av).map fun c => pieceS (c - 48)) = labS av from rfl]
    intro t7 k7
    k_steps
    have hlv : vs'.length ≤ 100 := by
      rw [hD.length, List.length_map]
      show (List.map _ (List.range i)).length ≤ 100
      rw [List.length_map, List.length_range]; omega
    rename_i g0t g1t T _ _ _ lT
    refine append_K (by assumption) (by assumption) (by k_upd) ?_ (by rw [List.size_toArray, sizeLine_eq]; omega)
    intro h8 F8 N8
    k_steps
    rename Fr _ _ _ _ => F9
    rename News _ _ _ _ => N9
    refine hideG fun G hG => ?_
    obtain ⟨lT1, lT2, lT3, lT4, lT5⟩ := lT
    have lT6 := allLt_mem lT5
    have hdat : ∀ (nx : List (Addr × Obj)) (v : Value) (g0 g1 : Int), g0 = min (av.fmod (size + 1)) (bv.fmod (size + 1)) → g1 = max (av.fmod (size + 1)) (bv.fmod (size + 1)) → DatIn nx v (.tuple [.int g0, .int g1, .str (labS av)]) → DatIn nx v (dsp (spanOf size av bv)) := by
      rintro nx v g0 g1 rfl rfl h; exact h
    refine hG ?_
    clear hG
    refine InvEndG.intro F9 N9 (nx := (sp, listOf (vs' ++ [Value.ref T]).toArray (n' + 1)) :: (((T, { cls := Value.type "tuple", data := Data.seq #[Value.int ?g0 g0t, Value.int ?g1 g1t, Value.str (labS av) t7] }) :: ex) ++ bs)) ⟨_, _, _, (T, { cls := Value.type "tuple", data := Data.seq #[Value.int ?g0 g0t, Value.int ?g1 g1t, Value.str (labS av) t7] }) :: ex, (lk_as ?ha).symm, rfl, ?hb, ?hc⟩ ?hd ?he ?hf
    case he =>
      intro p hp
      revert p hp; refine fc ?_ (fun p hp => ?_)
      · have e : (vs'.toArray.push (Value.ref T)) = (vs' ++ [Value.ref T]).toArray := by simp
        rw [← e]
        exact .tail _ (.tail _ (.tail _ (.tail _ (.head _))))
      · revert p hp; refine fc ?_ (fun p hp => ?_)
        · exact .head _
        · exact .tail _ (.tail _ (.tail _ (.tail _ (.tail _ (hrest ▸ List.mem_append_left _ hp)))))
    case ha =>
      exact ⟨rfl, rfl, rfl, trivial⟩
    case hb =>
      rw [show spansTo size ns (i + 1) = spansTo size ns i ++ [spanOf size av bv] from by unfold spansTo; rw [List.range_succ, List.map_append, List.map_cons, List.map_nil, hav, hbv], List.map_append]
      refine DatAll.append (hD.mono fun p hp => .tail _ hp) (.one (hdat _ _ _ _ ?_ ?_ (DatIn.tuple (vs := [_, _, _]) (.head _) (.cons (.int _ _) (.cons (.int _ _) (.cons (.str _ _) .nil))))))
      · exact min_of ‹_›
      · exact max_of ‹_›
    case hc =>
      intro p hp
      revert p hp; refine fc ?_ (fun p hp => ?_)
      · exact Nat.ne_of_gt lT4
      · exact hsep p hp
    case hd =>
      intro p hp b hb
      simp only [List.map_cons, List.cons_append, List.mem_cons] at hb
      rcases hb with rfl | rfl | hb
      · exact hoff p hp _ (.head _)
      · exact Nat.ne_of_lt (lT6 p (hrest ▸ List.mem_append_right _ hp))
      · exact hoff p hp _ (.tail _ hb)
    case hf =>
      intro p hp
      exact .tail _ (.tail _ (.tail _ (.tail _ (.tail _ (hrest ▸ List.mem_append_right _ hp)))))
def heapTo (S : List (Int × Int × Str)) (n : Nat) : List T3 := (List.range n).foldl (fun H i => pushL ((S.getD i (0, 0, Str.empty)).1, 0, (i : Int)) (pushL ((S.getD i (0, 0, Str.empty)).2.1, 1, (i : Int)) H)) []
theorem news_swap {h₀ h : Heap} {L : Addr} {a b : Addr × Obj} {r : List (Addr × Obj)} (N : News h₀ L h (a :: b :: r)) : News h₀ L h (b :: a :: r) := fun p hp => N p (by
  rcases List.mem_cons.mp hp with rfl | hp
  · exact .tail _ (.head _)
  · rcases List.mem_cons.mp hp with rfl | hp
    · exact .head _
    · exact .tail _ (.tail _ hp))
theorem TA.drop {nx nx' : List (Addr × Obj)} {vs : List Value} {H : List T3} (h : TA nx vs H) (hs : ∀ p ∈ nx, p ∈ nx' ∨ p.2.cls ≠ .type "tuple" ∨ ∃ c, p.2.data = .cell c) : TA nx' vs H := by
  unfold TA at h ⊢
  induction H generalizing vs with
  | nil => cases h; exact .nil
  | cons a H ih =>
    cases h with
    | cons h1 h2 =>
      refine .cons ?_ (ih h2)
      obtain ⟨ad, t1, t2, t3, n, rfl, hm⟩ := dat3 h1
      rcases hs _ hm with hm | hm | ⟨c, hm⟩
      · exact DatIn.tuple (vs := [_, _, _]) hm (.cons (.int _ _) (.cons (.int _ _) (.cons (.int _ _) .nil)))
      · exact absurd rfl hm
      · cases hm
theorem dat3_in {nx : List (Addr × Obj)} {ad : Addr} {a b c : Int} {t1 t2 t3 : Tok} {n : Nat} (h : (ad, ({ cls := .type "tuple", data := .seq #[.int a t1, .int b t2, .int c t3] n } : Obj)) ∈ nx) : DatIn nx (.ref ad) (d3 (a, b, c)) :=
  DatIn.tuple (vs := [_, _, _]) h (.cons (.int _ _) (.cons (.int _ _) (.cons (.int _ _) .nil)))
theorem sdown_len (x : T3) (pos : Nat) (xs : List T3) : (sdown x pos xs).length = xs.length := by
  induction pos using Nat.strongRecOn generalizing xs with
  | ind pos ih =>
    rw [sdown]
    split
    · split
      · rw [ih _ (by lia), List.length_set]
      · rw [List.length_set]
    · rw [List.length_set]
theorem pushL_len (x : T3) (H : List T3) : (pushL x H).length = H.length + 1 := by
  unfold pushL
  rw [sdown_len, List.length_append]; rfl
theorem heapTo_succ (S : List (Int × Int × Str)) (i : Nat) : heapTo S (i + 1) = pushL ((S.getD i (0, 0, Str.empty)).1, 0, (i : Int)) (pushL ((S.getD i (0, 0, Str.empty)).2.1, 1, (i : Int)) (heapTo S i)) := by
  unfold heapTo
  rw [List.range_succ, List.foldl_append]; rfl
theorem off1_mem {D : Addr} {l : List (Addr × Obj)} (h : LCg.Off1 D l) : ∀ p ∈ l, p.1 ≠ D := by
  induction l with
  | nil => intro p hp; cases hp
  | cons q r ih =>
    intro p hp
    cases hp with
    | head => exact h.1
    | tail _ hp => exact ih h.2 p hp
def topL (H : List T3) (y : T3) : T3 := if H = [] then y else H.getD 0 (0, 0, 0)
def popL (H : List T3) (y : T3) : List T3 := if H = [] then [] else siftupL (H.set 0 y)
theorem sup_len : ∀ (f pos : Nat) (xs : List T3), (sup f pos xs).2.length = xs.length
  | 0, _, _ => rfl
  | f + 1, pos, xs => by
    rw [sup]
    split
    · split
      · rw [sup_len f, List.length_set]
      · rw [sup_len f, List.length_set]
    · rfl
theorem siftupL_len (H : List T3) : (siftupL H).length = H.length := by
  unfold siftupL
  rw [sdown_len, List.length_set, sup_len]
theorem popL_len {H : List T3} {y : T3} {f : Nat} (h : H.length = f) : (popL H y).length = f := by
  unfold popL
  split
  · rename_i e; subst e; exact h
  · rw [siftupL_len, List.length_set]; exact h
def tagOf (tags : List Str) (q : Int) : Str := tags.getD q.toNat Str.empty
def Runs (x : Str) (tags : List Str) : Nat → List T3 → Str → Int → List Int → Str → Prop
  | 0, H, page, last, _, out => H = [] ∧ page.length ≤ 1000000 ∧ out = page ++ escS (Txt.slice x (some last) none)
  | f + 1, H, page, last, path, out => ∃ H₀ y, H = H₀ ++ [y] ∧ H₀.length ≤ 20 ∧ 0 ≤ last ∧ last ≤ (topL H₀ y).1 ∧ (topL H₀ y).1 ≤ x.length ∧ page.length ≤ 1000000 ∧ 0 ≤ (topL H₀ y).2.2 ∧ (topL H₀ y).2.2 < tags.length ∧ path.length ≤ 10 ∧ (∀ q ∈ path, 0 ≤ q ∧ q < (tags.length : Int)) ∧
     (((topL H₀ y).2.1 = 0 ∧ Runs x tags f (popL H₀ y) (page ++ escS (Txt.slice x (some last) (some (topL H₀ y).1)) ++ tagOf tags (topL H₀ y).2.2) (topL H₀ y).1 (path ++ [(topL H₀ y).2.2]) out) ∨
      ((topL H₀ y).2.1 = 1 ∧ ∃ pa pb, path = pa ++ (topL H₀ y).2.2 :: pb ∧ (topL H₀ y).2.2 ∉ pa ∧
        Runs x tags f (popL H₀ y) (page ++ escS (Txt.slice x (some last) (some (topL H₀ y).1)) ++ Txt.mul (Str.ofString "</s>") (((pb.length + 1 : Nat) : Int)) ++ Txt.join (Str.ofString "") (pb.map (tagOf tags))) (topL H₀ y).1 (pa ++ pb) out))
theorem strsAre_get {vs : List Value} {ys : List Str} (h : StrsAre vs ys) : ∀ j, j < ys.length → ∃ t, vs[j]? = some (.str (ys.getD j Str.empty) t) := by
  induction h with
  | nil => intro j hj; exact absurd hj (Nat.not_lt_zero _)
  | cons y t h ih =>
    intro j hj
    cases j with
    | zero => exact ⟨t, rfl⟩
    | succ j => exact ih j (Nat.lt_of_succ_lt_succ hj)
def tagS (k : Nat) (l : Str) : Str := Str.ofString "<s n=" ++ quoS (Str.ofString (toString (k : Int))) ++ Str.ofString " l=" ++ quoS l ++ Str.ofString ">"
def tagsTo (S : List (Int × Int × Str)) (n : Nat) : List Str := (List.range n).map fun i => tagS i (S.getD i (0, 0, Str.empty)).2.2
theorem ints_kf {vs : List Value} {ns : List Int} (h : IntsAre vs ns) : kf_ints vs = true := by
  induction h with
  | nil => rfl
  | cons n t h ih => exact ih
theorem ints_at {k : Int} : ∀ {pa : List Int} {vs : List Value} {pb : List Int}, IntsAre vs (pa ++ k :: pb) → k ∉ pa → kf_at k vs = some pa.length := by
  intro pa
  induction pa with
  | nil =>
    intro vs pb h _
    cases h with
    | cons n t h =>
      show cond (isInt k (.int k t)) _ _ = _
      rw [show isInt k (.int k t) = true from by simp [isInt]]
      rfl
  | cons a pa ih =>
    intro vs pb h hn
    cases h with
    | cons n t h =>
      show cond (isInt k (.int a t)) _ _ = _
      rw [show isInt k (.int a t) = false from by simp [isInt]; intro e; exact hn (e ▸ .head _), ih h (fun hm => hn (.tail _ hm))]
      rfl
theorem tagsTo_len (S : List (Int × Int × Str)) (n : Nat) : (tagsTo S n).length = n := by unfold tagsTo; rw [List.length_map, List.length_range]
theorem escS_len {x : Str} (hx : x.length ≤ 20) : (escS x).length ≤ 4715 := by
  have h1 := len_rep (x := x) (y := Str.ofString "&") (z := Str.ofString "&amp;") (B := 20) hx (by decide)
  have h2 := len_rep (x := Txt.replace x (Str.ofString "&") (Str.ofString "&amp;")) (y := Str.ofString ">") (z := Str.ofString "&gt;") (B := 125) h1 (by decide)
  exact len_rep (B := 785) (Nat.le_trans h2 (by decide)) (by decide)
theorem datSp {nx : List (Addr × Obj)} {v : Value} {a : Int × Int × Str} (h : DatIn nx v (dsp a)) : ∃ ad t1 t2 t3 n, v = .ref ad ∧ (ad, ({ cls := .type "tuple", data := .seq #[.int a.1 t1, .int a.2.1 t2, .str a.2.2 t3] n } : Obj)) ∈ nx := by
  obtain ⟨ad, vs, n, e, hm, hr⟩ := tup_inv h
  obtain ⟨v1, w1, rfl, h1, hr⟩ := cons_inv hr
  obtain ⟨v2, w2, rfl, h2, hr⟩ := cons_inv hr
  obtain ⟨v3, w3, rfl, h3, hr⟩ := cons_inv hr
  obtain rfl := nil_inv hr
  obtain ⟨t1, rfl⟩ := int_inv h1
  obtain ⟨t2, rfl⟩ := int_inv h2
  obtain ⟨t3, rfl⟩ := str_inv h3
  exact ⟨ad, t1, t2, t3, n, e, hm⟩
def QOk (l : Str) : Prop := l.length ≤ 10 ∧ (escS l).length ≤ 250 ∧ (qMid l).length ≤ 1000
theorem quoS_len {l : Str} (h : QOk l) : (quoS l).length ≤ 20000 := by
  obtain ⟨_, _, h3⟩ := h
  have h4 := len_repA (x := qMid l) (y := Str.ofString "\"") (z := Str.ofString "&quot;") (by decide)
  have e1 : (Str.ofString "\"").length = 1 := by decide
  have e2 : (Str.ofString "'").length = 1 := by decide
  unfold quoS
  split
  · rw [Str.length_append, Str.length_append]; lia
  · split
    · rw [Str.length_append, Str.length_append]; lia
    · rw [Str.length_append, Str.length_append]; lia
theorem num_ok (k : Nat) (h : k < 6) : QOk (Str.ofString (toString (k : Int))) := by
  match k with
  | 0 | 1 | 2 | 3 | 4 | 5 => unfold QOk; decide +kernel
  | k + 6 => lia
theorem tags_len {S : List (Int × Int × Str)} {n : Nat} (hn : n ≤ 6) (hq0 : ∀ i, i < n → QOk (S.getD i (0, 0, Str.empty)).2.2) (i : Nat) : ((tagsTo S n).getD i Str.empty).length ≤ 50000 := by
  by_cases hi : i < n
  · have e : (tagsTo S n).getD i Str.empty = tagS i (S.getD i (0, 0, Str.empty)).2.2 := by
      unfold tagsTo
      rw [List.getD_eq_getElem?_getD, List.getElem?_map, List.getElem?_range hi]; rfl
    rw [e]
    have h1 := quoS_len (num_ok i (by lia))
    have h2 := quoS_len (hq0 i hi)
    have e1 : (Str.ofString "<s n=").length = 5 := by decide
    have e2 : (Str.ofString " l=").length = 3 := by decide
    have e3 : (Str.ofString ">").length = 1 := by decide
    unfold tagS
    rw [Str.length_append, Str.length_append, Str.length_append, Str.length_append]
    lia
  · rw [List.getD_eq_getElem?_getD, List.getElem?_eq_none (by rw [tagsTo_len]; lia)]
    exact Nat.zero_le _
theorem sum_le {l : List Nat} {b : Nat} (h : ∀ x ∈ l, x ≤ b) : l.sum ≤ l.length * b := by
  induction l with
  | nil => exact Nat.zero_le _
  | cons a l ih =>
    rw [List.sum_cons, List.length_cons, Nat.succ_mul]
    have := h a (.head _)
    have := ih fun x hx => h x (.tail _ hx)
    lia

inductive PgJ (x : Str) (t : Tok) (hp : Addr) (bs : List (Addr × Obj)) (S : List (Int × Int × Str)) (i : Nat) (m : Str → Option Value) (nx : List (Addr × Obj)) : Prop
  | mk (u : Str → Option Value) (vs' : List Value) (n' : Nat) (ex : List (Addr × Obj)) (hm : m = lk [(Str.ofString "text", .str x t), (Str.ofString "heap", .ref hp)] u) (hn : nx = (hp, listOf vs'.toArray n') :: (ex ++ bs)) (hT : TA (ex ++ bs) vs' (heapTo S i)) (hH : (heapTo S i).length = 2 * i) (hs : ∀ p ∈ ex, hp < p.1)
inductive PgI (s : Shared) (g' : Heap) (L' hp : Addr) (x : Str) (t : Tok) (r2 : List (Addr × Obj)) (S : List (Int × Int × Str)) (out : Str) (k : Nat) (s' : Shared) : Prop
  | mk (h : Heap) (tk : Nat) (u : Str → Option Value) (vs' : List Value) (n' : Nat) (H : List T3) (pa : Addr) (pv : List Value) (pn : Nat) (path : List Int) (page : Str) (tp : Tok) (last : Int) (tl : Tok) (e : s' = { s with heap := h, toks := tk + 1 })
      (F : Fr g' L' h (lk [(Str.ofString "text", .str x t), (Str.ofString "heap", .ref hp), (Str.ofString "page", .str page tp), (Str.ofString "last", .int last tl), (Str.ofString "path", .ref pa)] u)) (N : News g' L' h ((hp, listOf vs'.toArray n') :: (pa, listOf pv.toArray pn) :: r2))
      (hT : TA r2 vs' H) (hI : IntsAre pv path) (hne : @Ne Nat hp pa) (hr : ∀ p ∈ r2, p.1 ≠ pa) (hl : H.length = k) (hk : k ≤ 12) (hR : Runs x (tagsTo S S.length) k H page last path out)
set_option maxRecDepth 100000 in
set_option maxHeartbeats 8000000 in
theorem page_c (w : World) (p : Program) (loose : List Str) (mean : ExcName → Option Value) (mg mb : Str → Option Value) (news : List (Addr × Obj)) (x : Str) (t : Tok) (sa : Addr) (sv : List Value) (sn : Nat) (S : List (Int × Int × Str))
   (hm : (sa, listOf sv.toArray sn) ∈ news) (hv : DatAll news sv (S.map dsp)) (hl : S.length ≤ 6) (hx : x.length ≤ 20) (out : Str) (hrun : Runs x (tagsTo S S.length) (2 * S.length) (heapTo S S.length) (Str.ofString "") 0 [] out) (hq0 : ∀ i, i < S.length → QOk (S.getD i (0, 0, Str.empty)).2.2) :
    Sp0 w p loose mean mg mb 86 [.str x t, .ref sa] 9 120 news (fun v news' => news' = news ∧ ∃ t', v = .str out t') := by
  unfold Sp0
  k_fill
  w_top off
  intro dp un gd cn cs a ccd cl outer A₀ base h₀ L m s Q E B F X N T hk hd hu hret
  refine wpAny_call ?_
  k_dflt (refine' code_defC ?k1 ?k2 ?k3 ?k4 ?k5 ?kA ?kF ?kK ?k6 ?k7 ?k8 ?k9 ?kB ?kD ?_ ?c2 ?c3 ?c4; (case kA => exact rfl); (case kF => exact rfl); (case kK => assumption); (case k1 => k_asm); (case k2 => k_asm); (case k3 => k_asm); (case k4 => k_asm); (case k5 => k_asm); (case k6 => k_is); (case k7 => k_is); (case k8 => ktr_room); (case k9 => first | exact BindsTo.of_eq rfl | exact binds_K (by k_in) rfl (by k_is) rfl rfl rfl); (case kB => exact rfl); (case kD => decide +kernel); (case c2 => exact rfl); (case c3 => exact rfl); (case c4 => exact rfl); k_whole)
  intro g' L' h' tk' cells' FG' F' N' Y' B' X' T' l1
  k_cells Y'
  (try simp only [List.cons_append, List.nil_append] at N')
  (try dsimp only)
  (try k_lift B')
  (try k_fold)
  rename_i ot os dt ds
  replace ds : os.data = .cell (some (.ref sa)) := ds
  replace dt : ot.data = .cell none := dt
  have hvl : sv.length = S.length := by rw [hv.length, List.length_map]
  have hl' : S.length ≤ 100 := by lia
  have hlH : KIN.Hid (S.length ≤ 6) := ⟨hl⟩
  clear hl
  k_steps
  rename Fr _ _ _ _ => F1
  (try k_fold)
  refine For_invVF F1 (by rfl) (by rfl) ?_
  k_steps
  rename_i hp _ lhp _ F0 N0 hh tkn t1 u1 v1 hR F2 N2 hK
  clear F0
  have hN2 : News g' L' hh ((hp, listOf ([] : List Value).toArray 0) :: ((L' + 1 + 1, ot) :: (L' + 1, os) :: news)) := N2
  generalize hbase : ((L' + 1 + 1, ot) :: (L' + 1, os) :: news) = bs at hN2
  have b1 : (L' + 1 + 1, ot) ∈ bs := hbase ▸ .head _
  have b2 : (L' + 1, os) ∈ bs := hbase ▸ .tail _ (.head _)
  have b3 : ∀ p ∈ news, p ∈ bs := fun p hp => hbase ▸ .tail _ (.tail _ hp)
  have b4 : ∀ p ∈ bs, p.1 < hp := by
    intro p hp'
    rw [← hbase] at hp'
    exact allLt_mem (l := (L' + 1 + 1, ot) :: (L' + 1, os) :: news) lhp p hp'
  have hz1 := small0 sv.length (by lia)
  have hz2 := (rsize0 sv.length).trans (congrArg (fun n : Nat => (n : Int)) hvl)
  refine range_loop (PgJ x t hp bs S) (by rfl) hR hz1 hz2 F2 hN2 (fun p h => h) ?init ?turn ?done
  case init =>
    refine ⟨_, [], 0, [], (lk_as ?_).symm, rfl, .nil, rfl, by simp⟩
    exact ⟨rfl, rfl, trivial⟩
  case done =>
    clear hR hK F2 N2
    intro m1 nx h tk hR1 F3 N3
    refine hideG fun G hG => ?_
    obtain ⟨u, vs', n', ex, rfl, rfl, hT, hH, hsep⟩ := hR1
    dsimp only [lk] at F3
    have hrest : ∃ rest, rest = ex ++ (L' + 1, os) :: news := ⟨_, rfl⟩
    obtain ⟨rest, hrest⟩ := hrest
    have N4 : News g' L' h ((hp, listOf vs'.toArray n') :: (L' + 1 + 1, ot) :: rest) := by
      intro p hp
      refine N3 p ?_
      rw [← hbase]
      revert p hp; refine fc ?_ (fun p hp => ?_)
      · exact .head _
      · revert p hp; refine fc ?_ (fun p hp => ?_)
        · exact .tail _ (List.mem_append_right _ (.head _))
        · rw [hrest] at hp
          replace hp := List.mem_append.mp hp; rcases hp with hp | hp
          · exact .tail _ (List.mem_append_left _ hp)
          · exact .tail _ (List.mem_append_right _ (.tail _ hp))
    have lhp1 := lhp.1
    have e4 : ∀ p ∈ rest, p.1 ≠ hp := by
      intro p hp
      rw [hrest] at hp
      replace hp := List.mem_append.mp hp; rcases hp with hp | hp
      · exact Nat.ne_of_gt (hsep p hp)
      · revert p hp; refine fc ?_ (fun p hp => ?_)
        · exact Nat.ne_of_lt (Nat.lt_trans (Nat.lt_succ_self _) lhp1)
        · exact Nat.ne_of_lt (Nat.lt_trans (l1 p hp) (Nat.lt_trans (Nat.lt_trans (Nat.lt_succ_self _) (Nat.lt_succ_self _)) lhp1))
    have e5 : ∀ p ∈ rest, p.1 ≠ L' + 1 + 1 := by
      intro p hp
      rw [hrest] at hp
      replace hp := List.mem_append.mp hp; rcases hp with hp | hp
      · exact Nat.ne_of_gt (Nat.lt_trans lhp1 (hsep p hp))
      · revert p hp; refine fc ?_ (fun p hp => ?_)
        · exact Nat.ne_of_lt (Nat.lt_succ_self _)
        · exact Nat.ne_of_lt (Nat.lt_trans (l1 p hp) (Nat.lt_trans (Nat.lt_succ_self _) (Nat.lt_succ_self _)))
    have hT : TA ((L' + 1 + 1, ot) :: rest) vs' (heapTo S S.length) := DatAll.mono (fun p hp => by
      rw [← hbase] at hp
      replace hp := List.mem_append.mp hp; rcases hp with hp | hp
      · exact .tail _ (hrest ▸ List.mem_append_left _ hp)
      · revert p hp; refine fc ?_ (fun p hp => ?_)
        · exact .head _
        · exact .tail _ (hrest ▸ List.mem_append_right _ hp)) hT
    have c2 : (L' + 1, os) ∈ rest := hrest ▸ List.mem_append_right _ (.head _)
    have c0 : ∀ p ∈ news, p ∈ rest := fun p hp => hrest ▸ List.mem_append_right _ (.tail _ hp)
    have c3 : (sa, listOf sv.toArray sn) ∈ rest := c0 _ hm
    clear N3 b1 b2 b3 b4 hbase hsep hrest lhp N0
    refine hG ?_
    clear hG
    k_steps
    walk1
    k_steps
    (try k_fold)
    refine LCg.ListComp_U (F₀ := by assumption) (by with_unfolding_all rfl) (by decide) (by rfl) (by decide) (by rfl) ?_
    k_steps
    rename News _ _ _ _ => N5
    refine src_range sv.length (by rfl) (by assumption) N5 (by assumption) (by lia) ?_
    rw [hvl]
    intro g2
    (try dsimp only)
    refine comp_ind (n := S.length) (fun j ys nx => nx = _ ∧ StrsAre ys (tagsTo S j)) ?ct ?cf _ 0 [] _ (by rw [Nat.zero_add]) ⟨rfl, .nil⟩
    case ct =>
      intro j ys nx v I oI Cc oC D m₂ h6 tk6 E' hj hR1 hR2 hC hx6 F6 N6 off ne
      refine hideG fun G hG => ?_
      obtain ⟨rfl, hys⟩ := hR1
      obtain ⟨uc, rfl⟩ := hR2
      have qn := num_ok j (by have := hlH.out; lia)
      have ql := hq0 j hj
      have qnl := quoS_len qn
      have qll := quoS_len ql
      obtain ⟨va, hva, hda⟩ := hv.get (k := j) (by rw [List.length_map]; lia)
      obtain ⟨ad, q1, q2, q3, qn', rfl, hqm⟩ := datSp (a := S.getD j (0, 0, Str.empty)) (by rw [List.getElem_map] at hda; rw [List.getD_eq_getElem?_getD, List.getElem?_eq_getElem hj]; exact hda)
      have hqm := c0 _ hqm
      generalize hlab : (S.getD j (0, 0, Str.empty)).2.2 = lab at ql qll hqm
      refine hG ?_
      clear hG
      k_steps
      rename Fr _ _ _ _ => F6
      rename News _ _ _ _ => N6
      refine (quoteattr_c w _ _ _ _ _ _ _ _ qn.1 qn.2.1 qn.2.2).useS B' F6 X' N6 T' rfl (by show dp + 8 < recursionLimit; exact room hd (by decide)) (by show un + 93 < cLine; exact room hu (by decide)) ?_
      intro t7 h7 tk7 F7 N7
      clear F6 N6
      k_steps
      rename Fr _ _ _ _ => F7
      rename News _ _ _ _ => N7
      refine (quoteattr_c w _ _ _ _ _ _ _ _ ql.1 ql.2.1 ql.2.2).useS B' F7 X' N7 T' rfl (by show dp + 8 < recursionLimit; exact room hd (by decide)) (by show un + 93 < cLine; exact room hu (by decide)) ?_
      intro t8 h8 tk8 F8 N8
      clear F7 N7
      k_steps
      rename Fr _ _ _ _ => F9
      rename News _ _ _ _ => N9
      refine LCg.CompEnd.intro F9 N9 _ (fun p hp => hp) off trivial ⟨rfl, ?_⟩
      rw [show tagsTo S (j + 1) = tagsTo S j ++ [tagS j lab] from by unfold tagsTo; rw [List.range_succ, List.map_append, List.map_cons, List.map_nil, hlab]]
      exact strsAre_snoc hys
    case cf =>
      intro ys nx hR1
      refine hideG fun G hG => ?_
      obtain ⟨rfl, hys⟩ := hR1
      refine hG ?_
      clear hG
      intro tg h6 tk6 F6 N6 off
      simp only [LCg.Off1] at off
      refine hideG fun G hG => ?_
      obtain ⟨of1, of2, of3⟩ := off
      have of3' := off1_mem of3
      refine hG ?_
      clear hG
      k_steps
      rename_i _ ot5 hot5 _ _ pa _ lpa h7 F7 N7
      refine hideG fun G hG => ?_
      obtain ⟨lpa1, lpa2, lpa3, lpa4⟩ := lpa
      have lpa5 := allLt_mem lpa4
      obtain ⟨r2, hr2⟩ : ∃ r2, r2 = (tg, listOf ys.toArray ys.length) :: (L' + 1 + 1, ot5) :: rest := ⟨_, rfl⟩
      have g1 : (tg, listOf ys.toArray ys.length) ∈ r2 := hr2 ▸ .head _
      have g2' : (L' + 1 + 1, ot5) ∈ r2 := hr2 ▸ .tail _ (.head _)
      have g3 : ∀ p ∈ rest, p ∈ r2 := fun p hp => hr2 ▸ .tail _ (.tail _ hp)
      have N8 : News g' L' h7 ((hp, listOf vs'.toArray n') :: (pa, listOf ([] : List Value).toArray 0) :: r2) := by
        intro p hp
        refine N7 p ?_
        rw [hr2] at hp
        revert p hp; refine fc ?_ (fun p hp => ?_)
        · exact .tail _ (.tail _ (.head _))
        · revert p hp; refine fc ?_ (fun p hp => ?_)
          · exact .head _
          · revert p hp; refine fc ?_ (fun p hp => ?_)
            · exact .tail _ (.head _)
            · exact .tail _ (.tail _ (.tail _ hp))
      have g4 : ∀ p ∈ r2, p.1 ≠ hp := by
        intro p hp
        rw [hr2] at hp
        revert p hp; refine fc ?_ (fun p hp => ?_)
        · exact Ne.symm of1
        · revert p hp; refine fc ?_ (fun p hp => ?_)
          · exact Nat.ne_of_lt lhp1
          · exact e4 p hp
      have g5 : ∀ p ∈ r2, p.1 ≠ pa := by
        intro p hp
        rw [hr2] at hp
        revert p hp; refine fc ?_ (fun p hp => ?_)
        · exact Nat.ne_of_lt lpa1
        · revert p hp; refine fc ?_ (fun p hp => ?_)
          · exact Nat.ne_of_lt lpa3
          · exact Nat.ne_of_lt (lpa5 p hp)
      have hT8 : TA r2 vs' (heapTo S S.length) := TA.drop hT fun p hp => by
        revert p hp; refine fc ?_ (fun p hp => ?_)
        · exact .inr (.inr ⟨_, dt⟩)
        · exact .inl (g3 p hp)
      refine hG ?_
      clear hG
      (try k_fold)
      refine while_rule (PgI s g' L' hp x t r2 S out) (by passes_own) ?wturn (2 * S.length) ?winit
      case winit =>
        exact ⟨_, _, _, _, _, _, pa, [], 0, [], _, _, 0, _, rfl, fr_as [(Str.ofString "text", .str x t), (Str.ofString "heap", .ref hp), (Str.ofString "page", .str (Str.ofString "") _), (Str.ofString "last", .int 0 _), (Str.ofString "path", .ref pa)] F7 ⟨rfl, rfl, rfl, rfl, rfl, trivial⟩, N8, hT8, .nil, Nat.ne_of_lt lpa2, g5, hH, by have := hlH.out; lia, hrun⟩
      clear F7 N7 N8 g5 hT8 hT e4 e5 lpa1 lpa2 lpa3 lpa4 lpa5 of3' of3 of1 of2 F6 N6 hH
      intro k s' hI
      refine hideG fun G hG => ?_
      obtain ⟨h9, tk9, u9, vs9, n9, H, pa, pv, pn, path, page, tp, last, tl, rfl, F9, N9, hT9, hI9, hne9, g5, hk9, hlk, hR9⟩ := hI
      dsimp only [lk] at F9
      refine hG ?_
      clear hG
      (try dsimp only)
      k_steps
      have hl9 := hT9.len
      refine list_truthy N9 (.head _) (by lia) ?_
      cases k with
      | zero =>
        refine hideG fun G hG => ?_
        obtain ⟨rfl, hpl, hout⟩ := hR9
        obtain rfl : vs9 = [] := List.length_eq_zero_iff.mp hl9
        refine hG ?_
        clear hG
        refine WhlIf.no rfl ?_
        (try dsimp only)
        k_steps
        rename Fr _ _ _ _ => F10
        rename News _ _ _ _ => N10
        have hx1 := Nat.le_trans (Txt.slice_le x (some last) none) hx
        have hx2 := escS_len hx1
        refine (escape_c w _ _ _ _ _ _ _ _ (Nat.le_trans hx1 (by decide))).useS B' F10 X' N10 T' rfl (by show dp + 4 < recursionLimit; exact room hd (by decide)) (by show un + 33 < cLine; exact room hu (by decide)) ?_
        intro t12 h12 tk12 F12 N12
        clear F10 N10
        k_steps
        rename News _ _ _ _ => N5
        exact hret _ _ _ _ ⟨rfl, _, by rw [hout]⟩ (by assumption) (fun p hp => N5 p (.tail _ (.tail _ (g3 _ (c0 _ hp)))))
      | succ f =>
        refine hideG fun G hG => ?_
        obtain ⟨H₀, y, rfl, hH0, q0, q1, q2, hpl, hk0, hk1, hpl2, hpq, hR⟩ := hR9
        refine hG ?_
        clear hG
        refine WhlIf.yes (by cases vs9 with
          | nil => rw [List.length_append] at hl9; cases hl9
          | cons => rfl) ?_
        (try dsimp only)
        k_steps
        rename Fr _ _ _ _ => F10
        rename News _ _ _ _ => N10
        refine (heappop_c w _ _ _ _ _ ((pa, _) :: r2) hp vs9 n9 H₀ y (DatAll.mono (fun p hp => .tail _ hp) hT9) (by lia) ?zsep).use B' F10 X' N10 T' rfl (by show dp + 8 < recursionLimit; exact room hd (by decide)) (by show un + 93 < cLine; exact room hu (by decide)) ?_
        case zsep =>
          intro p hp'
          revert p hp'; refine fc ?_ (fun p hp' => ?_)
          · exact Ne.symm hne9
          · exact g4 p hp'
        intro v2 news2 h11 tk11 hR1 F11 N11
        refine hideG fun G hG => ?_
        obtain ⟨hv2, vs11, n11, rfl, hT11⟩ := hR1
        clear F10 N10 hT9
        have hT12 : TA ((pa, listOf pv.toArray pn) :: r2) vs11 (popL H₀ y) := hT11
        have hv3 : DatIn ((pa, listOf pv.toArray pn) :: r2) v2 (d3 (topL H₀ y)) := hv2
        clear hT11 hv2
        generalize topL H₀ y = top at *
        obtain ⟨p0, kd, kk⟩ := top
        obtain ⟨ad, t1, t2, t3, nn1, rfl, hmx⟩ := dat3 hv3
        dsimp only at q0 q1 q2 hk0 hk1 hR hmx
        have hx1 : (Txt.slice x (some last) (some p0)).length ≤ 20 := Nat.le_trans (Txt.slice_le x _ _) hx
        have hx2 := escS_len hx1
        obtain ⟨tt, htt⟩ := strsAre_get hys kk.toNat (by lia)
        have hkk : kk = ((kk.toNat : Nat) : Int) := by lia
        have htl : ((tagsTo S S.length).getD kk.toNat Str.empty).length ≤ 50000 := tags_len (by have := hlH.out; lia) hq0 _
        have hlpv := hI9.length
        have hkb : kk.toNat < 1000 := by have := tagsTo_len S S.length; lia
        have etg : tagOf (tagsTo S S.length) kk = (tagsTo S S.length).getD kk.toNat Str.empty := rfl
        rw [etg] at hR
        clear etg
        generalize (tagsTo S S.length).getD kk.toNat Str.empty = tg1 at htt htl hR
        refine hG ?_
        clear hG
        k_steps
        rename Fr _ _ _ _ => F10
        rename News _ _ _ _ => N10
        refine (escape_c w _ _ _ _ _ _ _ _ (Nat.le_trans hx1 (by decide))).useS B' F10 X' N10 T' rfl (by show dp + 4 < recursionLimit; exact room hd (by decide)) (by show un + 33 < cLine; exact room hu (by decide)) ?_
        intro t12 h12 tk12 F12 N12
        clear F10 N10
        refine hideG fun G hG => ?_
        rcases hR with ⟨rfl, hR⟩ | ⟨rfl, pa1, pb1, rfl, hnm, hR⟩
        · refine hG ?_
          clear hG
          k_steps
          (try dsimp only)
          rename Fr _ _ _ _ => F13
          rename News _ _ _ _ => N13
          have ep : pv.toArray.push (Value.int kk t3) = (pv ++ [Value.int kk t3]).toArray := by simp
          rw [ep] at N13
          refine ⟨f, Nat.lt_succ_self f, _, _, _, vs11, n11, popL H₀ y, pa, pv ++ [Value.int kk t3], _, path ++ [kk], _, _, p0, _, rfl, fr_as [(Str.ofString "text", .str x t), (Str.ofString "heap", .ref hp), (Str.ofString "page", .str _ _), (Str.ofString "last", .int p0 t1), (Str.ofString "path", .ref pa)] F13 ⟨rfl, rfl, rfl, rfl, rfl, trivial⟩, N13, ?zT, hI9.append (.cons kk t3 .nil), hne9, g5, ?zl, by lia, hR⟩
          case zT =>
            refine TA.drop hT12 fun p hp => ?_
            revert p hp; refine fc ?_ (fun p hp => ?_)
            · right; left
              show ¬ (Value.type "list" = Value.type "tuple")
              decide
            · exact .inl hp
          case zl => exact popL_len (by rw [List.length_append] at hk9; exact Nat.succ.inj hk9)
        · refine hG ?_
          clear hG
          k_steps
          rename News _ _ _ _ => N13
          have hlp2 : pv.length = pa1.length + (pb1.length + 1) := by rw [hlpv, List.length_append, List.length_cons]
          rw [List.length_append, List.length_cons] at hpl2
          refine kf_index N13 (.tail _ (.head _)) (by simpa using ints_kf hI9) (by simpa using ints_at hI9 hnm) rfl (by rw [sizeLine_eq, List.toList_toArray]; lia) ?_
          (try dsimp only)
          k_steps
          rename_i DA wsA _ hWA _ _ lA _ FA NA _ _ _ kxN _ _ aA
          have eD : List.drop ((pa1.length : Int) + 1).toNat (pa1 ++ kk :: pb1) = pb1 := by
            rw [show ((pa1.length : Int) + 1).toNat = pa1.length + 1 from by lia]
            simp
          rw [eD] at hWA
          have eN : (pv.length : Int) - (pa1.length : Int) = ((pb1.length + 1 : Nat) : Int) := by lia
          (try k_fold)
          refine LCg.ListComp_U (F₀ := FA) (by with_unfolding_all rfl) (by decide) (by rfl) (by decide) (by rfl) ?_
          k_steps
          refine LCg.CompSrc.ledger (by rfl) FA NA (.head _) (by rw [List.size_toArray, sizeLine_eq, hWA.length]; lia) ?_
          intro gB
          (try dsimp only)
          rw [List.size_toArray, hWA.length]
          have hpb : ∀ q ∈ pb1, 0 ≤ q ∧ q < ((tagsTo S S.length).length : Int) := fun q hq => hpq q (List.mem_append_right _ (.tail _ hq))
          refine comp_ind (n := pb1.length) (fun j ys2 nx => nx = _ ∧ StrsAre ys2 ((pb1.take j).map (tagOf (tagsTo S S.length)))) ?cu ?cg _ 0 [] _ (by rw [Nat.zero_add]) ⟨rfl, .nil⟩
          case cu =>
            intro j ys2 nx v I oI Cc oC D m₂ h6 tk6 E' hj hR1 hv hC hx6 F6 N6 off ne
            refine hideG fun G hG => ?_
            obtain ⟨rfl, hys2⟩ := hR1
            rw [List.getElem?_toArray] at hv
            obtain ⟨tq, eq⟩ := hWA.int_at _ _ hv
            subst eq
            have hjq : pb1[j]? = some (pb1.getD j 0) := by rw [List.getD_eq_getElem?_getD, List.getElem?_eq_getElem hj]; rfl
            generalize pb1.getD j 0 = q at hjq hx6 hv
            obtain ⟨q5, q6⟩ := hpb q (List.mem_of_getElem? hjq)
            obtain ⟨tt2, htt2⟩ := strsAre_get hys q.toNat (by lia)
            have hqq : q = ((q.toNat : Nat) : Int) := by lia
            have hqb : q.toNat < 1000 := by have := tagsTo_len S S.length; lia
            have etg2 : tagOf (tagsTo S S.length) q = (tagsTo S S.length).getD q.toNat Str.empty := rfl
            rw [← etg2] at htt2
            clear etg2
            generalize htg2 : tagOf (tagsTo S S.length) q = tg2 at htt2
            refine hG ?_
            clear hG
            k_steps
            rename Fr _ _ _ _ => F9
            rename News _ _ _ _ => N9
            refine LCg.CompEnd.intro F9 N9 _ (fun p hp => hp) off (.inr ⟨_, .head _, rfl, _, rfl⟩) ⟨rfl, ?_⟩
            rw [List.take_add_one, hjq, Option.toList_some, List.map_append, List.map_cons, List.map_nil, htg2]
            exact strsAre_snoc hys2
          case cg =>
            intro ys2 nx hR1
            refine hideG fun G hG => ?_
            obtain ⟨rfl, hys2⟩ := hR1
            refine hG ?_
            clear hG
            intro D h6 tk6 F6 N6 off
            simp only [LCg.Off1] at off
            rw [List.take_length] at hys2
            clear FA NA
            k_steps
            have hsum : ((pb1.map (tagOf (tagsTo S S.length))).map (·.length)).sum ≤ 500000 := by
              have hs := sum_le (l := (pb1.map (tagOf (tagsTo S S.length))).map (·.length)) (b := 50000) (by
                intro z hz
                obtain ⟨y', hy', rfl⟩ := List.mem_map.mp hz
                obtain ⟨q, _, rfl⟩ := List.mem_map.mp hy'
                exact tags_len (by have := hlH.out; lia) hq0 _)
              rw [List.length_map, List.length_map] at hs
              have : pb1.length * 50000 ≤ 10 * 50000 := Nat.mul_le_mul_right _ (by lia)
              lia
            refine join_list (ys := pb1.map (tagOf (tagsTo S S.length))) (⟨_, (N6 _ (.head _)).1, rfl, _, rfl⟩ : h6.IsList D ys2.toArray) (by simpa using hys2) (by show _ + _ * 0 ≤ _; lia) ?_
            intro t7 k7
            have hJ : (Txt.join (Str.ofString "") (pb1.map (tagOf (tagsTo S S.length)))).length ≤ 500000 := by
              have h1 := StrLaws.join_length_le (Str.ofString "") (pb1.map (tagOf (tagsTo S S.length)))
              have e0 : (Str.ofString "").length = 0 := by decide
              rw [e0, Nat.mul_zero] at h1
              unfold Txt.join
              rw [StrLaws.glued_eq_join]
              lia
            rw [eN] at aA kxN ⊢
            have kxN := kxN (by lia)
            generalize Txt.join (Str.ofString "") (pb1.map (tagOf (tagsTo S S.length))) = jn at hJ hR ⊢
            generalize Txt.mul (Str.ofString "</s>") ((pb1.length + 1 : Nat) : Int) = ml at aA kxN hR ⊢
            k_steps
            (try dsimp only)
            rename_i D9 ws9 _ hI9e l9 _ FE NE
            have eT : List.take ((pa1.length : Int)).toNat (pa1 ++ kk :: pb1) = pa1 := by simp
            rw [eT] at hI9e
            refine ⟨f, Nat.lt_succ_self f, _, _, _, vs11, n11, popL H₀ y, D9, ws9, 0, pa1 ++ pb1, _, _, p0, _, rfl, fr_as [(Str.ofString "text", .str x t), (Str.ofString "heap", .ref hp), (Str.ofString "page", .str _ _), (Str.ofString "last", .int p0 t1), (Str.ofString "path", .ref D9)] FE ⟨rfl, rfl, rfl, rfl, rfl, trivial⟩, ?zN, ?zT, hI9e, Nat.ne_of_lt l9.2.2.2.1, ?zg, ?zl, by lia, hR⟩
            case zN =>
              intro p hp
              refine NE p ?_
              revert p hp; refine fc ?_ (fun p hp => ?_)
              · exact .tail _ (.tail _ (.tail _ (.tail _ (.head _))))
              · revert p hp; refine fc ?_ (fun p hp => ?_)
                · exact .head _
                · exact .tail _ (.tail _ (.tail _ (.tail _ (.tail _ (.tail _ hp)))))
            case zT =>
              refine TA.drop hT12 fun p hp => ?_
              revert p hp; refine fc ?_ (fun p hp => ?_)
              · right; left
                show ¬ (Value.type "list" = Value.type "tuple")
                decide
              · exact .inl hp
            case zg => exact fun p hp => Nat.ne_of_lt (allLt_mem l9.2.2.2.2.2 p hp)
            case zl => exact popL_len (by rw [List.length_append] at hk9; exact Nat.succ.inj hk9)
  clear hR hK F2 N2
  intro i tk1 m1 nx h tk own hi hoff hcl hR1 F3 N3
  refine hideG fun G hG => ?_
  obtain ⟨u, vs', n', ex, rfl, rfl, hT, hH, hsep⟩ := hR1
  dsimp only [lk] at F3
  dsimp only [List.cons_append] at N3
  generalize hrest : ex ++ bs ++ own = rest at N3
  have c2 : (L' + 1, os) ∈ rest := hrest ▸ List.mem_append_left _ (List.mem_append_right _ b2)
  have c0 : ∀ p ∈ news, p ∈ rest := fun p hp => hrest ▸ List.mem_append_left _ (List.mem_append_right _ (b3 _ hp))
  have c3 : (sa, listOf sv.toArray sn) ∈ rest := c0 _ hm
  have c4 : ∀ p ∈ rest, p.1 ≠ hp := by
    intro p hp
    rw [← hrest] at hp
    replace hp := List.mem_append.mp hp; rcases hp with hp | hp
    · replace hp := List.mem_append.mp hp; rcases hp with hp | hp
      · exact Nat.ne_of_gt (hsep p hp)
      · exact Nat.ne_of_lt (b4 p hp)
    · exact hoff p hp _ (.head _)
  have hT : TA rest vs' (heapTo S i) := DatAll.mono (fun p hp => hrest ▸ List.mem_append_left _ hp) hT
  obtain ⟨va, hva, hda⟩ := hv.get (k := i) (by rw [List.length_map]; lia)
  obtain ⟨ad, q1, q2, q3, qn, rfl, hq⟩ := datSp (a := S.getD i (0, 0, Str.empty)) (by rw [List.getElem_map] at hda; rw [List.getD_eq_getElem?_getD, List.getElem?_eq_getElem hi]; exact hda)
  have hq := c0 _ hq
  have hi1 : (0 : Int) + ↑i * 1 = ((i : Nat) : Int) := by lia
  rw [hi1] at F3
  refine hG ?_
  clear hG
  (try dsimp only)
  k_steps
  rename_i T _ F7 N7 lT
  refine (heappush_c w _ _ _ _ _ ((T, _) :: rest) hp vs' n' (heapTo S i) T _ (DatAll.mono (fun p hp => .tail _ hp) hT) (by have := hlH.out; lia) ?zsep (dat3_in (.head _))).use B' F7 X' (news_swap N7) T' rfl (by show dp + 6 < recursionLimit; exact room hd (by decide)) (by show un + 63 < cLine; exact room hu (by decide)) ?_
  case zsep =>
    intro p hp'
    revert p hp'; refine fc ?_ (fun p hp' => ?_)
    · exact Nat.ne_of_gt lT.1
    · exact c4 p hp'
  intro v2 news2 h6 tk6 hR1 F6 N6
  refine hideG fun G hG => ?_
  obtain ⟨rfl, vs2, n2, rfl, hT2⟩ := hR1
  refine hG ?_
  clear hG
  clear F7 N7
  k_steps
  rename_i T2 _ F7 N7 l2x
  refine (heappush_c w _ _ _ _ _ ((T2, _) :: (T, _) :: rest) hp vs2 n2 _ T2 _ (DatAll.mono (fun p hp => .tail _ hp) hT2) (by have := hlH.out; rw [pushL_len]; lia) ?zsep (dat3_in (.head _))).use B' F7 X' (news_swap N7) T' rfl (by show dp + 6 < recursionLimit; exact room hd (by decide)) (by show un + 63 < cLine; exact room hu (by decide)) ?_
  case zsep =>
    intro p hp'
    revert p hp'; refine fc ?_ (fun p hp' => ?_)
    · exact Nat.ne_of_gt (by lia)
    · revert p hp'; refine fc ?_ (fun p hp' => ?_)
      · exact Nat.ne_of_gt lT.1
      · exact c4 p hp'
  intro v3 news3 h8 tk8 hR1 F8 N8
  refine hideG fun G hG => ?_
  obtain ⟨rfl, vs3, n3, rfl, hT3⟩ := hR1
  refine hG ?_
  clear hG
  clear F7 N7
  k_steps
  rename Fr _ _ _ _ => F9
  refine hideG fun G hG => ?_
  obtain ⟨lT1, lT2⟩ := lT
  obtain ⟨l2a, l2b, l2c⟩ := l2x
  refine hG ?_
  clear hG
  refine InvEndG.intro F9 N8 (nx := (hp, listOf vs3.toArray n3) :: (((T2, { cls := Value.type "tuple", data := Data.seq #[Value.int (S.getD i (0, 0, Str.empty)).1 q1, Value.int 0 (tk6 + 1 + 1), Value.int (i : Int) tk1] }) :: (T, { cls := Value.type "tuple", data := Data.seq #[Value.int (S.getD i (0, 0, Str.empty)).2.1 q2, Value.int 1 (tk + 1), Value.int (i : Int) tk1] }) :: ex) ++ bs)) ⟨_, _, _, (T2, { cls := Value.type "tuple", data := Data.seq #[Value.int (S.getD i (0, 0, Str.empty)).1 q1, Value.int 0 (tk6 + 1 + 1), Value.int (i : Int) tk1] }) :: (T, { cls := Value.type "tuple", data := Data.seq #[Value.int (S.getD i (0, 0, Str.empty)).2.1 q2, Value.int 1 (tk + 1), Value.int (i : Int) tk1] }) :: ex, (lk_as ?ha).symm, rfl, ?hb, ?hb2, ?hc⟩ ?hd ?he ?hf
  case he =>
    intro p hp
    revert p hp; refine fc ?_ (fun p hp => ?_)
    · exact .head _
    · revert p hp; refine fc ?_ (fun p hp => ?_)
      · exact .tail _ (.head _)
      · revert p hp; refine fc ?_ (fun p hp => ?_)
        · exact .tail _ (.tail _ (.head _))
        · exact .tail _ (.tail _ (.tail _ (hrest ▸ List.mem_append_left _ hp)))
  case ha =>
    exact ⟨rfl, rfl, trivial⟩
  case hb =>
    rw [heapTo_succ]
    refine TA.drop hT3 fun p hp => ?_
    revert p hp; refine fc ?_ (fun p hp => ?_)
    · exact .inl (.head _)
    · revert p hp; refine fc ?_ (fun p hp => ?_)
      · exact .inl (.tail _ (.head _))
      · rw [← hrest] at hp
        replace hp := List.mem_append.mp hp; rcases hp with hp | hp
        · exact .inl (.tail _ (.tail _ hp))
        · right; left
          rw [hcl p hp]
          intro e; exact absurd e (by decide)
  case hb2 => rw [heapTo_succ, pushL_len, pushL_len, hH]; lia
  case hc =>
    intro p hp
    revert p hp; refine fc ?_ (fun p hp => ?_)
    · exact l2a
    · revert p hp; refine fc ?_ (fun p hp => ?_)
      · exact lT1
      · exact hsep p hp
  case hd =>
    intro p hp b hb
    simp only [List.map_cons, List.cons_append, List.mem_cons] at hb
    rcases hb with rfl | rfl | rfl | hb
    · exact hoff p hp _ (.head _)
    · exact Nat.ne_of_lt (allLt_mem l2c p (hrest ▸ List.mem_append_right _ hp))
    · exact Nat.ne_of_lt (allLt_mem lT2 p (hrest ▸ List.mem_append_right _ hp))
    · exact hoff p hp _ (.tail _ hb)
  case hf =>
    intro p hp
    exact .tail _ (.tail _ (.tail _ (hrest ▸ List.mem_append_right _ hp)))
section
variable {prog : Program} {w : World} {A : Around} {E : Value → Shared → Prop} {s : Shared} {h₀ : Heap} {L : Addr} {m : Str → Option Value} {news : List (Addr × Obj)}
theorem in_no {x y : Str} {t u : Tok} {Q : Value → Shared → Prop} (hl : lacks x y = true) (h : Q (.bool false) s) : wpAny (model prog w) A (compareOp .In (.str y u) (.str x t)) Q E s := by
  refine in_str ?_
  have e : (Builtin.Str.occurrences x y 0 x.length 1).isEmpty = true := hl
  rw [e]; exact h
theorem pick_from1 (vs : List Value) : slicePick vs.toArray (some 1) none none = (vs.drop 1).toArray := by
  have e : sliceBounds (some 1) none none vs.toArray.size = (((min 1 vs.toArray.size : Nat) : Int), ((vs.toArray.size : Nat) : Int), 1) := by
    simp only [sliceBounds, Option.getD_none, show (1 : Int) > 0 by decide, if_true, if_neg (show ¬ ((1 : Int) < 0) by lia)]
    congr 1
    lia
  rw [kmk_pick_nat _ e, List.size_toArray, kmk_drop_min, List.take_of_length_le (by rw [List.length_drop]; lia)]
theorem pick_init (vs : List Value) : slicePick vs.toArray none (some (-1)) none = vs.dropLast.toArray := by
  have e : sliceBounds none (some (-1)) none vs.toArray.size = (((0 : Nat) : Int), ((vs.toArray.size - 1 : Nat) : Int), 1) := by
    simp only [sliceBounds, Option.getD_none, show (1 : Int) > 0 by decide, if_true, if_pos (show ((-1 : Int) < 0) by lia)]
    congr 1
    congr 1
    lia
  rw [kmk_pick_nat _ e, List.drop_zero, Nat.sub_zero, List.size_toArray, ← List.dropLast_eq_take]
theorem slice_tail {l : Addr} {vs : List Value} {n : Nat} {u : Tok} {value slice : PySem.Expr} {Q : Value → Shared → Prop} (F : Fr h₀ L s.heap m) (N : News h₀ L s.heap news) (hm : (l, listOf vs.toArray n) ∈ news) (hz : vs.length ≤ 1000000)
    (h : ∀ D h', Fr h₀ L h' m → News h₀ L h' ((D, listOf (vs.drop 1).toArray 0) :: news) → (∀ p ∈ news, p.1 < D) → Q (.ref D) { s with heap := h' })
    (hs : subscripted slice false (.ref l) (.ref s.heap.objs.size) = operate [.ref s.heap.objs.size, .ref l] (getItem (.ref l) (.ref s.heap.objs.size))) (ht : ∀ r, letTemporaryGo value (.ref l) r = pure ()) :
    wpAny (model prog w) A (subscriptTail value slice (.ref l) (.ref s.heap.objs.size)) Q E { s with heap := s.heap.push { cls := .type "slice", data := .fields #[.int 1 u, .none, .none] } } := by
  refine kmk_slice F N (PySem.IsL.isList (n := n) (N _ hm).1) (IsPart.int _ _) IsPart.none (fun D h' F' N' l1 => h D h' F' ?_ l1) hs ht (by rw [List.size_toArray, sizeLine_eq]; lia)
  rw [pick_from1] at N'
  exact N'
theorem slice_last {l : Addr} {vs : List Value} {n : Nat} {u : Tok} {value slice : PySem.Expr} {Q : Value → Shared → Prop} (F : Fr h₀ L s.heap m) (N : News h₀ L s.heap news) (hm : (l, listOf vs.toArray n) ∈ news) (hz : vs.length ≤ 1000000)
    (h : ∀ D h', Fr h₀ L h' m → News h₀ L h' ((D, listOf vs.dropLast.toArray 0) :: news) → (∀ p ∈ news, p.1 < D) → Q (.ref D) { s with heap := h' })
    (hs : subscripted slice false (.ref l) (.ref s.heap.objs.size) = operate [.ref s.heap.objs.size, .ref l] (getItem (.ref l) (.ref s.heap.objs.size))) (ht : ∀ r, letTemporaryGo value (.ref l) r = pure ()) :
    wpAny (model prog w) A (subscriptTail value slice (.ref l) (.ref s.heap.objs.size)) Q E { s with heap := s.heap.push { cls := .type "slice", data := .fields #[.none, .int (-1) u, .none] } } := by
  refine kmk_slice F N (PySem.IsL.isList (n := n) (N _ hm).1) IsPart.none (IsPart.int _ _) (fun D h' F' N' l1 => h D h' F' ?_ l1) hs ht (by rw [List.size_toArray, sizeLine_eq]; lia)
  rw [pick_init] at N'
  exact N'
theorem post_val_or_strP {s : Shared} {c : Prop} [Decidable c] {y z : Str} {t : Tok} {Q : Value → Shared → Prop} (h : (if c then y else z).length ≤ sizeLine ∧ ∀ t' k, s.toks ≤ k → Q (.str (if c then y else z) t') { s with toks := k }) :
    (if c then Made.val (.str y t) else Made.str z).post Q s := by
  by_cases hc : c
  · rw [if_pos hc]; have h' := h.2 t s.toks (Nat.le_refl _); rw [if_pos hc] at h'; exact h'
  · rw [if_neg hc]; have h' := h.2 s.toks (s.toks + 1) (Nat.le_succ _); have h1 := h.1; rw [if_neg hc] at h' h1; exact ⟨h1, h'⟩
theorem slice_strP {x : Str} {t : Tok} {value slice : PySem.Expr} {Q : Value → Shared → Prop} {i j : Int} {ui uj : Tok} (hF : Fr h₀ L s.heap m) (hN : News h₀ L s.heap news) (hsz : x.length ≤ 1000)
    (h : ∀ h' t' k, s.toks ≤ k → Fr h₀ L h' m → News h₀ L h' news → Q (.str (Txt.slice x (some i) (some j)) t') { s with heap := h', toks := k })
    (hs : subscripted slice false (.str x t) (.ref s.heap.objs.size) = operate [.ref s.heap.objs.size, .str x t] (getItem (.str x t) (.ref s.heap.objs.size)))
    (ht : ∀ r, letTemporaryGo value (.str x t) r = pure ()) :
    wpAny (model prog w) A (subscriptTail value slice (.str x t) (.ref s.heap.objs.size)) Q E { s with heap := s.heap.push { cls := .type "slice", data := .fields #[.int i ui, .int j uj, .none] } } :=
  tail_of_ItemOn ⟨"str", _, F.slot_str_getitem.lookup, typeIs_str _ _ _, wpAny_getItem_str_slice (l := some (i, ui)) (u := some (j, uj)) (st := none) ⟨_, Heap.get?_push_size _ rfl, rfl, rfl⟩ rfl
    (post_val_or_strP ⟨Nat.le_trans (Txt.slice_le x _ _) (by rw [sizeLine_eq]; lia), fun t' k hk => h _ t' k hk (hF.push _) (hN.grown fun _ _ e => Heap.get?_push_of_some _ e)⟩)⟩ hs ht
theorem add_two {a b : Addr} {vs ws : List Value} {n k : Nat} {Q : Value → Shared → Prop} (F : Fr h₀ L s.heap m) (N : News h₀ L s.heap news) (ha : (a, listOf vs.toArray n) ∈ news) (hb : (b, listOf ws.toArray k) ∈ news) (hz : vs.length + ws.length ≤ 1000000)
    (h : ∀ D h', Fr h₀ L h' m → News h₀ L h' ((D, listOf (vs ++ ws).toArray 0) :: news) → (∀ p ∈ news, p.1 < D) → Q (.ref D) { s with heap := h' }) : wpAny (model prog w) A (binaryOp .Add (.ref a) (.ref b)) Q E s :=
  kmk_add_lit F N (PySem.IsL.isList (n := n) (N _ ha).1) (PySem.IsL.isList (n := k) (N _ hb).1) rfl h (by rw [sizeLine_eq]; simp only [List.toList_toArray]; lia)
theorem eq_no {x y : Str} {t u : Tok} {Q : Value → Shared → Prop} (hne : x ≠ y) (h : Q (.bool false) s) : wpAny (model prog w) A (compareOp .Eq (.str x t) (.str y u)) Q E s := by
  refine eq_str ?_
  rw [beq_eq_false_iff_ne.mpr hne]; exact h
theorem index_at {x y : Str} {t u : Tok} {k : Nat} {Q : Value → Shared → Prop} (hA : A.handled = none) (hf : Txt.find x y = (k : Int)) (h : Q (.int (k : Int) s.toks) { s with toks := s.toks + 1 }) : wpAny (model prog w) A (call (.builtin "str.index") [.str x t, .str y u]) Q E s := by
  refine index_or hA (fun h0 => ?_) (fun _ _ => ?_)
  · rw [hf] at h0; lia
  · rw [hf]; exact h
end
/-- unescape with the two entities -/
def unq (q : Str) : Str := Txt.replace (Txt.replace (Txt.replace (Txt.replace (Txt.replace q (Str.ofString "&lt;") (Str.ofString "<")) (Str.ofString "&gt;") (Str.ofString ">")) (Str.ofString "&quot;") (Str.ofString "\"")) (Str.ofString "&#10;") (Str.ofString "\n")) (Str.ofString "&amp;") (Str.ofString "&")
/-- what a tag says -/
def TagOk (tag : Str) (k : Nat) (lab : Str) : Prop := tag.length ≤ 1000 ∧ Txt.find tag (Str.ofString " l=") = 7 ∧ (∃ a y c, Txt.split tag (Str.ofString "\"") = a :: y :: c ∧ PySem.intText? y = some (k : Int) ∧ y.length ≤ 640) ∧
  (Txt.slice tag (some 11) (some (-1))).length ≤ 50 ∧ unq (Txt.slice tag (some 11) (some (-1))) = lab
def RdRuns (lab : Nat → Str) : List Str → Str → List (List Nat) → List Nat → Str × List (List Nat) × List Nat → Prop
  | [], text, over, path, out => out = (text, over, path)
  | part :: ps, text, over, path, out => ∃ tag rst path', Txt.partition part (Str.ofString ">") = (tag, Str.ofString ">", rst) ∧ part.length ≤ 1000 ∧ rst.length ≤ 1000 ∧ text.length ≤ 1000 ∧ (uneS rst).length ≤ 1000 ∧ over.length ≤ 1000 ∧ path.length ≤ 10 ∧ lacks rst (Str.ofString ">") = true ∧ lacks tag (Str.ofString "\n") = true ∧ path'.Nodup ∧ (∀ a ∈ path', a < 6) ∧
     ((tag = Str.ofString "/s" ∧ path' = path.dropLast) ∨ (tag ≠ Str.ofString "/s" ∧ ∃ k, path' = path ++ [k] ∧ TagOk tag k (lab k))) ∧
     RdRuns lab ps (text ++ uneS rst) (over ++ List.replicate (uneS rst).length (asc6 path')) path' out
theorem une_len {x : Str} (hx : x.length ≤ 1000) : (uneS x).length ≤ 300000 := by
  have h1 := len_rep (x := x) (y := Str.ofString "&lt;") (z := Str.ofString "<") (B := 1000) hx (by decide)
  have h2 := len_rep (x := Txt.replace x (Str.ofString "&lt;") (Str.ofString "<")) (y := Str.ofString "&gt;") (z := Str.ofString ">") (B := 6005) h1 (by decide)
  exact Nat.le_trans (len_rep (B := 36035) (Nat.le_trans h2 (by decide)) (by decide)) (by decide)
theorem strv_get {l : List (Str × Tok)} {i : Nat} {v : Value} (h : (strValues l)[i]? = some v) : ∃ x t, v = .str x t ∧ (l.map (·.1))[i]? = some x := by
  unfold strValues at h
  rw [List.getElem?_map] at h
  cases e : l[i]? with
  | none => rw [e] at h; cases h
  | some p =>
    rw [e] at h
    obtain ⟨x, t⟩ := p
    refine ⟨x, t, (Option.some.inj h).symm, ?_⟩
    rw [List.getElem?_map, e]; rfl
def uEnt (t : Tok) : List (Str × Tok × Value) := [(Str.ofString "&quot;", t, Value.str (Str.ofString "\"") (t + 1)), (Str.ofString "&#10;", t + 2, Value.str (Str.ofString "\n") (t + 2 + 1))]
def unq2 (q : Str) : Str := Txt.replace (Txt.replace q (Str.ofString "&lt;") (Str.ofString "<")) (Str.ofString "&gt;") (Str.ofString ">")
theorem unq_len {q : Str} (h : q.length ≤ 50) : (unq2 q).length ≤ 1835 := by
  have h1 := len_rep (x := q) (y := Str.ofString "&lt;") (z := Str.ofString "<") (B := 50) h (by decide)
  exact Nat.le_trans (len_rep (B := 305) (Nat.le_trans h1 (by decide)) (by decide)) (by decide)
theorem unq_len2 {q : Str} (h : q.length ≤ 50) (t : Tok) : (replAll (uEnt t) (unq2 q)).length ≤ 1000000 := by
  have h0 := unq_len h
  have h1 := len_repA (x := unq2 q) (y := Str.ofString "&quot;") (z := Str.ofString "\"") (by decide)
  have h2 := len_repA (x := Txt.replace (unq2 q) (Str.ofString "&quot;") (Str.ofString "\"")) (y := Str.ofString "&#10;") (z := Str.ofString "\n") (by decide)
  show (Txt.replace (Txt.replace (unq2 q) (Str.ofString "&quot;") (Str.ofString "\"")) (Str.ofString "&#10;") (Str.ofString "\n")).length ≤ _
  lia
theorem datAll_dropLast {nx : List (Addr × Obj)} : ∀ {vs : List Value} {ds : List Dat}, DatAll nx vs ds → DatAll nx vs.dropLast ds.dropLast
  | _, _, .nil => .nil
  | _, _, .cons _ .nil => .nil
  | _, _, .cons h1 (.cons h2 r) => .cons h1 (datAll_dropLast (.cons h2 r))
theorem news_skip2 {h₀ h : Heap} {L : Addr} {a b : Addr × Obj} {r : List (Addr × Obj)} (N : News h₀ L h (a :: b :: r)) : News h₀ L h (a :: r) := fun p hp => N p (by
  rcases List.mem_cons.mp hp with rfl | hp
  · exact .head _
  · exact .tail _ (.tail _ hp))
section
variable {prog : Program} {w : World} {A : Around} {E : Value → Shared → Prop} {s : Shared} {h₀ : Heap} {L : Addr} {m : Str → Option Value} {env : Env}
def Off4 (I C K D : Addr) (l : List (Addr × Obj)) : Prop := ∀ p ∈ l, (@Ne Nat p.1 I) ∧ (@Ne Nat p.1 C) ∧ (@Ne Nat p.1 K) ∧ (@Ne Nat p.1 D)
def CellEnd (h₀ : Heap) (L : Addr) (m : Str → Option Value) (s₁ : Shared) (I : Addr) (oI : Obj) (C : Addr) (oC : Obj) (K : Addr) (oK : Obj) (D : Addr) (oD : Obj) (rest : Value → List (Addr × Obj) → Prop) (y : Value) (s₂ : Shared) : Prop :=
  ∃ h' tk news', s₂ = { s₁ with heap := h', toks := tk } ∧ Fr h₀ L h' m ∧ News h₀ L h' ((I, oI) :: (C, oC) :: (K, oK) :: (D, oD) :: news') ∧ Off4 I C K D news' ∧ rest y news'
/-- the turns of a comprehension whose name is a cell -/
def CellRest (prog : Program) (w : World) (A : Around) (h₀ : Heap) (L : Addr) (m : Str → Option Value) (env : Env) (elt : PySem.Expr) (x : Str) (scope : Scope) (cl : List (Str × Addr)) (s : Shared) (P : Nat → Value → Prop)
    (Fin : List Value → List (Addr × Obj) → Prop) : Nat → Nat → List Value → List (Addr × Obj) → Prop
  | 0, _, ys, news => Fin ys news
  | k + 1, i, ys, news => ∀ v I oI C oC K oK D h tk (E' : Value → Shared → Prop), P i v → oK.data = .cell (some v) → Fr h₀ L h m → News h₀ L h ((I, oI) :: (C, oC) :: (K, oK) :: (D, LCg.lst ys) :: news) → Off4 I C K D news →
      ((@Ne Nat I C) ∧ (@Ne Nat I K) ∧ (@Ne Nat I D) ∧ (@Ne Nat C K) ∧ (@Ne Nat C D) ∧ (@Ne Nat K D)) →
      wpAny (model prog w) A (eval elt (compEnvC scope ((x, K) :: cl) C env)) (CellEnd h₀ L m { s with heap := h, toks := tk } I oI C oC K oK D (LCg.lst ys) (fun y news' => CellRest prog w A h₀ L m env elt x scope cl s P Fin k (i + 1) (ys ++ [y]) news')) E' { s with heap := h, toks := tk }
theorem cell_ind {elt : PySem.Expr} {x : Str} {scope : Scope} {cl : List (Str × Addr)} {P : Nat → Value → Prop} {Fin : List Value → List (Addr × Obj) → Prop} {n : Nat}
    (C : Nat → List Value → List (Addr × Obj) → Prop)
    (turn : ∀ i ys news v I oI Cc oC K oK D h tk (E' : Value → Shared → Prop), i < n → C i ys news → P i v → oK.data = .cell (some v) → Fr h₀ L h m → News h₀ L h ((I, oI) :: (Cc, oC) :: (K, oK) :: (D, LCg.lst ys) :: news) → Off4 I Cc K D news →
      ((@Ne Nat I Cc) ∧ (@Ne Nat I K) ∧ (@Ne Nat I D) ∧ (@Ne Nat Cc K) ∧ (@Ne Nat Cc D) ∧ (@Ne Nat K D)) →
      wpAny (model prog w) A (eval elt (compEnvC scope ((x, K) :: cl) Cc env)) (CellEnd h₀ L m { s with heap := h, toks := tk } I oI Cc oC K oK D (LCg.lst ys) (fun y news' => C (i + 1) (ys ++ [y]) news')) E' { s with heap := h, toks := tk })
    (fin : ∀ ys news, C n ys news → Fin ys news) :
    ∀ k i ys news, i + k = n → C i ys news → CellRest prog w A h₀ L m env elt x scope cl s P Fin k i ys news := by
  intro k
  induction k with
  | zero => intro i ys news e c; obtain rfl : i = n := by lia
            exact fin _ _ c
  | succ k ih =>
    intro i ys news e c
    intro v I oI Cc oC K oK D h tk E' hP h1 F N off ne
    refine wpAny_mono (turn i ys news v I oI Cc oC K oK D h tk E' (by lia) c hP h1 F N off ne) (fun y s₂ hy => ?_) fun _ _ e => e
    obtain ⟨h', tk, news', rfl, F', N', o', r⟩ := hy
    exact ⟨h', tk, news', rfl, F', N', o', ih _ _ _ (by lia) r⟩
theorem fresh_of {h : Heap} {a : Addr} (ha : h.objs.size ≤ a) : h.get? a = none := by
  cases e : h.get? a with
  | none => rfl
  | some o' => exact absurd (Heap.lt_size e) (Nat.not_lt.mpr ha)
set_option maxHeartbeats 1600000 in
theorem block_K {elt iter : PySem.Expr} {x : Str} {px : Pos} {scope : Scope} {cl : List (Str × Addr)} {pos : Pos} {s₂ : Shared} {I : Addr} {fp : List Addr} {n : Nat} {P : Nat → Value → Prop} {St : Nat → Heap → Prop} {news : List (Addr × Obj)}
    {Fin : List Value → List (Addr × Obj) → Prop} {RR : Value → Addr → Result → Shared → Prop}
    (W : Walks prog w A I fp [I] n P St) (hsz : n ≤ sizeLine) (hIo : ∀ i h, St i h → ∃ o, h.get? I = some o)
    (hSt : ∀ i h h' o, St i h → h.get? I = some o → h'.get? I = some o → St i h')
    (hcf : ∀ k acc, cellsFrom k scope.names acc = (x, k) :: acc) (hpc : ∀ h, pushCells h scope.names = h.push { cls := .type "cell", data := .cell none })
    (hkind : scope.kind = .function) (hx : (relabel scope env).names.lookup x = some .cell) (hst : St 0 s₂.heap) (hfp : ∀ b ∈ fp, b < s₂.heap.objs.size)
    (F : Fr h₀ L s₂.heap m) (N : News h₀ L s₂.heap news) (hIL : L ≠ I) (hI₀ : h₀.get? I = none) (off : ∀ p ∈ news, p.1 ≠ I)
    (R : CellRest prog w A h₀ L m env elt x scope cl s₂ P Fin n 0 [] news)
    (hRR : ∀ D C h tk m' ys news', Fr h₀ L h m → News h₀ L h ((D, LCg.lst ys) :: news') → LCg.Off1 D news' → h.Ns C m' → h₀.get? C = none → h₀.get? D = none → C ≠ L → D ≠ L → C ≠ D → (∀ p ∈ news', p.1 ≠ C) → Fin ys news' → RR (.ref D) C (.ok .next) { s₂ with heap := h, toks := tk }) :
    wpAny (model prog w) A (newList []) (fun acc s₃ => wpAny (model prog w) A (newFunctionEnv scope env.globals cl [] env.qual none .none (some env)) (fun cenv s₄ =>
      codeAny (model prog w) A (.compStart (.ListComp elt [⟨.Name x px, iter, [], 0⟩] scope pos) 0 (.ref I) acc { cenv with scope := relabel scope env }) (RR acc cenv.locals) s₄) E s₃) E s₂ := by
  refine wpAny_newObj_type ?_
  simp only [newFunctionEnv, Option.isSome_some, if_true]
  refine wpAny_bind (wpAny_alloc ?_)
  refine wpAny_bind (wpAny_layCells _ (fun name kind cells => by cases hkc : kind == NameKind.cell <;> simp [hkc]) _ _ _ _ ?_)
  rw [hcf, hpc]
  refine wpAny_bind ?_
  rw [List.forIn_nil]
  refine wpAny_pure (wpAny_pure ?_)
  generalize hH2 : s₂.heap.push { cls := .type "list", dict := none, data := .seq ([] : List Value).toArray } = H2
  have hC : H2.objs.size = s₂.heap.objs.size + 1 := by rw [← hH2, Heap.size_push]
  generalize hH3 : H2.push { cls := .type "dict", data := .dict #[] } = H3
  have hK : H3.objs.size = s₂.heap.objs.size + 2 := by rw [← hH3, Heap.size_push, hC]
  generalize hH4 : H3.push { cls := .type "cell", data := .cell none } = H4
  have old : ∀ b o, s₂.heap.get? b = some o → H4.get? b = some o := fun b o e => hH4 ▸ Heap.get?_push_of_some _ (hH3 ▸ Heap.get?_push_of_some _ (hH2 ▸ Heap.get?_push_of_some _ e))
  have hacc : H4.get? s₂.heap.objs.size = some (LCg.lst []) := hH4 ▸ Heap.get?_push_of_some _ (hH3 ▸ Heap.get?_push_of_some _ (hH2 ▸ Heap.get?_push_size _ rfl))
  have hdic : H4.get? H2.objs.size = some { cls := .type "dict", data := .dict #[] } := hH4 ▸ Heap.get?_push_of_some _ (hH3 ▸ Heap.get?_push_size _ rfl)
  have hcel : H4.get? H3.objs.size = some { cls := .type "cell", data := .cell none } := hH4 ▸ Heap.get?_push_size _ rfl
  have below : ∀ b, b < s₂.heap.objs.size → b ≠ H3.objs.size ∧ b ≠ H2.objs.size ∧ b ≠ s₂.heap.objs.size := fun b hb => by
    rw [hC, hK]
    exact ⟨Nat.ne_of_lt (Nat.lt_succ_of_lt (Nat.lt_succ_of_lt hb)), Nat.ne_of_lt (Nat.lt_succ_of_lt hb), Nat.ne_of_lt hb⟩
  have hDC : s₂.heap.objs.size ≠ H2.objs.size := by rw [hC]; exact Nat.ne_of_lt (Nat.lt_succ_self _)
  have hDK : s₂.heap.objs.size ≠ H3.objs.size := by rw [hK]; exact Nat.ne_of_lt (Nat.lt_succ_of_lt (Nat.lt_succ_self _))
  have hCK : H2.objs.size ≠ H3.objs.size := by rw [hK, hC]; exact Nat.ne_of_lt (Nat.lt_succ_self _)
  have hDf : s₂.heap.objs.size ∉ fp := fun hm => Nat.lt_irrefl _ (hfp _ hm)
  have hKf : H3.objs.size ∉ fp := fun hm => (below _ (hfp _ hm)).1 rfl
  have hIf : I ∈ fp := W.sub I (List.mem_singleton.mpr rfl)
  have hIlt : I < s₂.heap.objs.size := hfp I hIf
  have hst₁ : St 0 H4 := W.frame _ _ _ hst fun b _ o e => old b o e
  have fresh₀ : ∀ a, s₂.heap.objs.size ≤ a → h₀.get? a = none := fun a ha => by
    cases e : h₀.get? a with
    | none => rfl
    | some o' => have := F.keep a o' e; rw [fresh_of ha] at this; cases this
  have hD₀ : h₀.get? s₂.heap.objs.size = none := fresh₀ _ (Nat.le_refl _)
  have hC₀ : h₀.get? H2.objs.size = none := fresh₀ _ (by rw [hC]; exact Nat.le_succ _)
  have hK₀ : h₀.get? H3.objs.size = none := fresh₀ _ (by rw [hK]; exact Nat.le_add_right _ _)
  have hLlt : L < s₂.heap.objs.size := F.ns.lt
  have hDL : s₂.heap.objs.size ≠ L := Ne.symm (below L hLlt).2.2
  have hCL : H2.objs.size ≠ L := Ne.symm (below L hLlt).2.1
  have hKL : H3.objs.size ≠ L := Ne.symm (below L hLlt).1
  have hCI : I ≠ H2.objs.size := (below I hIlt).2.1
  have hDI : I ≠ s₂.heap.objs.size := (below I hIlt).2.2
  have hKI : I ≠ H3.objs.size := (below I hIlt).1
  have off₀ : Off4 I H2.objs.size H3.objs.size s₂.heap.objs.size news := fun p hp => ⟨off p hp, (below _ (Heap.lt_size (N p hp).1)).2.1, (below _ (Heap.lt_size (N p hp).1)).1, (below _ (Heap.lt_size (N p hp).1)).2.2⟩
  have hns : ∀ {h : Heap}, h.get? H2.objs.size = some { cls := .type "dict", data := .dict #[] } → h.Ns H2.objs.size (fun _ => none) := fun e => ⟨_, _, _, e, rfl, (by intro e he; simp at he), fun _ => rfl⟩
  have loop : ∀ s₃ : Shared, s₃ = { s₂ with heap := H4 } →
      codeAny (model prog w) A (.compLoop (.ListComp elt [⟨.Name x px, iter, [], 0⟩] scope pos) 0 (.ref I) (.ref s₂.heap.objs.size) (compEnvC scope ((x, H3.objs.size) :: cl) H2.objs.size env))
        (RR (.ref s₂.heap.objs.size) H2.objs.size) s₃ := by
    rintro s₃ rfl
    refine codeAny_compLoop_tests
      (fun k s' => ∃ h' tk i ys oK vK news', s' = { s₂ with heap := h', toks := tk } ∧ i ≤ n ∧ k = n + 1 - i ∧ ys.length = i ∧ St i h' ∧ Fr h₀ L h' m ∧ oK.data = .cell vK ∧
        News h₀ L h' ((H2.objs.size, { cls := .type "dict", data := .dict #[] }) :: (H3.objs.size, oK) :: (s₂.heap.objs.size, LCg.lst ys) :: news') ∧
        Off4 I H2.objs.size H3.objs.size s₂.heap.objs.size news' ∧ CellRest prog w A h₀ L m env elt x scope cl s₂ P Fin (n - i) i ys news') ?_ (n + 1)
      ⟨H4, _, 0, [], ({ cls := .type "cell", data := .cell none } : Obj), none, news, rfl, Nat.zero_le _, rfl, rfl, hst₁, F.keeps old, rfl, fun p hp => ?_, off₀, R⟩
    · intro k s' hR1
      refine hideG fun G hG => ?_
      obtain ⟨h', tk, i, ys, oK, vK, news', rfl, hi, rfl, hyl, hst', F', hoK, N', off', R'⟩ := hR1
      refine hG ?_
      clear hG
      by_cases hlt : i < n
      · obtain ⟨j, hj⟩ : ∃ j, n - i = j + 1 := ⟨n - i - 1, by lia⟩
        rw [hj] at R'
        refine W.item i _ _ _ hlt hst' fun v h₂ tk₂ hPv hst₂ hk₂ => ?_
        have N₂ : News h₀ L h₂ ((H2.objs.size, { cls := .type "dict", data := .dict #[] }) :: (H3.objs.size, oK) :: (s₂.heap.objs.size, LCg.lst ys) :: news') := LCg.news_but N' hk₂ fun p hp => by
          rcases List.mem_cons.mp hp with rfl | hp
          · exact Ne.symm hCI
          · rcases List.mem_cons.mp hp with rfl | hp
            · exact Ne.symm hKI
            · rcases List.mem_cons.mp hp with rfl | hp
              · exact Ne.symm hDI
              · exact (off' p hp).1
        refine wpAny_assign_Name (wpAny_storeName_cell (c := H3.objs.size) (v₀ := vK) hkind hx (by simp [compEnvC]) ⟨oK, (N₂ _ (.tail _ (.head _))).1, hoK⟩ (fun h₃ hv₃ hs₃ => ?_))
        obtain ⟨oK3, heK3, hoK3⟩ := hv₃
        refine wpAny_tests_nil ?_
        simp only [if_true]
        have hst₃ : St (i + 1) h₃ := W.frame _ _ _ hst₂ fun b hb o e => hs₃.extBut b o (fun q => hKf (by have q' : b = H3.objs.size := q; rw [← q']; exact hb)) e
        obtain ⟨oI, heI⟩ := hIo _ _ hst₃
        have F₃ : Fr h₀ L h₃ m := (LCg.fr_but F' hk₂ hIL hI₀).change hs₃ hKL hK₀
        have N₃ : News h₀ L h₃ ((I, oI) :: (H2.objs.size, { cls := .type "dict", data := .dict #[] }) :: (H3.objs.size, oK3) :: (s₂.heap.objs.size, LCg.lst ys) :: news') := fun p hp => by
          rcases List.mem_cons.mp hp with rfl | hp
          · exact ⟨heI, Ne.symm hIL, hI₀⟩
          · rcases List.mem_cons.mp hp with rfl | hp
            · have z := N₂ _ (.head _)
              exact ⟨hs₃.extBut _ _ hCK z.1, z.2⟩
            · rcases List.mem_cons.mp hp with rfl | hp
              · exact ⟨heK3, hKL, hK₀⟩
              · have z := N₂ p (.tail _ (.tail _ hp))
                refine ⟨hs₃.extBut _ _ ?_ z.1, z.2⟩
                rcases List.mem_cons.mp hp with rfl | hp
                · exact hDK
                · exact (off' p hp).2.2.1
        refine wpAny_mono (R' v I oI H2.objs.size _ H3.objs.size oK3 s₂.heap.objs.size h₃ _ _ hPv hoK3 F₃ N₃ off' ⟨hCI, hKI, hDI, hCK, Ne.symm hDC, Ne.symm hDK⟩) (fun y s₄ h₄ => ?_) fun _ _ e => e
        obtain ⟨h₄, tk₄, news₄, rfl, F₄, N₄, off₄, R₄⟩ := h₄
        have zI := (N₄ (I, oI) List.mem_cons_self).1
        have zD := (N₄ (s₂.heap.objs.size, LCg.lst ys) (.tail _ (.tail _ (.tail _ (.head _))))).1
        have N₄' : News h₀ L h₄ news₄ := fun p hp => N₄ p (.tail _ (.tail _ (.tail _ (.tail _ hp))))
        have hst₄ : St (i + 1) h₄ := hSt _ _ _ _ hst₃ heI zI
        refine append_at (hsz := by show ys.toArray.size ≤ sizeLine; rw [List.size_toArray, hyl]; exact Nat.le_trans hi hsz) zD fun h₅ hs₅ hD₅ => ?_
        refine ⟨n + 1 - (i + 1), by lia, h₅, tk₄, i + 1, ys ++ [y], oK3, some v, news₄, rfl, hlt, rfl, by rw [List.length_append, List.length_singleton, hyl], W.frame _ _ _ hst₄ fun b hb o e => hs₅.extBut b o (fun q => hDf (q ▸ hb)) e, F₄.change hs₅ hDL hD₀,
          hoK3, fun p hp => ?_, off₄, ?_⟩
        · rcases List.mem_cons.mp hp with rfl | hp
          · have z := N₄ _ (.tail _ (.head _))
            exact ⟨hs₅.extBut _ _ (Ne.symm hDC) z.1, z.2⟩
          · rcases List.mem_cons.mp hp with rfl | hp
            · have z := N₄ _ (.tail _ (.tail _ (.head _)))
              exact ⟨hs₅.extBut _ _ (Ne.symm hDK) z.1, z.2⟩
            · rcases List.mem_cons.mp hp with rfl | hp
              · exact ⟨hD₅.trans (congrArg some (LCg.lst_snoc ys y)), hDL, hD₀⟩
              · exact ⟨hs₅.extBut _ _ (off₄ p hp).2.2.2 (N₄' p hp).1, (N₄' p hp).2⟩
        · rw [show n - (i + 1) = j by lia]
          exact R₄
      · obtain rfl : i = n := Nat.le_antisymm hi (Nat.not_lt.mp hlt)
        rw [Nat.sub_self] at R'
        refine W.done _ _ _ hst' fun h₂ tk₂ hk₂ => ?_
        have N₂ : News h₀ L h₂ ((H2.objs.size, { cls := .type "dict", data := .dict #[] }) :: (H3.objs.size, oK) :: (s₂.heap.objs.size, LCg.lst ys) :: news') := LCg.news_but N' hk₂ fun p hp => by
          rcases List.mem_cons.mp hp with rfl | hp
          · exact Ne.symm hCI
          · rcases List.mem_cons.mp hp with rfl | hp
            · exact Ne.symm hKI
            · rcases List.mem_cons.mp hp with rfl | hp
              · exact Ne.symm hDI
              · exact (off' p hp).1
        exact hRR _ _ h₂ tk₂ _ ys news' (LCg.fr_but F' hk₂ hIL hI₀) (fun p hp => N₂ p (.tail _ (.tail _ hp)))
          (by
            have : ∀ l : List (Addr × Obj), (∀ p ∈ l, p.1 ≠ s₂.heap.objs.size) → LCg.Off1 s₂.heap.objs.size l := by
              intro l
              induction l with
              | nil => intro _; trivial
              | cons q r ih => intro h; exact ⟨h q (.head _), ih fun p hp => h p (.tail _ hp)⟩
            exact this _ fun p hp => (off' p hp).2.2.2)
          (hns (N₂ _ (.head _)).1) hC₀ hD₀ hCL hDL (Ne.symm hDC) (fun p hp => (off' p hp).2.1) R'
    · rcases List.mem_cons.mp hp with rfl | hp
      · exact ⟨hdic, hCL, hC₀⟩
      · rcases List.mem_cons.mp hp with rfl | hp
        · exact ⟨hcel, hKL, hK₀⟩
        · rcases List.mem_cons.mp hp with rfl | hp
          · exact ⟨hacc, hDL, hD₀⟩
          · exact ⟨old _ _ (N p hp).1, (N p hp).2⟩
  exact codeAny_compStart_list (loop _ rfl) (W.self 0 _ _ _ hst₁ (loop _ rfl))
def SrcK (prog : Program) (w : World) (A : Around) (h₀ : Heap) (L : Addr) (m : Str → Option Value) (env : Env) (elt : PySem.Expr) (x : Str) (scope : Scope) (cl : List (Str × Addr)) (Fin : Shared → List Value → List (Addr × Obj) → Prop) (xv : Value) (s₁ : Shared) : Prop :=
  ∃ r n t u v news, xv = .ref r ∧ A.handled = none ∧ Fr h₀ L s₁.heap m ∧ News h₀ L s₁.heap news ∧ IsRange s₁.heap r 0 ((n : Nat) : Int) 1 t u v ∧ n ≤ 1000 ∧
    ∀ s₂ : Shared, (∃ h, s₂ = { s₁ with heap := h }) → CellRest prog w A h₀ L m env elt x scope cl s₂ (fun i v => ∃ t, v = .int (i : Int) t) (Fin s₂) n 0 [] news
theorem Assign_ListComp_K {elt iter : PySem.Expr} {x y : Str} {px py : Pos} {scope : Scope} {cl : List (Str × Addr)} {pos spos : Pos} {Q : Flow → Shared → Prop} (_F₀ : Fr h₀ L s.heap m) (hLe : env.locals = L)
    (hsw : swapsWith (.ListComp elt [⟨.Name x px, iter, [], 0⟩] scope pos) (some (.Name y py)) spos.line env = pure true)
    (hclos : closureFor scope env = pure cl) (hcf : ∀ k acc, cellsFrom k scope.names acc = (x, k) :: acc) (hpc : ∀ h, pushCells h scope.names = h.push { cls := .type "cell", data := .cell none })
    (hkind : scope.kind = .function) (hnames : ∀ z ∈ scope.names, z.2 = .local → scope.names.lookup z.1 = some .local) (hx : (relabel scope env).names.lookup x = some .cell)
    (hy : env.kindOf y = some .local) (hp : (env.scope.kind == .class || (env.scope.kind == .module && env.locals != env.globals)) = false)
    (h : wpAny (model prog w) A (eval iter env) (SrcK prog w A h₀ L m env elt x scope cl (fun s₂ => LCg.FinA h₀ L m s₂ y Q)) E s)
    (hs : ∀ x, foldedSetIterable iter env x = pure x := by intro _; rfl) :
    wpAny (model prog w) A (exec (.Assign [.Name y py] (.ListComp elt [⟨.Name x px, iter, [], 0⟩] scope pos) spos) env) Q E s := by
  subst hLe
  rw [exec_Assign_Name_used _ _ _ _ hsw]
  refine wpAny_bind (wpAny_standAt (wpAny_bind ?_))
  show wpAny _ A (do let _ ← comprehension (.ListComp elt [⟨.Name x px, iter, [], 0⟩] scope pos) scope env _ (newList []) false (eval iter env) (some (assign (.Name y py) env))) _ _ s
  refine wpAny_bind (wpAny_mono (wpAny_comprehension_free (use := some (assign (.Name y py) env)) (Q := fun _ s' => Q .next s') rfl hs hclos hkind hnames
    (wpAny_mono h (fun xv s₁ h₁ => ?_) fun _ _ e => e)) (fun _ s' hq => wpAny_pure (wpAny_pure hq)) fun _ _ e => e)
  refine hideG fun G hG => ?_
  obtain ⟨r, n, t, u, v, news, rfl, hh, F, N, hr, hn, R⟩ := h₁
  have hz : Builtin.Range.rangeSize 0 (n : Int) 1 = ((n : Nat) : Int) := by rw [rangeSize_one]; split <;> lia
  refine hG ?_
  clear hG
  refine wpAny_pyIter_range hr (small_one (by decide) (by decide) (by lia) (by lia)) ?_
  have W0 := Walks.range (prog := prog) (w := w) hh s₁.heap.objs.size 0 1 n
  have W : Walks prog w A s₁.heap.objs.size [s₁.heap.objs.size] [s₁.heap.objs.size] n (fun i v => ∃ t, v = .int ((i : Nat) : Int) t) _ :=
    { sub := W0.sub, frame := W0.frame, done := W0.done, self := W0.self,
      item := fun i s Q E hi st hQ => W0.item i s Q E hi st fun v h' tk hP => hQ v h' tk (by obtain ⟨t, rfl⟩ := hP; exact ⟨t, by rw [Int.mul_one, Int.zero_add]⟩) }
  refine block_K (px := px) (iter := iter) (pos := pos) W (Nat.le_trans hn (by rw [sizeLine_eq]; decide)) (fun i h st => ⟨_, st⟩) (fun i h h' o st e e' => by
      have st' : h.get? s₁.heap.objs.size = some _ := st
      show h'.get? s₁.heap.objs.size = some _
      rw [e', ← e]; exact st') hcf hpc hkind hx (by show IsRangeIter _ _ _ _ _; rw [hz]; simpa using Heap.get?_push_size _ rfl) (fun b hb => ?_)
      (F.keeps fun _ _ e => Heap.get?_push_of_some _ e) (N.grown fun _ _ e => Heap.get?_push_of_some _ e) (Nat.ne_of_lt F.ns.lt) (next_is_new F) (fun p hp => Nat.ne_of_lt (Heap.lt_size (N p hp).1)) (R _ ⟨_, rfl⟩) ?_
  · rw [List.mem_singleton.mp hb]
    show s₁.heap.objs.size < (s₁.heap.push _).objs.size
    rw [Heap.size_push]; exact Nat.lt_succ_self _
  · intro D C h tk m' ys news' F' N' o1 hn hC₀ hD₀ hCL hDL hCD offC fin
    show wpAny _ A (assign (.Name y py) env (.ref D)) _ _ _
    refine wpAny_assign_Name (wpAny_storeName_local hy F'.ns (fun h₂ hn₂ hs₂ => ?_) hp)
    have hL₀ : h₀.get? env.locals = none := Heap.get?_none_of_le F'.above
    have F₂ : Fr h₀ env.locals h₂ (fun z => if z = y then some (.ref D) else m z) := ⟨hn₂, fun b o e => hs₂.extBut b o (fun q => by rw [q, hL₀] at e; cases e) (F'.keep b o e), F'.above⟩
    refine ⟨m', hn.sameBut hs₂ hCL, fun h'' hs'' => fin D h'' _ (F₂.change hs'' hCL hC₀) (fun p hp => ?_) o1⟩
    have z : h₂.get? p.1 = some p.2 := hs₂.extBut _ _ (N' p hp).2.1 (N' p hp).1
    refine ⟨hs''.extBut _ _ ?_ z, (N' p hp).2⟩
    rcases List.mem_cons.mp hp with rfl | hp
    · exact Ne.symm hCD
    · exact offC p hp
end
section
variable {prog : Program} {w : World} {A : Around} {E : Value → Shared → Prop} {s : Shared} {h₀ : Heap} {L : Addr} {m : Str → Option Value} {env : Env}
/-- the turns of a comprehension with a test -/
theorem compt_ind {ct elt : PySem.Expr} {x : Str} {scope : Scope} {cl : List (Str × Addr)} {S : List (Addr × Obj) → Prop} {P : Nat → Value → Prop} {Fin : List Value → List (Addr × Obj) → Prop} {n : Nat}
    (C : Nat → List Value → List (Addr × Obj) → Prop)
    (turn : ∀ i ys news v I oI Cc oC D m₂ h tk (E' : Value → Shared → Prop), i < n → C i ys news → P i v → LCg.NsObj oC m₂ → m₂ x = some v → Fr h₀ L h m → News h₀ L h ((I, oI) :: (Cc, oC) :: (D, LCg.lst ys) :: news) → LCg.Off3 I Cc D news → ((@Ne Nat I Cc) ∧ (@Ne Nat I D) ∧ (@Ne Nat Cc D)) →
      wpAny (model prog w) A (isTrue ct (compEnvC scope cl Cc env) (eval ct (compEnvC scope cl Cc env))) (fun ok s' => if ok = true then
        wpAny (model prog w) A (eval elt (compEnvC scope cl Cc env)) (LCg.CompEnd h₀ L m { s with heap := h, toks := tk } I oI Cc oC D (LCg.lst ys) S (fun y news' => C (i + 1) (ys ++ [y]) news')) E' s'
        else LCg.CompEnd h₀ L m { s with heap := h, toks := tk } I oI Cc oC D (LCg.lst ys) S (fun _ news' => C (i + 1) ys news') Value.none s') E' { s with heap := h, toks := tk })
    (fin : ∀ ys news, C n ys news → Fin ys news) :
    ∀ k i ys news, i + k = n → C i ys news → LCt.CompRestT prog w A h₀ L m env ct elt x scope cl s S P Fin k i ys news := by
  intro k
  induction k with
  | zero => intro i ys news e c; obtain rfl : i = n := by lia
            exact fin _ _ c
  | succ k ih =>
    intro i ys news e c
    intro v I oI Cc oC D m₂ h tk E' hP h1 h2 F N off ne
    refine wpAny_mono (turn i ys news v I oI Cc oC D m₂ h tk E' (by lia) c hP h1 h2 F N off ne) (fun ok s' hok => ?_) fun _ _ e => e
    cases ok with
    | true =>
      simp only [if_true] at hok ⊢
      refine wpAny_mono hok (fun y s₂ hy => ?_) fun _ _ e => e
      obtain ⟨h', tk, news', rfl, F', N', o', hS, r⟩ := hy
      exact ⟨h', tk, news', rfl, F', N', o', hS, ih _ _ _ (by lia) r⟩
    | false =>
      simp only [Bool.false_eq_true, if_false] at hok ⊢
      obtain ⟨h', tk, news', rfl, F', N', o', hS, r⟩ := hok
      exact ⟨h', tk, news', rfl, F', N', o', hS, ih _ _ _ (by lia) r⟩
end
def sg8 (x : Int) : Str := Txt.item (Str.ofString "&<>;la\"'") (x.fmod 8)
def baseS (ns : List Int) : Str := Str.ofString "&lt;<b&" ++ Txt.join (Str.ofString "") (ns.map sg8)
theorem hide_map {h₀ h : Heap} {L : Addr} {m : Str → Option Value} (ps : List (Str × Value)) (F : Fr h₀ L h m) (hk : AllKn m ps) : ∃ u, Fr h₀ L h (lk ps u) := ⟨m, fr_as ps F hk⟩
theorem sg8_len (x : Int) : (sg8 x).length = 1 := by
  have h1 := Int.fmod_nonneg_of_pos x (show (0 : Int) < 8 by decide)
  have h2 := Int.fmod_lt_of_pos x (show (0 : Int) < 8 by decide)
  unfold sg8
  generalize x.fmod 8 = r at h1 h2
  have : r = 0 ∨ r = 1 ∨ r = 2 ∨ r = 3 ∨ r = 4 ∨ r = 5 ∨ r = 6 ∨ r = 7 := by lia
  rcases this with rfl | rfl | rfl | rfl | rfl | rfl | rfl | rfl <;> decide +kernel
theorem join0_len (ys : List Str) : (Txt.join (Str.ofString "") ys).length = (ys.map (·.length)).sum := by
  unfold Txt.join
  rw [StrLaws.glued_eq_join]
  induction ys with
  | nil => rfl
  | cons y r ih =>
    cases r with
    | nil => simp [Str.join]
    | cons z r =>
      show (y ++ Str.ofString "" ++ Str.join (Str.ofString "") (z :: r)).length = _
      have e0 : (Str.ofString "").length = 0 := by decide
      rw [Str.length_append, Str.length_append, ih, e0, Nat.add_zero]
      rfl
theorem sg8_sum (ns : List Int) : ((ns.map sg8).map (·.length)).sum = ns.length := by
  induction ns with
  | nil => rfl
  | cons a r ih => rw [List.map_cons, List.map_cons, List.sum_cons, ih, sg8_len, List.length_cons, Nat.add_comm]
theorem baseS_len (ns : List Int) : (baseS ns).length = 7 + ns.length := by
  unfold baseS
  rw [Str.length_append, join0_len, sg8_sum]
  rfl
section
variable {prog : Program} {w : World} {A : Around} {E : Value → Shared → Prop} {s : Shared} {h₀ : Heap} {L : Addr} {news n₁ n₂ : List (Addr × Obj)}
theorem dat_eq {v u : Value} {d e : Dat} {Q : Value → Shared → Prop} (N : News h₀ L s.heap news) (ha : DatIn n₁ v d) (sa : ∀ p ∈ n₁, p ∈ news) (hb : DatIn n₂ u e) (sb : ∀ p ∈ n₂, p ∈ news)
    (oka : kqdOk 9 d = true) (okb : kqdOk 9 e = true) (hde : d = e) (hu : A.units + 64 < cLine) (h : Q (.bool true) s) : wpAny (model prog w) A (compareOp .Eq v u) Q E s := by
  obtain ⟨as, ra⟩ := kqd_in N 9 (ha.mono sa) oka
  obtain ⟨bs, rb⟩ := kqd_in N 9 (hb.mono sb) okb
  have la := kqd_lay 9 d oka
  have lb := kqd_lay 9 e okb
  have q := (kqd_eqv 9 d e 9 oka okb).mpr hde
  refine eq_dataH ra rb ?_ ?_ hu (by rw [q]; exact h)
  · unfold SeqAt.shaped; rw [la.1, Bool.true_and]; exact decide_eq_true (Nat.le_trans la.2 (by decide))
  · unfold SeqAt.shaped; rw [lb.1, Bool.true_and]; exact decide_eq_true (Nat.le_trans lb.2 (by decide))
end
def numsOf (ns : List Int) : List Int := ns ++ [0, 5, 4, 6, 4, 4]
def spansOf (ns : List Int) : List (Int × Int × Str) := spansTo ((baseS ns).length : Int) (numsOf ns) ((numsOf ns).length / 2)
def dueAt (S : List (Int × Int × Str)) (at_ : Nat) : List Nat := (List.range S.length).filter fun p => decide ((S.getD p (0, 0, Str.empty)).1 ≤ (at_ : Int)) && decide ((at_ : Int) < (S.getD p (0, 0, Str.empty)).2.1)
def labOf (S : List (Int × Int × Str)) (k : Nat) : Str := (S.getD k (0, 0, Str.empty)).2.2
theorem spans_drop {h₀ h : Heap} {L : Addr} {nx : List (Addr × Obj)} {c : Addr} {oc : Obj} {cv : Option Value} (N : News h₀ L h nx) (hc : (c, oc) ∈ nx) (hd : oc.data = .cell cv) : ∀ {vs : List Value} {S : List (Int × Int × Str)}, DatAll nx vs (S.map dsp) → DatAll (nx.filter fun p => decide (p.1 ≠ c)) vs (S.map dsp)
  | _, [], .nil => .nil
  | _, a :: S, .cons h1 h2 => by
    refine .cons ?_ (spans_drop N hc hd h2)
    obtain ⟨ad, t1, t2, t3, n, rfl, hm⟩ := datSp h1
    have hne : ad ≠ c := by
      rintro rfl
      have e := (N _ hc).1
      rw [(N _ hm).1] at e
      have e2 : _ = oc := Option.some.inj e
      rw [← e2] at hd
      cases hd
    exact DatIn.tuple (vs := [_, _, _]) (List.mem_filter.mpr ⟨hm, decide_eq_true hne⟩) (.cons (.int _ _) (.cons (.int _ _) (.cons (.str _ _) .nil)))
theorem ok_str {x : Str} (h : ∀ c ∈ x.cps.toList, c < 1114112) : PyData.strOk x = true := by
  show x.cps.all (· < 0x110000) = true
  exact Array.all_eq_true_iff_forall_mem.mpr fun c hc => decide_eq_true (h c (Array.mem_toList_iff.mpr hc))
theorem ok_pd {lab : Nat → Str} (h : ∀ i, ∀ c ∈ (lab i).cps.toList, c < 1114112) (n k : Nat) : kqdOk (n + 1) (pd lab k) = true := by
  unfold pd
  simp only [kqdOk, List.all_cons, List.all_nil, Bool.and_true, ok_str (h k)]
theorem ok_due {lab : Nat → Str} {b : Str} {due : List (List Nat)} (hb : ∀ c ∈ b.cps.toList, c < 1114112) (h : ∀ i, ∀ c ∈ (lab i).cps.toList, c < 1114112) :
    kqdOk 9 (.tuple [.str b, .list (due.map fun o => Dat.list (o.map (pd lab))), .list []]) = true := by
  have h1 : (due.map fun o => Dat.list (o.map (pd lab))).all (kqdOk 7) = true := by
    refine List.all_eq_true.mpr fun d hd => ?_
    obtain ⟨o, _, rfl⟩ := List.mem_map.mp hd
    show (o.map (pd lab)).all (kqdOk 6) = true
    refine List.all_eq_true.mpr fun d hd => ?_
    obtain ⟨k, _, rfl⟩ := List.mem_map.mp hd
    exact ok_pd h 5 k
  show (kqdOk 8 (.str b) && (kqdOk 8 (.list _) && (kqdOk 8 (.list []) && true))) = true
  rw [show kqdOk 8 (.str b) = true from ok_str hb, show kqdOk 8 (.list (due.map fun o => Dat.list (o.map (pd lab)))) = true from h1]
  rfl
section
open StrLaws Builtin Builtin.Str
abbrev tl (x : Str) : List Nat := x.cps.toList
theorem str_ext {a b : Str} (h : tl a = tl b) : a = b := Str.ext' (Array.toList_inj.mp h)
theorem tl_append (a b : Str) : tl (a ++ b) = tl a ++ tl b := by
  show (a ++ b).cps.toList = _
  rw [Str.cps_append, Array.toList_append]
theorem tl_len (a : Str) : (tl a).length = a.length := by simp [Str.length]
theorem rpS_one (c : Nat) (z : List Nat) : ∀ l : List Nat, rpS [c] z 0 l = l.flatMap fun a => if a = c then z else [a]
  | [] => rfl
  | a :: r => by
    rw [rpS, List.flatMap_cons]
    by_cases h : a = c
    · subst h
      rw [if_pos (by simp [List.isPrefixOf]), if_pos rfl, ← rpS_one a z r]
      rfl
    · rw [if_neg (by simp [List.isPrefixOf]; exact fun e => h e.symm), if_neg h, ← rpS_one c z r]
      rfl
def eC (c : Nat) : List Nat := if c = 38 then [38, 97, 109, 112, 59] else if c = 62 then [38, 103, 116, 59] else if c = 60 then [38, 108, 116, 59] else [c]
theorem escS_list (x : Str) : tl (escS x) = (tl x).flatMap eC := by
  unfold escS
  show (Txt.replace (Txt.replace (Txt.replace x _ _) _ _) _ _).cps.toList = _
  rw [replace_list _ _ _ (by decide), replace_list _ _ _ (by decide), replace_list _ _ _ (by decide)]
  rw [show (Str.ofString "&").cps.toList = [38] from by decide +kernel, show (Str.ofString ">").cps.toList = [62] from by decide +kernel, show (Str.ofString "<").cps.toList = [60] from by decide +kernel,
    show (Str.ofString "&amp;").cps.toList = [38, 97, 109, 112, 59] from by decide +kernel, show (Str.ofString "&gt;").cps.toList = [38, 103, 116, 59] from by decide +kernel, show (Str.ofString "&lt;").cps.toList = [38, 108, 116, 59] from by decide +kernel]
  rw [rpS_one, rpS_one, rpS_one, List.flatMap_assoc, List.flatMap_assoc]
  congr 1
  funext c
  unfold eC
  by_cases h1 : c = 38
  · subst h1; rfl
  · by_cases h2 : c = 62
    · subst h2; rfl
    · by_cases h3 : c = 60
      · subst h3; rfl
      · simp [h1, h2, h3]
def e1 (c : Nat) : List Nat := if c = 38 then [38, 97, 109, 112, 59] else if c = 62 then [38, 103, 116, 59] else [c]
def e2 (c : Nat) : List Nat := if c = 38 then [38, 97, 109, 112, 59] else [c]
theorem un1 (z : List Nat) (hz : z = [60]) : ∀ l : List Nat, rpS [38, 108, 116, 59] z 0 (l.flatMap eC) = l.flatMap e1
  | [] => rfl
  | c :: r => by
    rw [List.flatMap_cons, List.flatMap_cons, ← un1 z hz r]
    unfold eC e1
    by_cases h1 : c = 38
    · subst h1; simp [rpS, List.isPrefixOf]
    · by_cases h2 : c = 62
      · subst h2; simp [rpS, List.isPrefixOf]
      · by_cases h3 : c = 60
        · subst h3; simp [rpS, List.isPrefixOf, hz]
        · simp [rpS, List.isPrefixOf, h1, h2, h3, Ne.symm h1]
theorem un2 : ∀ l : List Nat, rpS [38, 103, 116, 59] [62] 0 (l.flatMap e1) = l.flatMap e2
  | [] => rfl
  | c :: r => by
    rw [List.flatMap_cons, List.flatMap_cons, ← un2 r]
    unfold e1 e2
    by_cases h1 : c = 38
    · subst h1; simp [rpS, List.isPrefixOf]
    · by_cases h2 : c = 62
      · subst h2; simp [rpS, List.isPrefixOf]
      · simp [rpS, List.isPrefixOf, h1, h2, Ne.symm h1]
theorem un3 : ∀ l : List Nat, rpS [38, 97, 109, 112, 59] [38] 0 (l.flatMap e2) = l
  | [] => rfl
  | c :: r => by
    rw [List.flatMap_cons]
    have ih := un3 r
    unfold e2 at ih ⊢
    by_cases h1 : c = 38
    · subst h1; simp [rpS, List.isPrefixOf]; exact ih
    · simp [rpS, List.isPrefixOf, h1, Ne.symm h1]; exact ih
theorem une_esc (x : Str) : uneS (escS x) = x := by
  apply str_ext
  unfold uneS
  show (Txt.replace (Txt.replace (Txt.replace (escS x) _ _) _ _) _ _).cps.toList = _
  rw [replace_list _ _ _ (by decide), replace_list _ _ _ (by decide), replace_list _ _ _ (by decide)]
  rw [show (Str.ofString "&").cps.toList = [38] from by decide +kernel, show (Str.ofString ">").cps.toList = [62] from by decide +kernel, show (Str.ofString "<").cps.toList = [60] from by decide +kernel,
    show (Str.ofString "&amp;").cps.toList = [38, 97, 109, 112, 59] from by decide +kernel, show (Str.ofString "&gt;").cps.toList = [38, 103, 116, 59] from by decide +kernel, show (Str.ofString "&lt;").cps.toList = [38, 108, 116, 59] from by decide +kernel]
  rw [show (escS x).cps.toList = (tl x).flatMap eC from escS_list x, un1 _ rfl, un2, un3]
theorem esc_free {x : Str} {c : Nat} (h : c ∈ tl (escS x)) : c ≠ 60 ∧ c ≠ 62 := by
  rw [escS_list] at h
  obtain ⟨a, _, ha⟩ := List.mem_flatMap.mp h
  unfold eC at ha
  split at ha
  · simp at ha; lia
  · split at ha
    · simp at ha; lia
    · split at ha
      · simp at ha; lia
      · simp at ha; lia
theorem esc_append (a b : Str) : escS (a ++ b) = escS a ++ escS b := by
  apply str_ext
  rw [tl_append, escS_list, escS_list, escS_list, tl_append, List.flatMap_append]
theorem esc_len (x : Str) : (escS x).length ≤ 5 * x.length := by
  rw [← tl_len, ← tl_len, escS_list]
  induction tl x with
  | nil => exact Nat.le_refl _
  | cons c r ih =>
    rw [List.flatMap_cons, List.length_append, List.length_cons]
    have : (eC c).length ≤ 5 := by
      unfold eC
      split
      · decide
      · split
        · decide
        · split <;> simp
    lia
theorem lacks_iff (x : Str) (c : Nat) : lacks x ⟨#[c]⟩ = decide (c ∉ tl x) := by
  have h := found_one x c
  unfold lacks
  cases hb : (Builtin.Str.occurrences x ⟨#[c]⟩ 0 x.length 1).isEmpty with
  | true =>
    rw [hb] at h
    have : c ∉ x.cps.toList := fun hm => by rw [decide_eq_true hm] at h; cases h
    exact (decide_eq_true this).symm
  | false =>
    rw [hb] at h
    have hm : c ∈ x.cps.toList := of_decide_eq_true h.symm
    exact (decide_eq_false (fun hn => hn hm)).symm
theorem lacks_of {x : Str} {c : Nat} {y : Str} (hy : y = ⟨#[c]⟩) (h : c ∉ tl x) : lacks x y = true := by
  subst hy; rw [lacks_iff]; exact decide_eq_true h
/-- a text cut at one sign -/
theorem split_at (a r : Str) (c : Nat) (ha : c ∉ tl a) : Txt.split (a ++ ⟨#[c]⟩ ++ r) ⟨#[c]⟩ = a :: Txt.split r ⟨#[c]⟩ := by
  have e : ∃ p q, Txt.split r ⟨#[c]⟩ = p :: q := by
    unfold Txt.split
    split
    · exact ⟨_, _, rfl⟩
    · split
      · exact ⟨_, _, rfl⟩
      · rw [partsBetween_eq]; exact partsFrom_ne ..
  have hj := join_split r ⟨#[c]⟩
  have hf := split_free r c
  obtain ⟨p, q, e⟩ := e
  rw [e] at hj hf ⊢
  have := split_is c (a :: p :: q) (by simp) (fun x hx => by
    rcases List.mem_cons.mp hx with rfl | hx
    · exact ha
    · exact hf x hx)
  rw [show Str.join ⟨#[c]⟩ (a :: p :: q) = a ++ ⟨#[c]⟩ ++ Str.join ⟨#[c]⟩ (p :: q) from rfl, hj] at this
  exact this
theorem split_none (a : Str) (c : Nat) (ha : c ∉ tl a) : Txt.split a ⟨#[c]⟩ = [a] := by
  have := split_is c [a] (by simp) (fun x hx => by rw [List.mem_singleton.mp hx]; exact ha)
  exact this
end
section
open StrLaws Builtin Builtin.Str
theorem part_at (a r : Str) (c : Nat) (ha : c ∉ tl a) : Txt.partition (a ++ ⟨#[c]⟩ ++ r) ⟨#[c]⟩ = (a, ⟨#[c]⟩, r) := by
  have hx : tl (a ++ ⟨#[c]⟩ ++ r) = tl a ++ c :: tl r := by
    rw [tl_append, tl_append]; show tl a ++ [c] ++ tl r = _; rw [List.append_assoc]; rfl
  have hat : At (a ++ ⟨#[c]⟩ ++ r) ⟨#[c]⟩ (a ++ ⟨#[c]⟩ ++ r).length a.length := by
    refine (subAt_one _ c _).mpr ?_
    show (tl (a ++ ⟨#[c]⟩ ++ r))[a.length]? = some c
    rw [hx, ← tl_len, List.getElem?_append_right (Nat.le_refl _), Nat.sub_self]; rfl
  rcases occ_head (a ++ ⟨#[c]⟩ ++ r) ⟨#[c]⟩ 1 (Nat.le_refl 1) with ⟨_, hn⟩ | ⟨i, q, e, hi, hn⟩
  · exact absurd hat (hn _)
  · have hge : i ≤ a.length := Nat.le_of_not_lt fun h => hn _ h hat
    have hle : a.length ≤ i := by
      apply Nat.le_of_not_lt
      intro h
      have h2 := (subAt_one _ c _).mp hi
      change (tl (a ++ ⟨#[c]⟩ ++ r))[i]? = some c at h2
      rw [hx, List.getElem?_append_left (by rw [tl_len]; exact h)] at h2
      exact ha (List.mem_of_getElem? h2)
    obtain rfl : i = a.length := Nat.le_antisymm hge hle
    unfold Txt.partition
    rw [e]
    show (strSub _ 0 a.length, (⟨#[c]⟩ : Str), strSub _ (a.length + 1) _) = _
    have e1 : strSub (a ++ ⟨#[c]⟩ ++ r) 0 a.length = a := by
      apply str_ext
      show (strSub _ _ _).cps.toList = _
      rw [strSub_toList]
      show ((tl (a ++ ⟨#[c]⟩ ++ r)).drop 0).take (a.length - 0) = _
      rw [hx, List.drop_zero, Nat.sub_zero, ← tl_len, List.take_left]
    have e2 : strSub (a ++ ⟨#[c]⟩ ++ r) (a.length + 1) (a ++ ⟨#[c]⟩ ++ r).length = r := by
      apply str_ext
      show (strSub _ _ _).cps.toList = _
      rw [strSub_toList]
      show ((tl (a ++ ⟨#[c]⟩ ++ r)).drop (a.length + 1)).take _ = _
      rw [hx, List.drop_append, List.drop_of_length_le (l := tl a) (by rw [tl_len]; exact Nat.le_succ _), show a.length + 1 - (tl a).length = 1 by rw [tl_len]; lia]
      show ([] ++ tl r).take _ = _
      rw [List.nil_append, List.take_of_length_le]
      rw [← tl_len, ← tl_len, hx, List.length_append, List.length_cons]; lia
    rw [e1, e2]
def qMidL (l : List Nat) : List Nat := rpS [9] [38, 35, 57, 59] 0 (rpS [13] [38, 35, 49, 51, 59] 0 (rpS [10] [38, 35, 49, 48, 59] 0 (l.flatMap eC)))
def quoL (l : List Nat) : List Nat :=
  if 34 ∉ qMidL l then [34] ++ qMidL l ++ [34] else if 39 ∉ qMidL l then [39] ++ qMidL l ++ [39] else [34] ++ rpS [34] [38, 113, 117, 111, 116, 59] 0 (qMidL l) ++ [34]
def unqL (q : List Nat) : List Nat := rpS [38, 97, 109, 112, 59] [38] 0 (rpS [38, 35, 49, 48, 59] [10] 0 (rpS [38, 113, 117, 111, 116, 59] [34] 0 (rpS [38, 103, 116, 59] [62] 0 (rpS [38, 108, 116, 59] [60] 0 q))))
def chkLab (l : List Nat) : Bool := Nat.ble l.length 10 && Nat.ble (l.flatMap eC).length 250 && Nat.ble (qMidL l).length 1000 && Nat.ble 2 (quoL l).length && Nat.ble (quoL l).length 30 && !(quoL l).contains 60 && !(quoL l).contains 62 && !(quoL l).contains 10 &&
  (unqL (((quoL l).drop 1).take ((quoL l).length - 2)) == l) && l.all (Nat.blt · 1114112)
theorem qMid_list (x : Str) : tl (qMid x) = qMidL (tl x) := by
  unfold qMid
  show (Txt.replace (Txt.replace (Txt.replace (escS x) _ _) _ _) _ _).cps.toList = _
  rw [replace_list _ _ _ (by decide), replace_list _ _ _ (by decide), replace_list _ _ _ (by decide)]
  rw [show (escS x).cps.toList = (tl x).flatMap eC from escS_list x]
  rw [show (Str.ofString "\n").cps.toList = [10] from by decide +kernel, show (Str.ofString "\r").cps.toList = [13] from by decide +kernel, show (Str.ofString "\t").cps.toList = [9] from by decide +kernel,
    show (Str.ofString "&#10;").cps.toList = [38, 35, 49, 48, 59] from by decide +kernel, show (Str.ofString "&#13;").cps.toList = [38, 35, 49, 51, 59] from by decide +kernel, show (Str.ofString "&#9;").cps.toList = [38, 35, 57, 59] from by decide +kernel]
  rfl
theorem quoS_list (x : Str) : tl (quoS x) = quoL (tl x) := by
  have q1 : Str.ofString "\"" = ⟨#[34]⟩ := by decide +kernel
  have q2 : Str.ofString "'" = ⟨#[39]⟩ := by decide +kernel
  have q3 : (Str.ofString "&quot;").cps.toList = [38, 113, 117, 111, 116, 59] := by decide +kernel
  unfold quoS quoL
  rw [q1, q2, lacks_iff, lacks_iff, qMid_list]
  by_cases h1 : 34 ∉ qMidL (tl x)
  · rw [if_pos (decide_eq_true h1), if_pos h1, tl_append, tl_append, qMid_list]
  · rw [if_neg (by rw [decide_eq_true_iff]; exact h1), if_neg h1]
    by_cases h2 : 39 ∉ qMidL (tl x)
    · rw [if_pos (decide_eq_true h2), if_pos h2, tl_append, tl_append, qMid_list]
    · rw [if_neg (by rw [decide_eq_true_iff]; exact h2), if_neg h2, tl_append, tl_append]
      rw [show tl (Txt.replace (qMid x) ⟨#[34]⟩ (Str.ofString "&quot;")) = rpS [34] [38, 113, 117, 111, 116, 59] 0 (qMidL (tl x)) from by
        show (Txt.replace _ _ _).cps.toList = _
        rw [replace_list _ _ _ (by decide), q3, show (qMid x).cps.toList = qMidL (tl x) from qMid_list x]]
theorem unq_list (q : Str) : tl (unq q) = unqL (tl q) := by
  unfold unq
  show (Txt.replace (Txt.replace (Txt.replace (Txt.replace (Txt.replace q _ _) _ _) _ _) _ _) _ _).cps.toList = _
  rw [replace_list _ _ _ (by decide), replace_list _ _ _ (by decide), replace_list _ _ _ (by decide), replace_list _ _ _ (by decide), replace_list _ _ _ (by decide)]
  rw [show (Str.ofString "&").cps.toList = [38] from by decide +kernel, show (Str.ofString ">").cps.toList = [62] from by decide +kernel, show (Str.ofString "<").cps.toList = [60] from by decide +kernel,
    show (Str.ofString "&amp;").cps.toList = [38, 97, 109, 112, 59] from by decide +kernel, show (Str.ofString "&gt;").cps.toList = [38, 103, 116, 59] from by decide +kernel, show (Str.ofString "&lt;").cps.toList = [38, 108, 116, 59] from by decide +kernel,
    show (Str.ofString "\"").cps.toList = [34] from by decide +kernel, show (Str.ofString "\n").cps.toList = [10] from by decide +kernel, show (Str.ofString "&quot;").cps.toList = [38, 113, 117, 111, 116, 59] from by decide +kernel, show (Str.ofString "&#10;").cps.toList = [38, 35, 49, 48, 59] from by decide +kernel]
  rfl
structure LabOk (x : Str) : Prop where
  q : QOk x
  len : (tl x).length ≤ 10
  q2 : 2 ≤ (quoL (tl x)).length
  q30 : (quoL (tl x)).length ≤ 30
  n60 : 60 ∉ quoL (tl x)
  n62 : 62 ∉ quoL (tl x)
  n10 : 10 ∉ quoL (tl x)
  back : unqL (((quoL (tl x)).drop 1).take ((quoL (tl x)).length - 2)) = tl x
  code : ∀ c ∈ tl x, c < 1114112
theorem labOk_of {x : Str} (h : chkLab (tl x) = true) : LabOk x := by
  simp only [chkLab, Bool.and_eq_true, Nat.ble_eq, Bool.not_eq_true', beq_iff_eq, List.all_eq_true, Nat.blt_eq] at h
  obtain ⟨⟨⟨⟨⟨⟨⟨⟨⟨h1, h2⟩, h3⟩, h4⟩, h5⟩, h6⟩, h7⟩, h8⟩, h9⟩, h10⟩ := h
  refine ⟨⟨by rw [← tl_len]; exact h1, by rw [← tl_len, escS_list]; exact h2, by rw [← tl_len, qMid_list]; exact h3⟩, h1, h4, h5, ?_, ?_, ?_, h9, h10⟩
  · intro hm; rw [List.contains_iff_mem.mpr hm] at h6; cases h6
  · intro hm; rw [List.contains_iff_mem.mpr hm] at h7; cases h7
  · intro hm; rw [List.contains_iff_mem.mpr hm] at h8; cases h8
/-- what stands between < and > of an opening tag -/
def bodyS (k : Nat) (l : Str) : Str := ⟨([115, 32, 110, 61, 34, 48 + k, 34, 32, 108, 61] ++ quoL (tl l)).toArray⟩
theorem tl_body (k : Nat) (l : Str) : tl (bodyS k l) = [115, 32, 110, 61, 34, 48 + k, 34, 32, 108, 61] ++ quoL (tl l) := List.toList_toArray
theorem tagS_eq {k : Nat} (hk : k < 6) (l : Str) : tagS k l = ⟨#[60]⟩ ++ bodyS k l ++ ⟨#[62]⟩ := by
  have hq : tl (quoS (Str.ofString (toString (k : Int)))) = [34, 48 + k, 34] := by
    rw [quoS_list]
    match k, hk with
    | 0, _ | 1, _ | 2, _ | 3, _ | 4, _ | 5, _ => decide +kernel
  apply str_ext
  unfold tagS
  rw [tl_append, tl_append, tl_append, tl_append, tl_append, tl_append, hq, tl_body, quoS_list]
  rw [show tl (Str.ofString "<s n=") = [60, 115, 32, 110, 61] from by decide +kernel, show tl (Str.ofString " l=") = [32, 108, 61] from by decide +kernel, show tl (Str.ofString ">") = [62] from by decide +kernel]
  show _ = [60] ++ ([115, 32, 110, 61, 34, 48 + k, 34, 32, 108, 61] ++ quoL (tl l)) ++ [62]
  simp
theorem body_free {k : Nat} (hk : k < 6) {l : Str} (h : LabOk l) : 60 ∉ tl (bodyS k l) ∧ 62 ∉ tl (bodyS k l) ∧ 10 ∉ tl (bodyS k l) := by
  rw [tl_body]
  have h1 := h.n60
  have h2 := h.n62
  have h3 := h.n10
  refine ⟨?_, ?_, ?_⟩
  all_goals
    intro hm
    rcases List.mem_append.mp hm with hm | hm
    · simp only [List.mem_cons, List.not_mem_nil, or_false] at hm
      lia
    · first | exact h1 hm | exact h2 hm | exact h3 hm
theorem tag_ok {k : Nat} (hk : k < 6) {l : Str} (h : LabOk l) : TagOk (bodyS k l) k l := by
  have hlen : (bodyS k l).length = 10 + (quoL (tl l)).length := by rw [← tl_len, tl_body, List.length_append]; rfl
  have h30 := h.q30
  have h2 := h.q2
  have e32 : (Str.ofString " l=").cps.toList = [32, 108, 61] := by decide +kernel
  have e3 : (Str.ofString " l=").length = 3 := by decide +kernel
  have q1 : Str.ofString "\"" = ⟨#[34]⟩ := by decide +kernel
  refine ⟨by lia, ?_, ?_, ?_⟩
  · have at7 : At (bodyS k l) (Str.ofString " l=") (bodyS k l).length 7 := by
      refine ⟨by lia, ?_⟩
      rw [subAt_eq, e32, e3]
      show (((tl (bodyS k l)).drop 7).take 3 == _) = true
      rw [tl_body]; rfl
    rcases find_whole (bodyS k l) (Str.ofString " l=") with ⟨_, hn⟩ | ⟨i, e, hi, hn⟩
    · exact absurd at7 (hn _)
    · have hle : i ≤ 7 := Nat.le_of_not_lt fun hh => hn _ hh at7
      have hs := hi.2
      rw [subAt_eq, e32, e3] at hs
      change (((tl (bodyS k l)).drop i).take 3 == _) = true at hs
      rw [tl_body] at hs
      rw [e]
      have : i = 0 ∨ i = 1 ∨ i = 2 ∨ i = 3 ∨ i = 4 ∨ i = 5 ∨ i = 6 ∨ i = 7 := by lia
      rcases this with rfl | rfl | rfl | rfl | rfl | rfl | rfl | rfl
      · simp at hs
      · simp at hs
      · simp at hs
      · simp at hs
      · simp at hs
      · simp at hs
      · simp at hs
      · rfl
  · rw [q1]
    refine ⟨⟨#[115, 32, 110, 61]⟩, ⟨#[48 + k]⟩, Txt.split ⟨([32, 108, 61] ++ quoL (tl l)).toArray⟩ ⟨#[34]⟩, ?_, ?_, by show 1 ≤ 640; decide⟩
    · have e : bodyS k l = ⟨#[115, 32, 110, 61]⟩ ++ ⟨#[34]⟩ ++ (⟨#[48 + k]⟩ ++ ⟨#[34]⟩ ++ ⟨([32, 108, 61] ++ quoL (tl l)).toArray⟩) := by
        apply str_ext
        rw [tl_body, tl_append, tl_append, tl_append, tl_append]
        rfl
      rw [e, split_at _ _ 34 (by decide), split_at _ _ 34 (by show 34 ∉ [48 + k]; simp; lia)]
    · match k, hk with
      | 0, _ | 1, _ | 2, _ | 3, _ | 4, _ | 5, _ => decide +kernel
  · have es : Txt.slice (bodyS k l) (some 11) (some (-1)) = ⟨(((quoL (tl l)).drop 1).take ((quoL (tl l)).length - 2)).toArray⟩ := by
      show sliceText _ _ _ = _
      rw [sliceText_neg_hi _ _ (by decide) (by lia)]
      have hi : (-1 : Int) + ((bodyS k l).length : Int) = (((bodyS k l).length - 1 : Nat) : Int) := by lia
      rw [hi]
      have := sliceText_nat (bodyS k l) (a := 11) (b := (bodyS k l).length - 1) (by lia) (by lia)
      rw [show ((11 : Nat) : Int) = 11 from rfl] at this
      rw [this]
      apply str_ext
      show ((tl (bodyS k l)).drop 11).take ((bodyS k l).length - 1 - 11) = ((quoL (tl l)).drop 1).take _
      rw [tl_body, hlen]
      show ((quoL (tl l)).drop 1).take _ = _
      congr 1
      lia
    rw [es]
    refine ⟨?_, ?_⟩
    · show (List.toArray _).size ≤ 50
      rw [List.size_toArray, List.length_take]; lia
    · apply str_ext
      rw [unq_list]
      exact h.back
/-- the labels of the numbers from 0 to 99 -/
def labV (v : Nat) : Str := Txt.join (Str.ofString "") (((Str.ofString (toString (v : Int))).cps.toList).map fun c => pieceS (c - 48))
theorem labs_all : (List.range 100).all (fun v => chkLab (tl (labV v))) = true := by decide +kernel
theorem labS_ok (n : Int) : LabOk (labS n) := by
  have h0 : 0 ≤ (if n < 0 then -n else n).fmod 100 := Int.fmod_nonneg_of_pos _ (by decide)
  have h1 : (if n < 0 then -n else n).fmod 100 < 100 := Int.fmod_lt_of_pos _ (by decide)
  have e : labS n = labV ((if n < 0 then -n else n).fmod 100).toNat := by
    unfold labS labV figs
    rw [Int.toNat_of_nonneg h0]
  rw [e]
  exact labOk_of (List.all_eq_true.mp labs_all _ (List.mem_range.mpr (by lia)))
end
section
open StrLaws Builtin Builtin.Str
inductive Tk where
  | t (y : Str)
  | g (o : Option Nat)
def rtk (lab : Nat → Str) : Tk → Str
  | .t y => escS y
  | .g (some k) => tagS k (lab k)
  | .g none => Str.ofString "</s>"
def rend (lab : Nat → Str) : List Tk → Str
  | [] => Str.empty
  | a :: r => rtk lab a ++ rend lab r
theorem rend_append (lab : Nat → Str) : ∀ a b : List Tk, rend lab (a ++ b) = rend lab a ++ rend lab b
  | [], b => (Str.empty_append _).symm
  | x :: a, b => by
    show rtk lab x ++ rend lab (a ++ b) = rtk lab x ++ rend lab a ++ rend lab b
    rw [rend_append lab a b, Str.append_assoc]
/-- a plain reader, sign by sign -/
def TR : List Tk → Str × List (List Nat) × List Nat → Str × List (List Nat) × List Nat → Prop
  | [], st, out => out = st
  | .t y :: r, st, out => (st.1 ++ y).length ≤ 100 ∧ st.2.1.length ≤ 100 ∧ TR r (st.1 ++ y, st.2.1 ++ List.replicate y.length (asc6 st.2.2), st.2.2) out
  | .g (some k) :: r, st, out => k < 6 ∧ (st.2.2 ++ [k]).Nodup ∧ (∀ a ∈ st.2.2 ++ [k], a < 6) ∧ st.2.2.length ≤ 10 ∧ st.2.1.length ≤ 100 ∧ TR r (st.1, st.2.1, st.2.2 ++ [k]) out
  | .g none :: r, st, out => st.2.2.dropLast.Nodup ∧ (∀ a ∈ st.2.2.dropLast, a < 6) ∧ st.2.2.length ≤ 10 ∧ st.2.1.length ≤ 100 ∧ TR r (st.1, st.2.1, st.2.2.dropLast) out
theorem TR_append : ∀ (a b : List Tk) (st mid out : Str × List (List Nat) × List Nat), TR a st mid → TR b mid out → TR (a ++ b) st out
  | [], b, st, mid, out, h1, h2 => by
    obtain rfl : mid = st := h1
    exact h2
  | .t y :: r, b, st, mid, out, ⟨h1, h2, h3⟩, h => ⟨h1, h2, TR_append r b _ mid out h3 h⟩
  | .g (some k) :: r, b, st, mid, out, ⟨h1, h2, h3, h4, h5, h6⟩, h => ⟨h1, h2, h3, h4, h5, TR_append r b _ mid out h6 h⟩
  | .g none :: r, b, st, mid, out, ⟨h2, h3, h4, h5, h6⟩, h => ⟨h2, h3, h4, h5, TR_append r b _ mid out h6 h⟩
def grp : List Tk → Str × List (Option Nat × Str)
  | [] => (Str.empty, [])
  | .t y :: r => (y ++ (grp r).1, (grp r).2)
  | .g o :: r => (Str.empty, (o, (grp r).1) :: (grp r).2)
def segP (lab : Nat → Str) : Option Nat × Str → Str
  | (some k, t) => bodyS k (lab k) ++ ⟨#[62]⟩ ++ escS t
  | (none, t) => ⟨#[47, 115]⟩ ++ ⟨#[62]⟩ ++ escS t
def TagsLt : List Tk → Prop
  | [] => True
  | .t _ :: r => TagsLt r
  | .g (some k) :: r => k < 6 ∧ TagsLt r
  | .g none :: r => TagsLt r
theorem TR_tags : ∀ (a : List Tk) (st out : Str × List (List Nat) × List Nat), TR a st out → TagsLt a
  | [], _, _, _ => trivial
  | .t _ :: r, _, _, ⟨_, _, h⟩ => TR_tags r _ _ h
  | .g (some _) :: r, _, _, ⟨h1, _, _, _, _, h⟩ => ⟨h1, TR_tags r _ _ h⟩
  | .g none :: r, _, _, ⟨_, _, _, _, h⟩ => TR_tags r _ _ h
theorem esc_empty : escS Str.empty = Str.empty := by
  apply str_ext; rw [escS_list]; rfl
theorem join_pre (sep a p : Str) (r : List Str) : Str.join sep ((a ++ p) :: r) = a ++ Str.join sep (p :: r) := by
  cases r with
  | nil => rfl
  | cons q r =>
    show a ++ p ++ sep ++ Str.join sep (q :: r) = a ++ (p ++ sep ++ Str.join sep (q :: r))
    simp only [Str.append_assoc]
theorem rend_grp (lab : Nat → Str) : ∀ (a : List Tk), TagsLt a → rend lab a = Str.join ⟨#[60]⟩ (escS (grp a).1 :: (grp a).2.map (segP lab))
  | [], _ => by
    show Str.empty = escS Str.empty
    rw [esc_empty]
  | .t y :: r, h => by
    show escS y ++ rend lab r = Str.join ⟨#[60]⟩ (escS (y ++ (grp r).1) :: _)
    rw [rend_grp lab r h, esc_append, join_pre]; rfl
  | .g (some k) :: r, ⟨hk, h⟩ => by
    show tagS k (lab k) ++ rend lab r = escS Str.empty ++ ⟨#[60]⟩ ++ Str.join ⟨#[60]⟩ ((bodyS k (lab k) ++ ⟨#[62]⟩ ++ escS (grp r).1) :: (grp r).2.map (segP lab))
    rw [rend_grp lab r h, esc_empty, Str.empty_append, join_pre, tagS_eq hk]
    simp only [Str.append_assoc]
  | .g none :: r, h => by
    have e : Str.ofString "</s>" = ⟨#[60]⟩ ++ (⟨#[47, 115]⟩ ++ ⟨#[62]⟩) := by decide +kernel
    show Str.ofString "</s>" ++ rend lab r = escS Str.empty ++ ⟨#[60]⟩ ++ Str.join ⟨#[60]⟩ ((⟨#[47, 115]⟩ ++ ⟨#[62]⟩ ++ escS (grp r).1) :: (grp r).2.map (segP lab))
    rw [rend_grp lab r h, esc_empty, Str.empty_append, join_pre, e]
    simp only [Str.append_assoc]
theorem seg_free {lab : Nat → Str} (hlab : ∀ k, k < 6 → LabOk (lab k)) : ∀ (a : List Tk), TagsLt a → ∀ p ∈ (grp a).2.map (segP lab), 60 ∉ tl p
  | [], _, p, hp => by cases hp
  | .t _ :: r, h, p, hp => seg_free hlab r h p hp
  | .g o :: r, h, p, hp => by
    have hr : TagsLt r := by
      cases o with
      | none => exact h
      | some k => exact h.2
    rcases List.mem_cons.mp hp with rfl | hp
    · cases o with
      | none =>
        show 60 ∉ tl (⟨#[47, 115]⟩ ++ ⟨#[62]⟩ ++ escS _)
        rw [tl_append, tl_append]
        intro hm
        rcases List.mem_append.mp hm with hm | hm
        · revert hm; show ¬ 60 ∈ [47, 115] ++ [62]; decide
        · exact (esc_free hm).1 rfl
      | some k =>
        show 60 ∉ tl (bodyS k (lab k) ++ ⟨#[62]⟩ ++ escS _)
        rw [tl_append, tl_append]
        intro hm
        rcases List.mem_append.mp hm with hm | hm
        · rcases List.mem_append.mp hm with hm | hm
          · exact (body_free h.1 (hlab k h.1)).1 hm
          · revert hm; show ¬ 60 ∈ [62]; decide
        · exact (esc_free hm).1 rfl
    · exact seg_free hlab r hr p hp
theorem rend_split {lab : Nat → Str} (hlab : ∀ k, k < 6 → LabOk (lab k)) {a : List Tk} (h : TagsLt a) : Txt.split (rend lab a) (Str.ofString "<") = escS (grp a).1 :: (grp a).2.map (segP lab) := by
  rw [show Str.ofString "<" = ⟨#[60]⟩ from by decide +kernel, rend_grp lab a h]
  refine split_is 60 _ (by simp) fun p hp => ?_
  rcases List.mem_cons.mp hp with rfl | hp
  · exact fun hm => (esc_free hm).1 rfl
  · exact seg_free hlab a h p hp
theorem TR_len : ∀ (a : List Tk) (st out : Str × List (List Nat) × List Nat), TR a st out → st.1.length ≤ 100 → st.1.length + (grp a).1.length ≤ 100
  | [], _, _, _, h => h
  | .t y :: r, st, out, ⟨h1, _, h3⟩, _ => by
    have ih := TR_len r _ out h3 h1
    show st.1.length + (y ++ (grp r).1).length ≤ 100
    rw [Str.length_append] at ih ⊢
    lia
  | .g _ :: _, _, _, _, h => h
theorem TR_rd {lab : Nat → Str} (hlab : ∀ k, k < 6 → LabOk (lab k)) : ∀ (a : List Tk) (st out : Str × List (List Nat) × List Nat), st.1.length ≤ 100 → TR a st out →
    RdRuns lab ((grp a).2.map (segP lab)) (st.1 ++ (grp a).1) (st.2.1 ++ List.replicate (grp a).1.length (asc6 st.2.2)) st.2.2 out
  | [], st, out, _, h => by
    obtain rfl : out = st := h
    show _ = _
    show out = (out.1 ++ Str.empty, out.2.1 ++ List.replicate 0 _, out.2.2)
    rw [Str.append_empty, List.replicate_zero, List.append_nil]
  | .t y :: r, st, out, _, ⟨h1, h2, h3⟩ => by
    have ih := TR_rd hlab r _ out h1 h3
    show RdRuns lab ((grp r).2.map (segP lab)) (st.1 ++ (y ++ (grp r).1)) (st.2.1 ++ List.replicate (y ++ (grp r).1).length (asc6 st.2.2)) st.2.2 out
    rw [Str.length_append, ← List.replicate_append_replicate, ← List.append_assoc, ← Str.append_assoc]
    exact ih
  | .g (some k) :: r, st, out, hl, ⟨h1, h2, h3, h4, h5, h6⟩ => by
    have ih := TR_rd hlab r (st.1, st.2.1, st.2.2 ++ [k]) out hl h6
    have hg := TR_len r (st.1, st.2.1, st.2.2 ++ [k]) out h6 hl
    have hf := body_free h1 (hlab k h1)
    have ht := tag_ok h1 (hlab k h1)
    have hle := esc_len (grp r).1
    have hbl : (bodyS k (lab k)).length ≤ 40 := by
      have := (hlab k h1).q30
      rw [← tl_len, tl_body, List.length_append]
      show 10 + _ ≤ 40
      lia
    dsimp only at hg
    show RdRuns lab ((bodyS k (lab k) ++ ⟨#[62]⟩ ++ escS (grp r).1) :: (grp r).2.map (segP lab)) (st.1 ++ Str.empty) (st.2.1 ++ List.replicate 0 (asc6 st.2.2)) st.2.2 out
    rw [Str.append_empty, List.replicate_zero, List.append_nil]
    refine ⟨bodyS k (lab k), escS (grp r).1, st.2.2 ++ [k], ?_, ?_, by lia, by lia, by rw [une_esc]; lia, by lia, by lia, ?_, ?_, h2, h3, .inr ⟨?_, k, rfl, ht⟩, ?_⟩
    · rw [show Str.ofString ">" = ⟨#[62]⟩ from by decide +kernel, part_at _ _ 62 hf.2.1]
    · rw [Str.length_append, Str.length_append]
      have : (⟨#[62]⟩ : Str).length = 1 := rfl
      lia
    · exact lacks_of (c := 62) (by decide +kernel) fun hm => (esc_free hm).2 rfl
    · exact lacks_of (c := 10) (by decide +kernel) hf.2.2
    · intro e
      have e2 := congrArg tl e
      rw [tl_body, show tl (Str.ofString "/s") = [47, 115] from by decide +kernel] at e2
      simp at e2
    · rw [une_esc]
      exact ih
  | .g none :: r, st, out, hl, ⟨h2, h3, h4, h5, h6⟩ => by
    have ih := TR_rd hlab r (st.1, st.2.1, st.2.2.dropLast) out hl h6
    have hg := TR_len r (st.1, st.2.1, st.2.2.dropLast) out h6 hl
    have hle := esc_len (grp r).1
    dsimp only at hg
    show RdRuns lab ((⟨#[47, 115]⟩ ++ ⟨#[62]⟩ ++ escS (grp r).1) :: (grp r).2.map (segP lab)) (st.1 ++ Str.empty) (st.2.1 ++ List.replicate 0 (asc6 st.2.2)) st.2.2 out
    rw [Str.append_empty, List.replicate_zero, List.append_nil]
    refine ⟨⟨#[47, 115]⟩, escS (grp r).1, st.2.2.dropLast, ?_, ?_, by lia, by lia, by rw [une_esc]; lia, by lia, by lia, ?_, ?_, h2, h3, .inl ⟨by decide +kernel, rfl⟩, ?_⟩
    · rw [show Str.ofString ">" = ⟨#[62]⟩ from by decide +kernel, part_at _ _ 62 (by show ¬ 62 ∈ [47, 115]; decide)]
    · rw [Str.length_append, Str.length_append]
      have : (⟨#[62]⟩ : Str).length = 1 := rfl
      have : (⟨#[47, 115]⟩ : Str).length = 2 := rfl
      lia
    · exact lacks_of (c := 62) (by decide +kernel) fun hm => (esc_free hm).2 rfl
    · exact lacks_of (c := 10) (by decide +kernel) (by show ¬ 10 ∈ [47, 115]; decide)
    · rw [une_esc]
      exact ih
end
section
def lt3_iff (a b : T3) : lt3 a b = true ↔ (a.1 < b.1 ∨ (a.1 = b.1 ∧ (a.2.1 < b.2.1 ∨ (a.2.1 = b.2.1 ∧ a.2.2 < b.2.2)))) := by
  unfold lt3
  by_cases h1 : a.1 = b.1
  · rw [if_pos h1]
    by_cases h2 : a.2.1 = b.2.1
    · rw [if_pos h2, decide_eq_true_iff]; lia
    · rw [if_neg h2, decide_eq_true_iff]; lia
  · rw [if_neg h1, decide_eq_true_iff]; lia
/-- not greater -/
def le3 (a b : T3) : Prop := a.1 < b.1 ∨ (a.1 = b.1 ∧ (a.2.1 < b.2.1 ∨ (a.2.1 = b.2.1 ∧ a.2.2 ≤ b.2.2)))
theorem le3_of_not {a b : T3} (h : ¬ lt3 b a = true) : le3 a b := by
  rw [lt3_iff] at h; unfold le3; lia
theorem le3_of_lt {a b : T3} (h : lt3 a b = true) : le3 a b := by
  rw [lt3_iff] at h; unfold le3; lia
theorem le3_refl (a : T3) : le3 a a := by unfold le3; lia
theorem le3_trans {a b c : T3} (h1 : le3 a b) (h2 : le3 b c) : le3 a c := by unfold le3 at *; lia
/-- the item at a place -/
abbrev gt (xs : List T3) (i : Nat) : T3 := xs.getD i (0, 0, 0)
theorem gt_set_self {xs : List T3} {i : Nat} {a : T3} (h : i < xs.length) : gt (xs.set i a) i = a := by
  unfold gt; rw [List.getD_eq_getElem?_getD, List.getElem?_set_self h]; rfl
theorem gt_set_ne {xs : List T3} {i j : Nat} {a : T3} (h : i ≠ j) : gt (xs.set i a) j = gt xs j := by
  unfold gt; rw [List.getD_eq_getElem?_getD, List.getElem?_set_ne h, List.getD_eq_getElem?_getD]
def Heapy (xs : List T3) : Prop := ∀ i, 0 < i → i < xs.length → le3 (gt xs ((i - 1) / 2)) (gt xs i)
theorem heapy_least {xs : List T3} (h : Heapy xs) : ∀ i, i < xs.length → le3 (gt xs 0) (gt xs i) := by
  intro i
  induction i using Nat.strongRecOn with
  | ind i ih =>
    intro hi
    by_cases h0 : i = 0
    · subst h0; exact le3_refl _
    · exact le3_trans (ih ((i - 1) / 2) (by lia) (by lia)) (h i (by lia) hi)
theorem heapy_le {xs : List T3} (h : Heapy xs) {t : T3} (ht : t ∈ xs) : le3 (gt xs 0) t := by
  obtain ⟨i, hi, e⟩ := List.getElem_of_mem ht
  have := heapy_least h i hi
  unfold gt at this
  rw [List.getD_eq_getElem?_getD (i := i), List.getElem?_eq_getElem hi, Option.getD_some, e] at this
  exact this
/-- two stores, the second where the first took from -/
theorem set_swap {xs : List T3} {i j : Nat} {x : T3} (hi : i < xs.length) (hj : j < xs.length) (hne : i ≠ j) : ((xs.set i (gt xs j)).set j x).Perm (xs.set i x) := by
  rw [List.perm_iff_count]
  intro a
  have e1 : (xs.set i (gt xs j)).length = xs.length := List.length_set
  have hg : gt xs j = xs[j] := by unfold gt; rw [List.getD_eq_getElem?_getD, List.getElem?_eq_getElem hj]; rfl
  have e2 : (xs.set i (gt xs j))[j]'(by rw [e1]; exact hj) = xs[j] := List.getElem_set_ne hne _
  rw [List.count_set (by rw [e1]; exact hj), List.count_set hi, List.count_set hi, e2, hg]
  have c1 : xs[i] = a → 1 ≤ xs.count a := fun e => List.one_le_count_iff.mpr (e ▸ List.getElem_mem hi)
  by_cases h1 : xs[i] = a <;> by_cases h2 : xs[j] = a <;> by_cases h3 : x = a <;> simp [h1, h2, h3] <;> (try have := c1 h1) <;> lia
theorem sdown_perm (x : T3) : ∀ (pos : Nat) (xs : List T3), pos < xs.length → (sdown x pos xs).Perm (xs.set pos x) := by
  intro pos
  induction pos using Nat.strongRecOn with
  | ind pos ih =>
    intro xs hp
    rw [sdown]
    split
    · split
      · refine (ih _ (by lia) _ (by rw [List.length_set]; lia)).trans ?_
        exact set_swap hp (by lia) (by lia)
      · exact .refl _
    · exact .refl _
/-- a heap but for a hole -/
def HoleA (x : T3) (pos : Nat) (xs : List T3) : Prop :=
  (∀ i, 0 < i → i < xs.length → i ≠ pos → (i - 1) / 2 ≠ pos → le3 (gt xs ((i - 1) / 2)) (gt xs i)) ∧
  (∀ i, 0 < i → i < xs.length → (i - 1) / 2 = pos → le3 x (gt xs i)) ∧
  (∀ i, 0 < pos → 0 < i → i < xs.length → (i - 1) / 2 = pos → le3 (gt xs ((pos - 1) / 2)) (gt xs i))
theorem sdown_heapy (x : T3) : ∀ (pos : Nat) (xs : List T3), pos < xs.length → HoleA x pos xs → Heapy (sdown x pos xs) := by
  intro pos
  induction pos using Nat.strongRecOn with
  | ind pos ih =>
    rintro xs hp ⟨a1, a2, a3⟩
    rw [sdown]
    split
    · rename_i h0
      split
      · rename_i hlt
        have hx := le3_of_lt hlt
        have hpp : (pos - 1) / 2 < pos := by lia
        refine ih _ hpp _ (by rw [List.length_set]; lia) ⟨?_, ?_, ?_⟩
        · intro i hi hl h1 h2
          rw [List.length_set] at hl
          by_cases e1 : i = pos
          · exact absurd (e1 ▸ rfl) h2
          · by_cases e2 : (i - 1) / 2 = pos
            · rw [e2, gt_set_self hp, gt_set_ne (Ne.symm e1)]
              exact a3 i h0 hi hl e2
            · rw [gt_set_ne (Ne.symm e2), gt_set_ne (Ne.symm e1)]
              exact a1 i hi hl e1 e2
        · intro i hi hl h1
          rw [List.length_set] at hl
          by_cases e1 : i = pos
          · subst e1; rw [gt_set_self hp]; exact hx
          · rw [gt_set_ne (Ne.symm e1)]
            have := a1 i hi hl e1 (by lia)
            rw [h1] at this
            exact le3_trans hx this
        · intro i hq hi hl h1
          rw [List.length_set] at hl
          have hg : le3 (gt xs (((pos - 1) / 2 - 1) / 2)) (gt xs ((pos - 1) / 2)) := a1 ((pos - 1) / 2) hq (by lia) (by lia) (by lia)
          rw [gt_set_ne (show pos ≠ ((pos - 1) / 2 - 1) / 2 by lia)]
          by_cases e1 : i = pos
          · subst e1; rw [gt_set_self hp]; exact hg
          · rw [gt_set_ne (Ne.symm e1)]
            have := a1 i hi hl e1 (by lia)
            rw [h1] at this
            exact le3_trans hg this
      · rename_i hlt
        have hx := le3_of_not hlt
        intro i hi hl
        rw [List.length_set] at hl
        by_cases e1 : i = pos
        · subst e1; rw [gt_set_self hp, gt_set_ne (show i ≠ (i - 1) / 2 by lia)]; exact hx
        · by_cases e2 : (i - 1) / 2 = pos
          · rw [e2, gt_set_self hp, gt_set_ne (Ne.symm e1)]; exact a2 i hi hl e2
          · rw [gt_set_ne (Ne.symm e1), gt_set_ne (Ne.symm e2)]; exact a1 i hi hl e1 e2
    · rename_i h0
      have hz : pos = 0 := by lia
      subst hz
      intro i hi hl
      rw [List.length_set] at hl
      by_cases e2 : (i - 1) / 2 = 0
      · rw [e2, gt_set_self hp, gt_set_ne (show 0 ≠ i by lia)]; exact a2 i hi hl e2
      · rw [gt_set_ne (show 0 ≠ i by lia), gt_set_ne (Ne.symm e2)]; exact a1 i hi hl (by lia) e2
theorem gt_append {xs ys : List T3} {i : Nat} (h : i < xs.length) : gt (xs ++ ys) i = gt xs i := by
  unfold gt; rw [List.getD_eq_getElem?_getD, List.getElem?_append_left h, List.getD_eq_getElem?_getD]
theorem pushL_perm (x : T3) (H : List T3) : (pushL x H).Perm (x :: H) := by
  unfold pushL
  refine (sdown_perm x H.length (H ++ [x]) (by rw [List.length_append]; exact Nat.lt_succ_self _)).trans ?_
  have e : (H ++ [x]).set H.length x = H ++ [x] := by
    apply List.ext_getElem?
    intro i
    by_cases h : H.length = i
    · subst h; rw [List.getElem?_set_self (by rw [List.length_append]; exact Nat.lt_succ_self _)]; simp
    · rw [List.getElem?_set_ne h]
  rw [e]
  exact List.perm_append_comm
theorem pushL_heapy (x : T3) {H : List T3} (h : Heapy H) : Heapy (pushL x H) := by
  unfold pushL
  refine sdown_heapy x _ _ (by rw [List.length_append]; exact Nat.lt_succ_self _) ⟨?_, ?_, ?_⟩
  · intro i hi hl h1 h2
    rw [List.length_append, List.length_singleton] at hl
    rw [gt_append (by lia), gt_append (by lia)]
    exact h i hi (by lia)
  · intro i hi hl h1
    rw [List.length_append, List.length_singleton] at hl
    lia
  · intro i hq hi hl h1
    rw [List.length_append, List.length_singleton] at hl
    lia
/-- a heap but for a hole that goes down -/
def HoleB (pos : Nat) (xs : List T3) : Prop :=
  (∀ i, 0 < i → i < xs.length → i ≠ pos → (i - 1) / 2 ≠ pos → le3 (gt xs ((i - 1) / 2)) (gt xs i)) ∧
  (∀ i, 0 < pos → 0 < i → i < xs.length → (i - 1) / 2 = pos → le3 (gt xs ((pos - 1) / 2)) (gt xs i))
theorem holeB_step {pos c : Nat} {xs : List T3} (hp : pos < xs.length) (hc : c < xs.length) (hc0 : 0 < c) (hcp : (c - 1) / 2 = pos) (hs : ∀ i, 0 < i → i < xs.length → (i - 1) / 2 = pos → le3 (gt xs c) (gt xs i)) (h : HoleB pos xs) : HoleB c (xs.set pos (gt xs c)) := by
  obtain ⟨a1, a3⟩ := h
  have hlt : pos < c := by lia
  refine ⟨?_, ?_⟩
  · intro i hi hl h1 h2
    rw [List.length_set] at hl
    by_cases e1 : i = pos
    · subst e1
      rw [gt_set_self hp, gt_set_ne (show i ≠ (i - 1) / 2 by lia)]
      exact a3 c hi hc0 hc hcp
    · by_cases e2 : (i - 1) / 2 = pos
      · rw [e2, gt_set_self hp, gt_set_ne (Ne.symm e1)]; exact hs i hi hl e2
      · rw [gt_set_ne (Ne.symm e1), gt_set_ne (Ne.symm e2)]; exact a1 i hi hl e1 e2
  · intro i hq hi hl h1
    rw [List.length_set] at hl
    rw [hcp, gt_set_self hp, gt_set_ne (show pos ≠ i by lia)]
    have := a1 i hi hl (by lia) (by lia)
    rw [h1] at this
    exact this
theorem sup_spec : ∀ (f pos : Nat) (xs : List T3), pos < xs.length → xs.length ≤ f + pos → HoleB pos xs → ∀ x : T3,
    (sup f pos xs).1 < (sup f pos xs).2.length ∧ HoleA x (sup f pos xs).1 (sup f pos xs).2 ∧ ((sup f pos xs).2.set (sup f pos xs).1 x).Perm (xs.set pos x)
  | 0, pos, xs, hp, hf, _, _ => absurd hp (by lia)
  | f + 1, pos, xs, hp, hf, hB, x => by
    have step : ∀ c, c < xs.length → 0 < c → (c - 1) / 2 = pos → (∀ i, 0 < i → i < xs.length → (i - 1) / 2 = pos → le3 (gt xs c) (gt xs i)) →
        (sup f c (xs.set pos (gt xs c))).1 < (sup f c (xs.set pos (gt xs c))).2.length ∧ HoleA x (sup f c (xs.set pos (gt xs c))).1 (sup f c (xs.set pos (gt xs c))).2 ∧ ((sup f c (xs.set pos (gt xs c))).2.set (sup f c (xs.set pos (gt xs c))).1 x).Perm (xs.set pos x) := by
      intro c hc h0 hcp hs
      obtain ⟨r1, r2, r3⟩ := sup_spec f c (xs.set pos (gt xs c)) (by rw [List.length_set]; exact hc) (by rw [List.length_set]; lia) (holeB_step hp hc h0 hcp hs hB) x
      exact ⟨r1, r2, r3.trans (set_swap hp hc (by lia))⟩
    rw [sup]
    split
    · rename_i h1
      split
      · rename_i h2
        refine step (2 * pos + 2) h2.1 (by lia) (by lia) fun i hi hl e => ?_
        have : i = 2 * pos + 1 ∨ i = 2 * pos + 2 := by lia
        rcases this with rfl | rfl
        · exact le3_of_not (by rw [h2.2]; decide)
        · exact le3_refl _
      · rename_i h2
        refine step (2 * pos + 1) h1 (by lia) (by lia) fun i hi hl e => ?_
        have : i = 2 * pos + 1 ∨ i = 2 * pos + 2 := by lia
        rcases this with rfl | rfl
        · exact le3_refl _
        · have hb : lt3 (gt xs (2 * pos + 1)) (gt xs (2 * pos + 2)) = true := by
            cases hq : lt3 (gt xs (2 * pos + 1)) (gt xs (2 * pos + 2)) with
            | true => rfl
            | false => exact absurd ⟨hl, hq⟩ h2
          exact le3_of_lt hb
    · rename_i h1
      refine ⟨hp, ⟨hB.1, ?_, hB.2⟩, .refl _⟩
      intro i hi hl e
      have hl : i < xs.length := hl
      have e : (i - 1) / 2 = pos := e
      lia
theorem siftupL_spec {H : List T3} (hl : 0 < H.length) (hB : HoleB 0 H) : Heapy (siftupL H) ∧ (siftupL H).Perm H := by
  obtain ⟨r1, r2, r3⟩ := sup_spec H.length 0 H hl (by lia) hB (gt H 0)
  have e0 : H.set 0 (gt H 0) = H := by
    cases H with
    | nil => cases hl
    | cons a r => rfl
  rw [e0] at r3
  have r4 : HoleA (gt H 0) (sup H.length 0 H).1 ((sup H.length 0 H).2.set (sup H.length 0 H).1 (gt H 0)) := by
    obtain ⟨a1, a2, a3⟩ := r2
    refine ⟨?_, ?_, ?_⟩
    · intro i hi hl' h1 h2
      rw [List.length_set] at hl'
      rw [gt_set_ne (Ne.symm h1), gt_set_ne (Ne.symm h2)]
      exact a1 i hi hl' h1 h2
    · intro i hi hl' h1
      rw [List.length_set] at hl'
      rw [gt_set_ne (show (sup H.length 0 H).1 ≠ i by lia)]
      exact a2 i hi hl' h1
    · intro i hq hi hl' h1
      rw [List.length_set] at hl'
      rw [gt_set_ne (show (sup H.length 0 H).1 ≠ i by lia), gt_set_ne (show (sup H.length 0 H).1 ≠ ((sup H.length 0 H).1 - 1) / 2 by lia)]
      exact a3 i hq hi hl' h1
  unfold siftupL
  refine ⟨sdown_heapy _ _ _ (by rw [List.length_set]; exact r1) r4, ?_⟩
  refine (sdown_perm _ _ _ (by rw [List.length_set]; exact r1)).trans ?_
  rw [List.set_set]
  exact r3
theorem popL_spec {H₀ : List T3} {y : T3} (h : Heapy (H₀ ++ [y])) : Heapy (popL H₀ y) ∧ (H₀ ++ [y]).Perm (topL H₀ y :: popL H₀ y) ∧ ∀ t ∈ popL H₀ y, le3 (topL H₀ y) t := by
  unfold popL topL
  by_cases e : H₀ = []
  · subst e
    refine ⟨?_, .refl _, ?_⟩
    · intro i hi hl
      rw [if_pos rfl] at hl
      exact absurd hl (Nat.not_lt_zero _)
    · intro t ht
      rw [if_pos rfl] at ht
      cases ht
  · rw [if_neg e, if_neg e]
    obtain ⟨a, r, rfl⟩ : ∃ a r, H₀ = a :: r := by
      cases H₀ with
      | nil => exact absurd rfl e
      | cons a r => exact ⟨a, r, rfl⟩
    have hB : HoleB 0 ((a :: r).set 0 y) := by
      refine ⟨?_, fun i hq => absurd hq (Nat.lt_irrefl _)⟩
      intro i hi hl h1 h2
      rw [List.length_set] at hl
      rw [gt_set_ne (Ne.symm h1), gt_set_ne (Ne.symm h2)]
      have := h i hi (by rw [List.length_append]; lia)
      rw [gt_append hl, gt_append (by lia)] at this
      exact this
    obtain ⟨s1, s2⟩ := siftupL_spec (by show 0 < r.length + 1; lia) hB
    have hp : (a :: r ++ [y]).Perm (a :: siftupL ((a :: r).set 0 y)) := by
      refine List.Perm.cons a ?_
      refine .trans ?_ s2.symm
      show (r ++ [y]).Perm (y :: r)
      exact List.perm_append_comm
    refine ⟨s1, hp, ?_⟩
    intro t ht
    have hm : t ∈ a :: r ++ [y] := hp.symm.subset (.tail _ ht)
    exact heapy_le h hm
end
section
open StrLaws Builtin Builtin.Str
def bg (S : List (Int × Int × Str)) (i : Nat) : Int := (S.getD i (0, 0, Str.empty)).1
def en (S : List (Int × Int × Str)) (i : Nat) : Int := (S.getD i (0, 0, Str.empty)).2.1
def ev0 (S : List (Int × Int × Str)) (i : Nat) : T3 := (bg S i, 0, (i : Int))
def ev1 (S : List (Int × Int × Str)) (i : Nat) : T3 := (en S i, 1, (i : Int))
theorem ev0_inj {S : List (Int × Int × Str)} {i j : Nat} (h : ev0 S i = ev0 S j) : i = j := by
  have := congrArg (fun t : T3 => t.2.2) h
  simp only [ev0] at this; lia
theorem ev1_inj {S : List (Int × Int × Str)} {i j : Nat} (h : ev1 S i = ev1 S j) : i = j := by
  have := congrArg (fun t : T3 => t.2.2) h
  simp only [ev1] at this; lia
theorem ev01_ne {S : List (Int × Int × Str)} {i j : Nat} (h : ev0 S i = ev1 S j) : False := by
  have := congrArg (fun t : T3 => t.2.1) h
  simp only [ev0, ev1] at this; lia
structure Inv (S : List (Int × Int × Str)) (x : Str) (H : List T3) (last : Nat) (path : List Nat) : Prop where
  heap : Heapy H
  mem : ∀ t ∈ H, ∃ i, i < S.length ∧ (t = ev0 S i ∨ t = ev1 S i)
  nd : H.Nodup
  z1 : ∀ i, ev0 S i ∈ H → ev1 S i ∈ H
  pth : ∀ i, i ∈ path ↔ i < S.length ∧ ev0 S i ∉ H ∧ ev1 S i ∈ H
  pnd : path.Nodup
  lst : last ≤ x.length
  low : ∀ t ∈ H, (last : Int) ≤ t.1
  d0 : ∀ i, i < S.length → ev0 S i ∉ H → bg S i ≤ (last : Int)
  d1 : ∀ i, i < S.length → ev1 S i ∉ H → en S i ≤ (last : Int)
def SpOk (S : List (Int × Int × Str)) (x : Str) : Prop := ∀ i, i < S.length → 0 ≤ bg S i ∧ bg S i ≤ en S i ∧ en S i ≤ (x.length : Int)
theorem top_mem {H₀ : List T3} {y : T3} (h : Heapy (H₀ ++ [y])) (nd : (H₀ ++ [y]).Nodup) : topL H₀ y ∈ H₀ ++ [y] ∧ topL H₀ y ∉ popL H₀ y ∧ (popL H₀ y).Nodup ∧ Heapy (popL H₀ y) ∧ (∀ t, t ∈ H₀ ++ [y] ↔ t = topL H₀ y ∨ t ∈ popL H₀ y) ∧ (∀ t ∈ H₀ ++ [y], (topL H₀ y).1 ≤ t.1) ∧ ∀ t ∈ popL H₀ y, le3 (topL H₀ y) t := by
  obtain ⟨p1, p2, p3⟩ := popL_spec h
  have nd2 := p2.nodup_iff.mp nd
  have hm : ∀ t, t ∈ H₀ ++ [y] ↔ t = topL H₀ y ∨ t ∈ popL H₀ y := fun t => p2.mem_iff.trans List.mem_cons
  refine ⟨(hm _).mpr (.inl rfl), (List.nodup_cons.mp nd2).1, (List.nodup_cons.mp nd2).2, p1, hm, ?_, p3⟩
  intro t ht
  rcases (hm t).mp ht with rfl | ht
  · exact Int.le_refl _
  · have := p3 t ht
    unfold le3 at this; lia
theorem inv0 {S : List (Int × Int × Str)} {x : Str} {H₀ : List T3} {y : T3} {last : Nat} {path : List Nat} {i : Nat} (I : Inv S x (H₀ ++ [y]) last path) (ok : SpOk S x) (hi : i < S.length) (e : topL H₀ y = ev0 S i) :
    Inv S x (popL H₀ y) (bg S i).toNat (path ++ [i]) ∧ i ∉ path ∧ (last : Int) ≤ bg S i := by
  obtain ⟨m1, m2, m3, m4, m5, m6, m7⟩ := top_mem I.heap I.nd
  rw [e] at m1 m2 m5 m6 m7
  obtain ⟨o1, o2, o3⟩ := ok i hi
  have hl := I.low _ m1
  have hb : ((bg S i).toNat : Int) = bg S i := Int.toNat_of_nonneg o1
  have hni : i ∉ path := fun h => ((I.pth i).mp h).2.1 m1
  have k0 : ∀ j, ev0 S j ∈ popL H₀ y ↔ ev0 S j ∈ H₀ ++ [y] ∧ j ≠ i := fun j => by
    rw [m5]
    constructor
    · intro h; exact ⟨.inr h, fun ej => m2 (ej ▸ h)⟩
    · rintro ⟨h | h, hj⟩
      · exact absurd (ev0_inj h) hj
      · exact h
  have k1 : ∀ j, ev1 S j ∈ popL H₀ y ↔ ev1 S j ∈ H₀ ++ [y] := fun j => by
    rw [m5]
    constructor
    · exact .inr
    · rintro (h | h)
      · exact absurd h.symm fun h => ev01_ne h
      · exact h
  refine ⟨⟨m4, fun t ht => I.mem t ((m5 t).mpr (.inr ht)), m3, ?_, ?_, ?_, ?_, ?_, ?_, ?_⟩, hni, hl⟩
  · intro j hj
    exact (k1 j).mpr (I.z1 j ((k0 j).mp hj).1)
  · intro j
    rw [List.mem_append, I.pth, List.mem_singleton, k0, k1]
    constructor
    · rintro (⟨h1, h2, h3⟩ | rfl)
      · exact ⟨h1, fun h => h2 h.1, h3⟩
      · exact ⟨hi, fun h => h.2 rfl, I.z1 _ m1⟩
    · rintro ⟨h1, h2, h3⟩
      by_cases ej : j = i
      · exact .inr ej
      · exact .inl ⟨h1, fun h => h2 ⟨h, ej⟩, h3⟩
  · rw [List.nodup_append]
    refine ⟨I.pnd, by simp, ?_⟩
    intro a ha b hb' eab
    rw [List.mem_singleton.mp hb'] at eab
    exact hni (eab ▸ ha)
  · lia
  · intro t ht
    rw [hb]
    exact m6 t ((m5 t).mpr (.inr ht))
  · intro j hj h
    rw [hb]
    by_cases ej : j = i
    · subst ej; exact Int.le_refl _
    · exact Int.le_trans (I.d0 j hj fun h2 => h ((k0 j).mpr ⟨h2, ej⟩)) hl
  · intro j hj h
    rw [hb]
    exact Int.le_trans (I.d1 j hj fun h2 => h ((k1 j).mpr h2)) hl
theorem inv1 {S : List (Int × Int × Str)} {x : Str} {H₀ : List T3} {y : T3} {last : Nat} {path : List Nat} {i : Nat} (I : Inv S x (H₀ ++ [y]) last path) (ok : SpOk S x) (hi : i < S.length) (e : topL H₀ y = ev1 S i) :
    ∃ pa pb, path = pa ++ i :: pb ∧ i ∉ pa ∧ Inv S x (popL H₀ y) (en S i).toNat (pa ++ pb) ∧ (last : Int) ≤ en S i := by
  obtain ⟨m1, m2, m3, m4, m5, m6, m7⟩ := top_mem I.heap I.nd
  rw [e] at m1 m2 m5 m6 m7
  obtain ⟨o1, o2, o3⟩ := ok i hi
  have hl := I.low _ m1
  have hb : ((en S i).toNat : Int) = en S i := Int.toNat_of_nonneg (by lia)
  have hn0 : ev0 S i ∉ H₀ ++ [y] := by
    intro h
    rcases (m5 _).mp h with h | h
    · exact ev01_ne h
    · have := m7 _ h
      unfold le3 ev0 ev1 at this
      dsimp only at this
      lia
  have hip : i ∈ path := (I.pth i).mpr ⟨hi, hn0, m1⟩
  obtain ⟨pa, pb, rfl⟩ := List.append_of_mem hip
  have hpn := I.pnd
  rw [List.nodup_append, List.nodup_cons] at hpn
  obtain ⟨n1, ⟨n2, n3⟩, n4⟩ := hpn
  have hia : i ∉ pa := fun h => n4 i h i (.head _) rfl
  have k1 : ∀ j, ev1 S j ∈ popL H₀ y ↔ ev1 S j ∈ H₀ ++ [y] ∧ j ≠ i := fun j => by
    rw [m5]
    constructor
    · intro h; exact ⟨.inr h, fun ej => m2 (ej ▸ h)⟩
    · rintro ⟨h | h, hj⟩
      · exact absurd (ev1_inj h) hj
      · exact h
  have k0 : ∀ j, ev0 S j ∈ popL H₀ y ↔ ev0 S j ∈ H₀ ++ [y] := fun j => by
    rw [m5]
    constructor
    · exact .inr
    · rintro (h | h)
      · exact absurd h fun h => ev01_ne h
      · exact h
  refine ⟨pa, pb, rfl, hia, ⟨m4, fun t ht => I.mem t ((m5 t).mpr (.inr ht)), m3, ?_, ?_, ?_, ?_, ?_, ?_, ?_⟩, hl⟩
  · intro j hj
    refine (k1 j).mpr ⟨I.z1 j ((k0 j).mp hj), fun ej => ?_⟩
    subst ej
    exact hn0 ((k0 _).mp hj)
  · intro j
    have hp := I.pth j
    rw [List.mem_append, List.mem_cons] at hp
    rw [List.mem_append, k0, k1]
    constructor
    · intro h
      have hj : j ≠ i := by
        rintro rfl
        rcases h with h | h
        · exact hia h
        · exact n2 h
      obtain ⟨h1, h2, h3⟩ := hp.mp (h.elim .inl fun h => .inr (.inr h))
      exact ⟨h1, h2, h3, hj⟩
    · rintro ⟨h1, h2, h3, hj⟩
      rcases hp.mpr ⟨h1, h2, h3⟩ with h | h | h
      · exact .inl h
      · exact absurd h hj
      · exact .inr h
  · rw [List.nodup_append]
    exact ⟨n1, n3, fun a ha b hb' => n4 a ha b (.tail _ hb')⟩
  · lia
  · intro t ht
    rw [hb]
    exact m6 t ((m5 t).mpr (.inr ht))
  · intro j hj h
    rw [hb]
    exact Int.le_trans (I.d0 j hj fun h2 => h ((k0 j).mpr h2)) hl
  · intro j hj h
    rw [hb]
    by_cases ej : j = i
    · subst ej; exact Int.le_refl _
    · exact Int.le_trans (I.d1 j hj fun h2 => h ((k1 j).mpr ⟨h2, ej⟩)) hl
theorem filter_range {n : Nat} (hn : n ≤ 6) {P Q : Nat → Bool} (h1 : ∀ p, p < n → P p = Q p) (h2 : ∀ p, n ≤ p → Q p = false) : (List.range n).filter P = (List.range 6).filter Q := by
  obtain ⟨k, hk⟩ : ∃ k, 6 = n + k := ⟨6 - n, by lia⟩
  rw [hk, List.range_add, List.filter_append]
  rw [show ((List.range k).map (n + ·)).filter Q = [] from List.filter_eq_nil_iff.mpr fun a ha => by
    obtain ⟨b, _, rfl⟩ := List.mem_map.mp ha
    rw [h2 _ (Nat.le_add_right _ _)]; decide]
  rw [List.append_nil]
  exact List.filter_congr fun p hp => h1 p (List.mem_range.mp hp)
/-- between two events the spans that hold a place are the open ones -/
theorem due_act {S : List (Int × Int × Str)} {x : Str} {H : List T3} {last at_ : Nat} {path : List Nat} (I : Inv S x H last path) (hn : S.length ≤ 6) (h1 : last ≤ at_) (h2 : ∀ t ∈ H, (at_ : Int) < t.1) : dueAt S at_ = asc6 path := by
  unfold dueAt asc6
  refine filter_range hn (fun p hp => ?_) (fun p hp => ?_)
  · rw [Bool.eq_iff_iff, List.contains_iff_mem, I.pth, Bool.and_eq_true, decide_eq_true_iff, decide_eq_true_iff]
    have e1 : (S.getD p (0, 0, Str.empty)).1 = bg S p := rfl
    have e2 : (S.getD p (0, 0, Str.empty)).2.1 = en S p := rfl
    rw [e1, e2]
    constructor
    · rintro ⟨a, b⟩
      refine ⟨hp, fun h => ?_, Classical.byContradiction fun h => ?_⟩
      · have := h2 _ h
        simp only [ev0] at this; lia
      · have := I.d1 p hp h
        lia
    · rintro ⟨_, a, b⟩
      have c := I.d0 p hp a
      have d := h2 _ b
      simp only [ev1] at d
      lia
  · cases hc : path.contains p with
    | false => rfl
    | true =>
      have := ((I.pth p).mp (List.contains_iff_mem.mp hc)).1
      lia
end
section
open StrLaws Builtin Builtin.Str
/-- the first signs -/
def pre (x : Str) (k : Nat) : Str := ⟨((tl x).take k).toArray⟩
def cutS (x : Str) (a b : Nat) : Str := ⟨(((tl x).drop a).take (b - a)).toArray⟩
theorem tl_pre (x : Str) (k : Nat) : tl (pre x k) = (tl x).take k := List.toList_toArray
theorem tl_cut (x : Str) (a b : Nat) : tl (cutS x a b) = ((tl x).drop a).take (b - a) := List.toList_toArray
theorem pre_cut {x : Str} {a b : Nat} (h : a ≤ b) : pre x a ++ cutS x a b = pre x b := by
  apply str_ext
  rw [tl_append, tl_pre, tl_pre, tl_cut]
  obtain ⟨k, rfl⟩ : ∃ k, b = a + k := ⟨b - a, by lia⟩
  rw [List.take_add, Nat.add_sub_cancel_left]
theorem pre_len {x : Str} {a : Nat} (h : a ≤ x.length) : (pre x a).length = a := by
  rw [← tl_len, tl_pre, List.length_take, tl_len]; lia
theorem cut_len {x : Str} {a b : Nat} (h : b ≤ x.length) : (cutS x a b).length = b - a := by
  rw [← tl_len, tl_cut, List.length_take, List.length_drop, tl_len]; lia
theorem slice_cut {x : Str} {a b : Nat} (h : a ≤ b) (hb : b ≤ x.length) : Txt.slice x (some (a : Int)) (some (b : Int)) = cutS x a b := sliceText_nat x h hb
theorem slice_end {x : Str} {a : Nat} (h : a ≤ x.length) : Txt.slice x (some (a : Int)) none = cutS x a x.length := by
  have hl : x.cps.toList.length = x.length := tl_len x
  show sliceText x (some (a : Int)) none = _
  rw [sliceText_from ⟨by lia, by rw [hl]; lia⟩]
  apply str_ext
  show ((tl x).drop _).take _ = ((tl x).drop a).take (x.length - a)
  rw [hl, Int.toNat_natCast]
  congr 1
  lia
def dueP (S : List (Int × Int × Str)) (k : Nat) : List (List Nat) := (List.range k).map (dueAt S)
theorem dueP_len (S : List (Int × Int × Str)) (k : Nat) : (dueP S k).length = k := by unfold dueP; rw [List.length_map, List.length_range]
theorem dueP_add {S : List (Int × Int × Str)} {a b : Nat} {p : List Nat} (h : a ≤ b) (hd : ∀ k, a ≤ k → k < b → dueAt S k = asc6 p) : dueP S a ++ List.replicate (b - a) (asc6 p) = dueP S b := by
  obtain ⟨k, rfl⟩ : ∃ k, b = a + k := ⟨b - a, by lia⟩
  rw [Nat.add_sub_cancel_left]
  induction k with
  | zero => rw [List.replicate_zero, List.append_nil]; rfl
  | succ k ih =>
    rw [List.replicate_succ', ← List.append_assoc, ih (by lia) fun j h1 h2 => hd j h1 (by lia)]
    unfold dueP
    rw [← Nat.add_assoc, List.range_succ, List.map_append, List.map_cons, List.map_nil, hd (a + k) (by lia) (by lia)]
theorem tr_text {S : List (Int × Int × Str)} {x : Str} {a b : Nat} {p : List Nat} (hx : x.length ≤ 20) (h : a ≤ b) (hb : b ≤ x.length) (hd : ∀ k, a ≤ k → k < b → dueAt S k = asc6 p) :
    TR [.t (cutS x a b)] (pre x a, dueP S a, p) (pre x b, dueP S b, p) := by
  refine ⟨?_, ?_, ?_⟩
  · show (pre x a ++ cutS x a b).length ≤ 100
    rw [pre_cut h, pre_len hb]; lia
  · show (dueP S a).length ≤ 100
    rw [dueP_len]; lia
  · show _ = _
    show (pre x b, dueP S b, p) = (pre x a ++ cutS x a b, dueP S a ++ List.replicate (cutS x a b).length (asc6 p), p)
    rw [pre_cut h, cut_len hb, dueP_add h hd]
theorem tr_close {t : Str} {o : List (List Nat)} (ho : o.length ≤ 100) : ∀ (n : Nat) (q pa : List Nat), q.length = n → (pa ++ q).Nodup → (∀ a ∈ pa ++ q, a < 6) → (pa ++ q).length ≤ 10 → TR (List.replicate n (.g none)) (t, o, pa ++ q) (t, o, pa)
  | 0, q, pa, hq, _, _, _ => by
    obtain rfl := List.length_eq_zero_iff.mp hq
    show (t, o, pa) = (t, o, pa ++ [])
    rw [List.append_nil]
  | n + 1, q, pa, hq, hn, hb, hl => by
    obtain ⟨q', a, rfl⟩ : ∃ q' a, q = q' ++ [a] := by
      rcases List.eq_nil_or_concat q with rfl | ⟨q', a, e⟩
      · cases hq
      · exact ⟨q', a, by rw [e, List.concat_eq_append]⟩
    have e : (pa ++ (q' ++ [a])).dropLast = pa ++ q' := by rw [← List.append_assoc, List.dropLast_concat]
    have hsub : ∀ c ∈ pa ++ q', c ∈ pa ++ (q' ++ [a]) := fun c hc => by rw [← List.append_assoc]; exact List.mem_append_left _ hc
    have hn2 : (pa ++ q').Nodup := by rw [← List.append_assoc] at hn; exact (List.nodup_append.mp hn).1
    refine ⟨?_, ?_, hl, ho, ?_⟩
    · show (pa ++ (q' ++ [a])).dropLast.Nodup
      rw [e]; exact hn2
    · show ∀ c ∈ (pa ++ (q' ++ [a])).dropLast, c < 6
      rw [e]; exact fun c hc => hb c (hsub c hc)
    · show TR _ (t, o, (pa ++ (q' ++ [a])).dropLast) _
      rw [e]
      refine tr_close ho n q' pa ?_ hn2 (fun c hc => hb c (hsub c hc)) ?_
      · rw [List.length_append, List.length_singleton] at hq; lia
      · rw [← List.append_assoc, List.length_append (as := pa ++ q')] at hl; lia
theorem tr_open {t : Str} {o : List (List Nat)} (ho : o.length ≤ 100) : ∀ (q pa : List Nat), (pa ++ q).Nodup → (∀ a ∈ pa ++ q, a < 6) → (pa ++ q).length ≤ 10 → TR (q.map fun k => .g (some k)) (t, o, pa) (t, o, pa ++ q)
  | [], pa, _, _, _ => by
    show (t, o, pa ++ []) = (t, o, pa)
    rw [List.append_nil]
  | k :: q, pa, hn, hb, hl => by
    have e : pa ++ [k] ++ q = pa ++ k :: q := by rw [List.append_assoc]; rfl
    refine ⟨hb k (List.mem_append_right _ (.head _)), ?_, ?_, ?_, ho, ?_⟩
    · show (pa ++ [k]).Nodup
      rw [← e] at hn; exact (List.nodup_append.mp hn).1
    · show ∀ a ∈ pa ++ [k], a < 6
      rw [← e] at hb; exact fun a ha => hb a (List.mem_append_left _ ha)
    · show pa.length ≤ 10
      rw [List.length_append] at hl; lia
    · show TR _ (t, o, pa ++ [k]) (t, o, pa ++ k :: q)
      rw [← e]
      exact tr_open ho q (pa ++ [k]) (by rw [e]; exact hn) (by rw [e]; exact hb) (by rw [e]; exact hl)
theorem mul_list (x : Str) (m : Nat) : tl (Txt.mul x (m : Int)) = (List.replicate m (tl x)).flatten := by
  have fold : ∀ (l : List (Array Nat)) (a : Array Nat), (l.foldl (· ++ ·) a).toList = a.toList ++ (l.map Array.toList).flatten := by
    intro l
    induction l with
    | nil => intro a; simp
    | cons b l ih => intro a; rw [List.foldl_cons, ih, Array.toList_append, List.map_cons, List.flatten_cons, List.append_assoc]
  unfold Txt.mul
  by_cases h1 : (m : Int) < 1
  · have : m = 0 := by lia
    subst this; rw [if_pos h1]; rfl
  · rw [if_neg h1]
    by_cases h2 : ((m : Int) == 1 || x.length == 0) = true
    · rw [if_pos h2]
      rcases Bool.or_eq_true_iff.mp h2 with h | h
      · have : m = 1 := by have := beq_iff_eq.mp h; lia
        subst this; simp
      · have e : tl x = [] := List.length_eq_zero_iff.mp (by rw [tl_len]; exact beq_iff_eq.mp h)
        rw [e]
        clear h1 h2
        induction m with
        | zero => rfl
        | succ m ih => rw [List.replicate_succ, List.flatten_cons, ← ih]; rfl
    · rw [if_neg h2]
      show ((List.replicate (m : Int).toNat x.cps).foldl (· ++ ·) #[]).toList = _
      rw [fold, Int.toNat_natCast, List.map_replicate]
      rfl
theorem rend_close (lab : Nat → Str) (m : Nat) : rend lab (List.replicate m (.g none)) = Txt.mul (Str.ofString "</s>") (m : Int) := by
  apply str_ext
  rw [mul_list]
  induction m with
  | zero => rfl
  | succ m ih =>
    rw [List.replicate_succ, List.replicate_succ, List.flatten_cons, ← ih]
    show tl (Str.ofString "</s>" ++ rend lab _) = _
    rw [tl_append]
theorem rend_open {lab : Nat → Str} {f : Nat → Str} (q : List Nat) (hf : ∀ k ∈ q, f k = tagS k (lab k)) : rend lab (q.map fun k => .g (some k)) = Txt.join (Str.ofString "") (q.map f) := by
  unfold Txt.join
  rw [glued_eq_join]
  induction q with
  | nil => rfl
  | cons k q ih =>
    have ih := ih fun j hj => hf j (.tail _ hj)
    show tagS k (lab k) ++ rend lab (q.map fun k => .g (some k)) = Str.join _ (f k :: q.map f)
    rw [ih, hf k (.head _)]
    cases q with
    | nil => exact Str.append_empty _
    | cons j q =>
      show _ = tagS k (lab k) ++ Str.ofString "" ++ Str.join _ (f j :: q.map f)
      rw [show Str.ofString "" = Str.empty from by decide +kernel, Str.append_empty]; rfl
theorem grp_len : ∀ (a b : List Tk), (grp (a ++ b)).2.length = (grp a).2.length + (grp b).2.length
  | [], b => by rw [List.nil_append]; show _ = 0 + _; lia
  | .t y :: r, b => grp_len r b
  | .g o :: r, b => by
    show (grp (r ++ b)).2.length + 1 = (grp r).2.length + 1 + (grp b).2.length
    rw [grp_len r b]; lia
theorem grp_close : ∀ m : Nat, (grp (List.replicate m (.g none))).2.length = m
  | 0 => rfl
  | m + 1 => by
    rw [List.replicate_succ]
    show (grp (List.replicate m (.g none))).2.length + 1 = m + 1
    rw [grp_close m]
theorem grp_open : ∀ q : List Nat, (grp (q.map fun k => .g (some k))).2.length = q.length
  | [] => rfl
  | k :: q => by
    show (grp (q.map fun k => .g (some k))).2.length + 1 = q.length + 1
    rw [grp_open q]
theorem tag_len {k : Nat} (hk : k < 6) {l : Str} (h : LabOk l) : (tagS k l).length ≤ 42 := by
  rw [tagS_eq hk, Str.length_append, Str.length_append]
  have := h.q30
  have e : (bodyS k l).length = 10 + (quoL (tl l)).length := by rw [← tl_len, tl_body, List.length_append]; rfl
  have e1 : (⟨#[60]⟩ : Str).length = 1 := rfl
  have e2 : (⟨#[62]⟩ : Str).length = 1 := rfl
  lia
theorem open_len {lab : Nat → Str} (hlab : ∀ k, k < 6 → LabOk (lab k)) : ∀ (q : List Nat), (∀ a ∈ q, a < 6) → (rend lab (q.map fun k => .g (some k))).length ≤ 42 * q.length
  | [], _ => Nat.zero_le _
  | k :: q, h => by
    have ih := open_len hlab q fun a ha => h a (.tail _ ha)
    have hk := h k (.head _)
    show (tagS k (lab k) ++ rend lab (q.map fun k => .g (some k))).length ≤ 42 * (q.length + 1)
    rw [Str.length_append]
    have := tag_len hk (hlab k hk)
    lia
theorem close_len (lab : Nat → Str) : ∀ m : Nat, (rend lab (List.replicate m (.g none))).length = 4 * m
  | 0 => rfl
  | m + 1 => by
    rw [List.replicate_succ]
    show (Str.ofString "</s>" ++ rend lab _).length = _
    have e : (Str.ofString "</s>").length = 4 := by decide +kernel
    rw [Str.length_append, close_len lab m, e]; lia
theorem tagOf_eq {S : List (Int × Int × Str)} {k : Nat} (hk : k < S.length) : tagOf (tagsTo S S.length) (k : Int) = tagS k (labOf S k) := by
  unfold tagOf
  rw [Int.toNat_natCast]
  unfold tagsTo labOf
  rw [List.getD_eq_getElem?_getD, List.getElem?_map, List.getElem?_range hk]; rfl
end
section
open StrLaws Builtin Builtin.Str
theorem runs_of {S : List (Int × Int × Str)} {x : Str} (hx : x.length ≤ 20) (hn : S.length ≤ 6) (ok : SpOk S x) (hlab : ∀ k, k < 6 → LabOk (labOf S k)) :
    ∀ (f : Nat) (H : List T3) (last : Nat) (path : List Nat) (toks : List Tk), H.length = f → f ≤ 12 → Inv S x H last path → TR toks (Str.empty, [], []) (pre x last, dueP S last, path) →
      (rend (labOf S) toks).length + 1000 * f ≤ 12000 → (grp toks).2.length + 12 * f ≤ 144 →
      ∃ out toks', Runs x (tagsTo S S.length) f H (rend (labOf S) toks) (last : Int) (path.map fun k : Nat => (k : Int)) out ∧ out = rend (labOf S) toks' ∧ out.length ≤ 12200 ∧ (grp toks').2.length ≤ 144 ∧
        TR toks' (Str.empty, [], []) (x, dueP S x.length, []) := by
  intro f
  induction f with
  | zero =>
    intro H last path toks hH _ I hT hl hg
    obtain rfl := List.length_eq_zero_iff.mp hH
    obtain rfl : path = [] := by
      cases path with
      | nil => rfl
      | cons a r => exact absurd ((I.pth a).mp (.head _)).2.2 (fun h => nomatch h)
    have hcut : (cutS x last x.length).length ≤ 20 := by rw [cut_len (Nat.le_refl _)]; lia
    have hex : pre x x.length = x := by
      apply str_ext
      rw [tl_pre, ← tl_len, List.take_length]
    have hT2 := TR_append toks [.t (cutS x last x.length)] _ _ _ hT (tr_text hx I.lst (Nat.le_refl _) fun k h1 h2 => due_act I hn h1 (fun t ht => nomatch ht))
    rw [hex] at hT2
    have hr : rend (labOf S) (toks ++ [.t (cutS x last x.length)]) = rend (labOf S) toks ++ escS (Txt.slice x (some (last : Int)) none) := by
      rw [rend_append, slice_end I.lst]
      show _ ++ (escS _ ++ Str.empty) = _
      rw [Str.append_empty]
    have he := esc_len (cutS x last x.length)
    refine ⟨_, toks ++ [.t (cutS x last x.length)], ⟨rfl, by lia, rfl⟩, hr.symm, ?_, ?_, hT2⟩
    · rw [Str.length_append, slice_end I.lst]; lia
    · rw [grp_len]
      show _ + 0 ≤ 144
      lia
  | succ f ih =>
    intro H last path toks hH hf I hT hl hg
    obtain ⟨H₀, y, rfl⟩ : ∃ H₀ y, H = H₀ ++ [y] := by
      rcases List.eq_nil_or_concat H with rfl | ⟨q', a, e⟩
      · cases hH
      · exact ⟨q', a, by rw [e, List.concat_eq_append]⟩
    obtain ⟨m1, m2, m3, m4, m5, m6, m7⟩ := top_mem I.heap I.nd
    have hH0 : H₀.length = f := by rw [List.length_append] at hH; exact Nat.succ.inj hH
    have hpl : (popL H₀ y).length = f := popL_len hH0
    obtain ⟨i, hi, hev⟩ := I.mem _ m1
    obtain ⟨o1, o2, o3⟩ := ok i hi
    have hpath6 : ∀ a ∈ path, a < S.length := fun a ha => ((I.pth a).mp ha).1
    have hplen : path.length ≤ 6 := nodup_len 6 path I.pnd fun a ha => by have := hpath6 a ha; lia
    have htl := tagsTo_len S S.length
    have hpq : ∀ q ∈ path.map (fun k : Nat => (k : Int)), 0 ≤ q ∧ q < ((tagsTo S S.length).length : Int) := by
      intro q hq
      obtain ⟨a, ha, rfl⟩ := List.mem_map.mp hq
      have := hpath6 a ha
      lia
    have hcutl : ∀ b, b ≤ x.length → (escS (cutS x last b)).length ≤ 100 := fun b hb => by
      have := esc_len (cutS x last b)
      rw [cut_len hb] at this
      lia
    rcases hev with e | e
    · obtain ⟨I2, hni, hle⟩ := inv0 I ok hi e
      generalize hb : (bg S i).toNat = b at I2
      have hbi : bg S i = (b : Int) := by lia
      have hab : last ≤ b := by lia
      have hbx := I2.lst
      have ht1 : topL H₀ y = ((b : Int), 0, (i : Int)) := by rw [e]; unfold ev0; rw [hbi]
      have hT2 : TR (toks ++ ([.t (cutS x last b)] ++ [.g (some i)])) (Str.empty, [], []) (pre x b, dueP S b, path ++ [i]) := by
        refine TR_append _ _ _ _ _ hT (TR_append _ _ _ _ _ (tr_text hx hab hbx fun k h1 h2 => due_act I hn h1 fun t ht => ?_) ?_)
        · have := m6 t ht
          rw [ht1] at this
          dsimp only at this
          lia
        · exact tr_open (q := [i]) (by rw [dueP_len]; lia) path I2.pnd (fun a ha => by
            rcases List.mem_append.mp ha with ha | ha
            · have := hpath6 a ha; lia
            · rw [List.mem_singleton.mp ha]; lia) (by rw [List.length_append, List.length_singleton]; lia)
      have hr : rend (labOf S) (toks ++ ([.t (cutS x last b)] ++ [.g (some i)])) = rend (labOf S) toks ++ escS (Txt.slice x (some (last : Int)) (some (b : Int))) ++ tagOf (tagsTo S S.length) (i : Int) := by
        rw [rend_append, slice_cut hab hbx, tagOf_eq hi]
        show _ ++ (escS _ ++ (tagS _ _ ++ Str.empty)) = _
        rw [Str.append_empty, Str.append_assoc]
      have hgl : (grp (toks ++ ([.t (cutS x last b)] ++ [.g (some i)]))).2.length = (grp toks).2.length + 1 := by rw [grp_len]; rfl
      have htag := tag_len (show i < 6 by lia) (hlab i (by lia))
      have hlen2 : (rend (labOf S) (toks ++ ([.t (cutS x last b)] ++ [.g (some i)]))).length ≤ (rend (labOf S) toks).length + 142 := by
        rw [hr, Str.length_append, Str.length_append, slice_cut hab hbx, tagOf_eq hi]
        have := hcutl b hbx
        lia
      obtain ⟨out, toks', r1, r2, r3, r4, r5⟩ := ih (popL H₀ y) b (path ++ [i]) _ hpl (by lia) I2 hT2 (by lia) (by lia)
      refine ⟨out, toks', ⟨H₀, y, rfl, by lia, by lia, ?_, ?_, by lia, ?_, ?_, by rw [List.length_map]; lia, hpq, .inl ⟨?_, ?_⟩⟩, r2, r3, r4, r5⟩
      · rw [ht1]; dsimp only; lia
      · rw [ht1]; dsimp only; lia
      · rw [ht1]; dsimp only; lia
      · rw [ht1]; dsimp only; lia
      · rw [ht1]
      · rw [ht1]
        dsimp only
        rw [hr, List.map_append] at r1
        exact r1
    · obtain ⟨pa, pb, rfl, hia, I2, hle⟩ := inv1 I ok hi e
      generalize hb : (en S i).toNat = b at I2
      have hbi : en S i = (b : Int) := by lia
      have hab : last ≤ b := by lia
      have hbx := I2.lst
      have ht1 : topL H₀ y = ((b : Int), 1, (i : Int)) := by rw [e]; unfold ev1; rw [hbi]
      have hpl2 : pa.length + (pb.length + 1) ≤ 6 := by rw [List.length_append, List.length_cons] at hplen; exact hplen
      have hlt6 : ∀ a ∈ pa ++ i :: pb, a < 6 := fun a ha => by have := hpath6 a ha; lia
      have hT2 : TR (toks ++ ([.t (cutS x last b)] ++ (List.replicate (pb.length + 1) (.g none) ++ pb.map fun k => .g (some k)))) (Str.empty, [], []) (pre x b, dueP S b, pa ++ pb) := by
        refine TR_append _ _ _ _ _ hT (TR_append _ _ _ _ _ (tr_text hx hab hbx fun k h1 h2 => due_act I hn h1 fun t ht => ?_) (TR_append _ _ _ (pre x b, dueP S b, pa) _ ?_ ?_))
        · have := m6 t ht
          rw [ht1] at this
          dsimp only at this
          lia
        · exact tr_close (by rw [dueP_len]; lia) (pb.length + 1) (i :: pb) pa rfl I.pnd hlt6 (by rw [List.length_append, List.length_cons]; lia)
        · exact tr_open (by rw [dueP_len]; lia) pb pa I2.pnd (fun a ha => by
            refine hlt6 a ?_
            rcases List.mem_append.mp ha with ha | ha
            · exact List.mem_append_left _ ha
            · exact List.mem_append_right _ (.tail _ ha)) (by rw [List.length_append]; lia)
      have hpb : ∀ k ∈ pb, k < S.length := fun k hk => hpath6 k (List.mem_append_right _ (.tail _ hk))
      have ho : rend (labOf S) (pb.map fun k => .g (some k)) = Txt.join (Str.ofString "") ((pb.map fun k : Nat => (k : Int)).map (tagOf (tagsTo S S.length))) := by
        rw [List.map_map]
        exact rend_open pb fun k hk => tagOf_eq (hpb k hk)
      have hr : rend (labOf S) (toks ++ ([.t (cutS x last b)] ++ (List.replicate (pb.length + 1) (.g none) ++ pb.map fun k => .g (some k)))) =
          rend (labOf S) toks ++ escS (Txt.slice x (some (last : Int)) (some (b : Int))) ++ Txt.mul (Str.ofString "</s>") (((pb.map fun k : Nat => (k : Int)).length + 1 : Nat) : Int) ++ Txt.join (Str.ofString "") ((pb.map fun k : Nat => (k : Int)).map (tagOf (tagsTo S S.length))) := by
        rw [rend_append, rend_append, rend_append, slice_cut hab hbx, ← ho, List.length_map, rend_close]
        show _ ++ (escS _ ++ Str.empty ++ (_ ++ _)) = _
        rw [Str.append_empty, Str.append_assoc, Str.append_assoc]
      have hgl : (grp (toks ++ ([.t (cutS x last b)] ++ (List.replicate (pb.length + 1) (.g none) ++ pb.map fun k => .g (some k))))).2.length = (grp toks).2.length + (0 + ((pb.length + 1) + pb.length)) := by
        rw [grp_len, grp_len, grp_len, grp_close, grp_open]; rfl
      have hol := open_len hlab pb (fun a ha => hlt6 a (List.mem_append_right _ (.tail _ ha)))
      have hcl := close_len (labOf S) (pb.length + 1)
      have hlen2 : (rend (labOf S) (toks ++ ([.t (cutS x last b)] ++ (List.replicate (pb.length + 1) (.g none) ++ pb.map fun k => .g (some k))))).length ≤ (rend (labOf S) toks).length + 400 := by
        rw [rend_append, rend_append, rend_append, Str.length_append, Str.length_append, Str.length_append, hcl]
        have := hcutl b hbx
        have e1 : (rend (labOf S) [.t (cutS x last b)]).length = (escS (cutS x last b)).length := by
          show (escS _ ++ Str.empty).length = _
          rw [Str.append_empty]
        lia
      obtain ⟨out, toks', r1, r2, r3, r4, r5⟩ := ih (popL H₀ y) b (pa ++ pb) _ hpl (by lia) I2 hT2 (by lia) (by lia)
      refine ⟨out, toks', ⟨H₀, y, rfl, by lia, by lia, ?_, ?_, by lia, ?_, ?_, by rw [List.length_map]; lia, hpq, .inr ⟨?_, pa.map (fun k : Nat => (k : Int)), pb.map (fun k : Nat => (k : Int)), ?_, ?_, ?_⟩⟩, r2, r3, r4, r5⟩
      · rw [ht1]; dsimp only; lia
      · rw [ht1]; dsimp only; lia
      · rw [ht1]; dsimp only; lia
      · rw [ht1]; dsimp only; lia
      · rw [ht1]
      · rw [ht1, List.map_append, List.map_cons]
      · rw [ht1]
        dsimp only
        intro hm
        obtain ⟨a, ha, ea⟩ := List.mem_map.mp hm
        have : a = i := by lia
        exact hia (this ▸ ha)
      · rw [ht1]
        dsimp only
        rw [hr, List.map_append] at r1
        exact r1
theorem heapTo_inv (S : List (Int × Int × Str)) : ∀ n : Nat, Heapy (heapTo S n) ∧ (heapTo S n).Nodup ∧ (heapTo S n).length = 2 * n ∧ ∀ t, t ∈ heapTo S n ↔ ∃ i, i < n ∧ (t = ev0 S i ∨ t = ev1 S i)
  | 0 => ⟨fun i _ h => absurd h (Nat.not_lt_zero _), List.nodup_nil, rfl, fun t => ⟨fun h => (nomatch h), fun ⟨i, h, _⟩ => absurd h (Nat.not_lt_zero _)⟩⟩
  | n + 1 => by
    obtain ⟨h1, h2, h3, h4⟩ := heapTo_inv S n
    rw [heapTo_succ]
    have p1 := pushL_perm (ev1 S n) (heapTo S n)
    have p2 := pushL_perm (ev0 S n) (pushL (ev1 S n) (heapTo S n))
    have p3 : (pushL (ev0 S n) (pushL (ev1 S n) (heapTo S n))).Perm (ev0 S n :: ev1 S n :: heapTo S n) := p2.trans (p1.cons _)
    have n1 : ev1 S n ∉ heapTo S n := fun h => by
      obtain ⟨i, hi, e | e⟩ := (h4 _).mp h
      · exact ev01_ne e.symm
      · have := ev1_inj e; lia
    have n0 : ev0 S n ∉ ev1 S n :: heapTo S n := fun h => by
      rcases List.mem_cons.mp h with e | h
      · exact ev01_ne e
      · obtain ⟨i, hi, e | e⟩ := (h4 _).mp h
        · have := ev0_inj e; lia
        · exact ev01_ne e
    refine ⟨pushL_heapy _ (pushL_heapy _ h1), p3.nodup_iff.mpr (List.nodup_cons.mpr ⟨n0, List.nodup_cons.mpr ⟨n1, h2⟩⟩), ?_, fun t => ?_⟩
    · have := p3.length_eq
      rw [List.length_cons, List.length_cons, h3] at this
      show (pushL (ev0 S n) (pushL (ev1 S n) (heapTo S n))).length = _
      lia
    · refine (p3.mem_iff (a := t)).trans ?_
      rw [List.mem_cons, List.mem_cons, h4]
      constructor
      · rintro (rfl | rfl | ⟨i, hi, h⟩)
        · exact ⟨n, Nat.lt_succ_self _, .inl rfl⟩
        · exact ⟨n, Nat.lt_succ_self _, .inr rfl⟩
        · exact ⟨i, Nat.lt_succ_of_lt hi, h⟩
      · rintro ⟨i, hi, h⟩
        by_cases e : i = n
        · subst e
          rcases h with rfl | rfl
          · exact .inl rfl
          · exact .inr (.inl rfl)
        · exact .inr (.inr ⟨i, by lia, h⟩)
theorem inv_start {S : List (Int × Int × Str)} {x : Str} (ok : SpOk S x) : Inv S x (heapTo S S.length) 0 [] := by
  obtain ⟨h1, h2, h3, h4⟩ := heapTo_inv S S.length
  have a0 : ∀ i, i < S.length → ev0 S i ∈ heapTo S S.length := fun i hi => (h4 _).mpr ⟨i, hi, .inl rfl⟩
  have a1 : ∀ i, i < S.length → ev1 S i ∈ heapTo S S.length := fun i hi => (h4 _).mpr ⟨i, hi, .inr rfl⟩
  refine ⟨h1, fun t ht => (h4 t).mp ht, h2, fun i hi => ?_, fun i => ?_, List.nodup_nil, Nat.zero_le _, fun t ht => ?_, fun i hi h => absurd (a0 i hi) h, fun i hi h => absurd (a1 i hi) h⟩
  · obtain ⟨j, hj, e | e⟩ := (h4 _).mp hi
    · rw [ev0_inj e]; exact a1 j hj
    · exact absurd e fun e => ev01_ne e
  · constructor
    · intro h; cases h
    · rintro ⟨h, h0, _⟩; exact absurd (a0 i h) h0
  · obtain ⟨j, hj, e | e⟩ := (h4 t).mp ht
    · rw [e]; exact (ok j hj).1
    · rw [e]
      have := ok j hj
      show ((0 : Nat) : Int) ≤ en S j
      omega
theorem labEmpty : LabOk Str.empty := labOk_of (by decide +kernel)
theorem base_code (ns : List Int) : ∀ c ∈ tl (baseS ns), c < 1114112 := by
  have hs : ∀ a : Int, ∀ c ∈ tl (sg8 a), c < 1114112 := by
    intro a
    have h1 := Int.fmod_nonneg_of_pos a (show (0 : Int) < 8 by decide)
    have h2 := Int.fmod_lt_of_pos a (show (0 : Int) < 8 by decide)
    unfold sg8
    generalize a.fmod 8 = r at h1 h2
    have : r = 0 ∨ r = 1 ∨ r = 2 ∨ r = 3 ∨ r = 4 ∨ r = 5 ∨ r = 6 ∨ r = 7 := by lia
    rcases this with rfl | rfl | rfl | rfl | rfl | rfl | rfl | rfl <;> decide +kernel
  have hj : ∀ ys : List Str, (∀ y ∈ ys, ∀ c ∈ tl y, c < 1114112) → ∀ c ∈ tl (Txt.join (Str.ofString "") ys), c < 1114112 := by
    intro ys
    unfold Txt.join
    rw [glued_eq_join]
    induction ys with
    | nil => intro _ c hc; cases hc
    | cons y r ih =>
      intro h c hc
      cases r with
      | nil => exact h y (.head _) c hc
      | cons z r =>
        rw [show Str.join (Str.ofString "") (y :: z :: r) = y ++ Str.ofString "" ++ Str.join (Str.ofString "") (z :: r) from rfl, tl_append, tl_append] at hc
        rcases List.mem_append.mp hc with hc | hc
        · rcases List.mem_append.mp hc with hc | hc
          · exact h y (.head _) c hc
          · rw [show tl (Str.ofString "") = [] from by decide +kernel] at hc
            cases hc
        · exact ih (fun w hw => h w (.tail _ hw)) c hc
  intro c hc
  unfold baseS at hc
  rw [tl_append] at hc
  rcases List.mem_append.mp hc with hc | hc
  · exact (show ∀ c ∈ tl (Str.ofString "&lt;<b&"), c < 1114112 by decide +kernel) c hc
  · exact hj _ (fun y hy => by
      obtain ⟨a, _, rfl⟩ := List.mem_map.mp hy
      exact hs a) c hc
theorem spans_get {ns : List Int} {i : Nat} (hi : i < (spansOf ns).length) : (spansOf ns).getD i (0, 0, Str.empty) = spanOf ((baseS ns).length : Int) ((numsOf ns).getD (2 * i) 0) ((numsOf ns).getD (2 * i + 1) 0) := by
  have hl : (spansOf ns).length = (numsOf ns).length / 2 := by unfold spansOf spansTo; rw [List.length_map, List.length_range]
  rw [List.getD_eq_getElem?_getD]
  unfold spansOf spansTo
  rw [List.getElem?_map, List.getElem?_range (by lia)]; rfl
theorem spans_ok (ns : List Int) : SpOk (spansOf ns) (baseS ns) := by
  intro i hi
  unfold bg en
  rw [spans_get hi]
  unfold spanOf
  generalize (numsOf ns).getD (2 * i) 0 = a
  generalize (numsOf ns).getD (2 * i + 1) 0 = b
  have hp : (0 : Int) < ((baseS ns).length : Int) + 1 := by omega
  have a1 := Int.fmod_nonneg_of_pos a hp
  have a2 := Int.fmod_lt_of_pos a hp
  have b1 := Int.fmod_nonneg_of_pos b hp
  have b2 := Int.fmod_lt_of_pos b hp
  dsimp only
  omega
theorem lab_ok (ns : List Int) (i : Nat) : LabOk (labOf (spansOf ns) i) := by
  by_cases hi : i < (spansOf ns).length
  · unfold labOf
    rw [spans_get hi]
    exact labS_ok _
  · unfold labOf
    rw [List.getD_eq_getElem?_getD, List.getElem?_eq_none (by lia)]
    exact labEmpty
theorem pure_law (ns : List Int) (h6 : ns.length ≤ 6) :
  (∀ i, i < (spansOf ns).length → QOk ((spansOf ns).getD i (0, 0, Str.empty)).2.2) ∧ (∀ c ∈ (baseS ns).cps.toList, c < 1114112) ∧ (∀ i, ∀ c ∈ (labOf (spansOf ns) i).cps.toList, c < 1114112) ∧
  ∃ out p0 ps, Runs (baseS ns) (tagsTo (spansOf ns) (spansOf ns).length) (2 * (spansOf ns).length) (heapTo (spansOf ns) (spansOf ns).length) (Str.ofString "") 0 [] out ∧ out.length ≤ 100000 ∧
    Txt.split out (Str.ofString "<") = p0 :: ps ∧ lacks p0 (Str.ofString ">") = true ∧ p0.length ≤ 1000 ∧ ps.length ≤ 200 ∧
    RdRuns (labOf (spansOf ns)) ps (uneS p0) (List.replicate (uneS p0).length []) [] (baseS ns, (List.range (baseS ns).length).map (dueAt (spansOf ns)), []) := by
  have hbl := baseS_len ns
  have hsl : (spansOf ns).length = (numsOf ns).length / 2 := by unfold spansOf spansTo; rw [List.length_map, List.length_range]
  have hnl : (numsOf ns).length = ns.length + 6 := by unfold numsOf; rw [List.length_append]; rfl
  have hlab : ∀ k, k < 6 → LabOk (labOf (spansOf ns) k) := fun k _ => lab_ok ns k
  refine ⟨fun i _ => (lab_ok ns i).q, base_code ns, fun i => (lab_ok ns i).code, ?_⟩
  obtain ⟨out, toks, r1, r2, r3, r4, r5⟩ := runs_of (x := baseS ns) (S := spansOf ns) (by lia) (by lia) (spans_ok ns) hlab (2 * (spansOf ns).length) (heapTo (spansOf ns) (spansOf ns).length) 0 [] []
    (heapTo_inv _ _).2.2.1 (by lia) (inv_start (spans_ok ns)) rfl (by show 0 + _ ≤ _; lia) (by show 0 + _ ≤ _; lia)
  have htg := TR_tags _ _ _ r5
  have hrd := TR_rd hlab toks (Str.empty, [], []) _ (Nat.zero_le _) r5
  have hgl := TR_len toks (Str.empty, [], []) _ r5 (Nat.zero_le _)
  have hel := esc_len (grp toks).1
  have e0 : (Str.empty : Str).length = 0 := rfl
  dsimp only at hgl
  rw [Str.empty_append, List.nil_append] at hrd
  refine ⟨out, escS (grp toks).1, (grp toks).2.map (segP (labOf (spansOf ns))), ?_, by lia, ?_, ?_, by lia, by rw [List.length_map]; lia, ?_⟩
  · have e : Str.ofString "" = rend (labOf (spansOf ns)) [] := by
      show Str.ofString "" = Str.empty
      decide +kernel
    rw [e]; exact r1
  · rw [r2]; exact rend_split hlab htg
  · exact lacks_of (c := 62) (by decide +kernel) fun hm => (esc_free hm).2 rfl
  · rw [une_esc]
    have ea : asc6 ([] : List Nat) = [] := by decide
    rw [ea] at hrd
    exact hrd
end
local macro_rules | `(tactic| walk_at "compareOp In str str") => `(tactic| refine in_no (by assumption) ?_)
local macro_rules | `(tactic| walk_at "subscriptTail Name Constant ref int") => `(tactic| k_dflt (refine list_sub (by k_asm) (by k_mem) _ (by first | with_reducible assumption | rfl) (by omega) (by first | with_reducible assumption | rfl) ?_ (by with_unfolding_all rfl)))
local macro_rules | `(tactic| walk_at "subscriptTail Call") => `(tactic| k_dflt (refine list_sub (by k_asm) (by k_mem) _ (by first | with_reducible assumption | rfl) (by omega) (by first | with_reducible assumption | rfl) ?_ (by with_unfolding_all rfl)))
local macro_rules | `(tactic| walk_at "subscriptTail Name Slice ref ref") => `(tactic| (k_dflt (first | refine slice_tail (s := ⟨_, _, _, _, _⟩) (by k_asm) (by k_asm) (by k_mem) (by first | omega | (rw [strValues, List.length_map, List.length_cons]; omega)) ?_ (by with_unfolding_all rfl) (by kmk_pure) | refine slice_last (s := ⟨_, _, _, _, _⟩) (by k_asm) (by k_asm) (by k_mem) (by omega) ?_ (by with_unfolding_all rfl) (by kmk_pure)); intro D' h' F' N' l1; (try k_lt l1)))
local macro_rules | `(tactic| walk_at "binaryOp Add ref ref") => `(tactic| (k_dflt (refine add_two (by k_asm) (by k_asm) (by k_mem) (by k_mem) (by first | omega | (simp only [List.length_cons, List.length_nil]; omega)) ?_); intro D' h' F' N' l1; (try k_lt l1)))
local macro_rules | `(tactic| walk_at "compareOp Eq str str") => `(tactic| refine eq_no (by assumption) ?_)
local macro_rules | `(tactic| walk_at "subscriptTail Name Slice str ref") => `(tactic| (k_dflt (refine slice_strP (s := ⟨_, _, _, _, _⟩) (by k_asm) (by k_asm) (by assumption) ?_ (by with_unfolding_all rfl) (by intro _; with_unfolding_all rfl)); intro h' t' k hk F' N'; (have hk0 : 0 < k := Nat.lt_of_lt_of_le (by with_unfolding_all exact Nat.succ_pos _) hk); clear hk))
inductive RInv (L' ql : Addr) (lab : Nat → Str) (ps : List Str) (out : Str × List (List Nat) × List Nat) (news : List (Addr × Obj)) (qv : List Value) (i : Nat) (m : Str → Option Value) (nx : List (Addr × Obj)) : Prop
  | mk (u : Str → Option Value) (text : Str) (tt : Tok) (oa : Addr) (ov : List Value) (on : Nat) (pa : Addr) (pv : List Value) (pn : Nat) (oc : Obj) (ex : List (Addr × Obj)) (over : List (List Nat)) (path : List Nat)
      (hm : m = lk [(Str.ofString "text", .str text tt), (Str.ofString "over", .ref oa)] u) (hn : nx = (L' + 1, oc) :: ex) (hc : oc.data = .cell (some (.ref pa))) (ho : (oa, listOf ov.toArray on) ∈ ex) (hp : (pa, listOf pv.toArray pn) ∈ ex)
      (hO : DatAll ex ov (over.map fun o => Dat.list (o.map (pd lab)))) (hP : DatAll ex pv (path.map (pd lab))) (hw : ∀ p ∈ news, p ∈ ex) (hs : ∀ p ∈ ex, p.1 ≠ L' + 1) (hq : (ql, listOf qv.toArray 0) ∈ ex) (hr : RdRuns lab (ps.drop i) text over path out)
inductive RJ (s : Shared) (g' : Heap) (L' : Addr) (lab : Nat → Str) (text : Str) (tt : Tok) (oa : Addr) (rst : Str) (tc : Tok) (path' : List Nat) (ex rs : List (Addr × Obj)) (f : Flow) (s' : Shared) : Prop
  | mk (h9 : Heap) (tk9 : Nat) (u : Str → Option Value) (D9 : Addr) (pv9 : List Value) (oc9 : Obj) (ne : List (Addr × Obj)) (ef : f = .next) (es : s' = { s with heap := h9, toks := tk9 })
      (F : Fr g' L' h9 (lk [(Str.ofString "text", .str text tt), (Str.ofString "over", .ref oa), (Str.ofString "rest", .str rst tc)] u)) (N : News g' L' h9 ((L' + 1, oc9) :: (ne ++ rs))) (hP : DatAll (ne ++ ex) pv9 (path'.map (pd lab))) (hm : (D9, listOf pv9.toArray 0) ∈ ne)
      (hg : ∀ q ∈ ne, ∀ p ∈ (L' + 1, oc9) :: rs, p.1 < q.1) (hd : oc9.data = .cell (some (.ref D9)))
set_option maxRecDepth 100000 in
set_option maxHeartbeats 8000000 in
theorem read_c (w : World) (p : Program) (loose : List Str) (mean : ExcName → Option Value) (mg mb : Str → Option Value) (news : List (Addr × Obj)) (pg : Str) (t : Tok) (lab : Nat → Str) (p0 : Str) (ps : List Str) (out : Str × List (List Nat) × List Nat)
   (hx : pg.length ≤ 100000) (hs : Txt.split pg (Str.ofString "<") = p0 :: ps) (h0 : lacks p0 (Str.ofString ">") = true) (hp0 : p0.length ≤ 1000) (hps : ps.length ≤ 200)
   (hrun : RdRuns lab ps (uneS p0) (List.replicate (uneS p0).length []) [] out) :
    Sp0 w p loose mean mg mb 91 [.str pg t] 9 120 news (fun v news' => DatIn news' v (Dat.tuple [.str out.1, .list (out.2.1.map fun o => Dat.list (o.map (pd lab))), .list (out.2.2.map (pd lab))]) ∧ ∀ p ∈ news, p ∈ news') := by
  unfold Sp0
  k_fill
  w_top off
  intro dp un gd cn cs a ccd cl outer A₀ base h₀ L m s Q E B F X N T hk hd hu hret
  refine wpAny_call ?_
  k_dflt (refine' code_defC ?k1 ?k2 ?k3 ?k4 ?k5 ?kA ?kF ?kK ?k6 ?k7 ?k8 ?k9 ?kB ?kD ?_ ?c2 ?c3 ?c4; (case kA => exact rfl); (case kF => exact rfl); (case kK => assumption); (case k1 => k_asm); (case k2 => k_asm); (case k3 => k_asm); (case k4 => k_asm); (case k5 => k_asm); (case k6 => k_is); (case k7 => k_is); (case k8 => ktr_room); (case k9 => first | exact BindsTo.of_eq rfl | exact binds_K (by k_in) rfl (by k_is) rfl rfl rfl); (case kB => exact rfl); (case kD => decide +kernel); (case c2 => exact rfl); (case c3 => exact rfl); (case c4 => exact rfl); k_whole)
  intro g' L' h' tk' cells' FG' F' N' Y' B' X' T' l1
  k_cells Y'
  (try simp only [List.cons_append, List.nil_append] at N')
  (try dsimp only)
  (try k_lift B')
  (try k_fold)
  rename_i oc hoc
  replace hoc : oc.data = .cell none := hoc
  k_steps
  refine KSpl.split1 (by k_asm) (by k_asm) (by decide +kernel) ?_ (by rw [sizeLine_eq]; lia)
  intro pl sl h1 tk1 e1 a1 F1 N1 lp1
  rw [hs] at e1
  refine hideG fun G hG => ?_
  obtain ⟨t0, l2, rfl, e2⟩ := KSpl.cons_of e1
  have hx0 : (strValues ((p0, t0) :: l2))[0]? = some (.str p0 t0) := rfl
  have hz0 : (0 : Int) = ((0 : Nat) : Int) := rfl
  refine hG ?_
  clear hG
  k_steps
  rename Fr _ _ _ _ => F2
  rename News _ _ _ _ => N2
  refine (unescape_c w _ _ _ _ _ _ _ _ (Nat.le_trans hp0 (by decide))).useS B' F2 X' N2 T' rfl (by show dp + 4 < recursionLimit; exact room hd (by decide)) (by show un + 33 < cLine; exact room hu (by decide)) ?_
  intro t3 h3 tk3 F3 N3
  clear F2 N2
  k_steps
  (try k_fold)
  refine Assign_ListComp_S (by assumption) (by rfl) (by with_unfolding_all rfl) (by with_unfolding_all rfl) (by decide) (by rfl) (by decide) (by rfl) (by rfl) (by rfl) ?_
  k_steps
  rename News _ _ _ _ => N5
  have hu0 := une_len hp0
  refine ⟨_, _, _, rfl, rfl, by assumption, N5, by rw [sizeLine_eq]; lia, ?_⟩
  intro s₂ hR1
  refine hideG fun G hG => ?_
  obtain ⟨g2, rfl⟩ := hR1
  refine hG ?_
  clear hG
  (try dsimp only)
  refine comp_ind (n := (uneS p0).length) (fun j ys nx => ∃ ex, nx = ex ++ _ ∧ DatAll ex ys (List.replicate j (Dat.list [])) ∧ (∀ p ∈ ex, L' + 1 < p.1)) ?ct ?cf _ 0 [] _ (by rw [Nat.zero_add]; rfl) ⟨[], rfl, .nil, fun _ h => nomatch h⟩
  case ct =>
    intro j ys nx v I oI Cc oC D m₂ h6 tk6 E' hj hR1 hR2 hC hx6 F6 N6 off ne
    refine hideG fun G hG => ?_
    obtain ⟨ex, rfl, hys, hex⟩ := hR1
    obtain ⟨c, uc, hc, rfl⟩ := hR2
    refine hG ?_
    clear hG
    k_steps
    rename_i ni h7 F7 N7 l7
    refine hideG fun G hG => ?_
    obtain ⟨l7a, l7b, l7c, l7d⟩ := l7
    have l7e := allLt_mem l7d
    refine hG ?_
    clear hG
    refine LCg.CompEnd.intro F7 N7 ((ni, listOf ([] : List Value).toArray 0) :: (ex ++ _)) ?sub ⟨⟨Nat.ne_of_gt l7a, Nat.ne_of_gt l7b, Nat.ne_of_gt l7c⟩, off⟩ trivial ⟨(ni, listOf ([] : List Value).toArray 0) :: ex, rfl, ?da, ?hex⟩
    case sub =>
      intro p hp
      revert p hp; refine fc ?_ (fun p hp => ?_)
      · exact .tail _ (.head _)
      · revert p hp; refine fc ?_ (fun p hp => ?_)
        · exact .tail _ (.tail _ (.head _))
        · revert p hp; refine fc ?_ (fun p hp => ?_)
          · exact .tail _ (.tail _ (.tail _ (.head _)))
          · revert p hp; refine fc ?_ (fun p hp => ?_)
            · exact .head _
            · exact .tail _ (.tail _ (.tail _ (.tail _ hp)))
    case da =>
      rw [List.replicate_succ']
      exact DatAll.append (hys.mono fun p hp => .tail _ hp) (.one (DatIn.list (vs := []) (.head _) .nil))
    case hex =>
      intro p hp
      revert p hp; refine fc ?_ (fun p hp => ?_)
      · exact l7e (L' + 1, _) (List.mem_append_right _ (.tail _ (.head _)))
      · exact hex p hp
  case cf =>
    intro ys nx hR1
    refine hideG fun G hG => ?_
    obtain ⟨ex, rfl, hys, hex⟩ := hR1
    refine hG ?_
    clear hG
    intro D h6 tk6 F6 N6 off
    have offm := off1_mem off
    have lpb : L' + 1 < pl := lp1 (L' + 1, _) (.head _)
    have hDc : ¬ D = L' + 1 := fun e => offm (L' + 1, _) (List.mem_append_right _ (.tail _ (.head _))) e.symm
    clear N5
    refine hideG fun G hG => ?_
    obtain ⟨rest, hrest⟩ : ∃ rest, rest = (D, LCg.lst ys) :: (ex ++ (pl, listOf (strValues ((p0, t0) :: l2)).toArray 0) :: news) := ⟨_, rfl⟩
    have r1 : (D, listOf ys.toArray ys.length) ∈ rest := hrest ▸ .head _
    have r2 : (pl, listOf (strValues ((p0, t0) :: l2)).toArray 0) ∈ rest := hrest ▸ .tail _ (List.mem_append_right _ (.head _))
    have r3 : ∀ p ∈ news, p ∈ rest := fun p hp => hrest ▸ .tail _ (List.mem_append_right _ (.tail _ hp))
    have r4 : ∀ p ∈ ex, p ∈ rest := fun p hp => hrest ▸ .tail _ (List.mem_append_left _ hp)
    have r5 : ∀ p ∈ rest, p.1 ≠ L' + 1 := by
      intro p hp
      rw [hrest] at hp
      revert p hp; refine fc ?_ (fun p hp => ?_)
      · exact hDc
      · replace hp := List.mem_append.mp hp; rcases hp with hp | hp
        · exact Nat.ne_of_gt (hex p hp)
        · revert p hp; refine fc ?_ (fun p hp => ?_)
          · exact Nat.ne_of_gt lpb
          · exact Nat.ne_of_lt (Nat.lt_succ_of_lt (l1 p hp))
    have N7 : News g' L' h6 ((L' + 1, oc) :: rest) := by
      intro p hp
      refine N6 p ?_
      revert p hp; refine fc ?_ (fun p hp => ?_)
      · exact .tail _ (List.mem_append_right _ (.tail _ (.head _)))
      · rw [hrest] at hp
        revert p hp; refine fc ?_ (fun p hp => ?_)
        · exact .head _
        · replace hp := List.mem_append.mp hp; rcases hp with hp | hp
          · exact .tail _ (List.mem_append_left _ hp)
          · revert p hp; refine fc ?_ (fun p hp => ?_)
            · exact .tail _ (List.mem_append_right _ (.head _))
            · exact .tail _ (List.mem_append_right _ (.tail _ (.tail _ hp)))
    have hsl : l2.length ≤ 200 := by
      have := congrArg List.length e2
      rw [List.length_map] at this; lia
    clear N6 off offm lp1
    refine hG ?_
    clear hG
    k_steps
    rename Fr _ _ _ _ => F8
    (try k_fold)
    refine For_invVF F8 (by rfl) (by rfl) ?_
    k_steps
    rename_i pa0 _ lpa h8 oc2 N8 doc ql h9 F9 N9 lql
    refine hideG fun G hG => ?_
    obtain ⟨lpa1, lpa2⟩ := lpa
    obtain ⟨lql1, lql2, lql3⟩ := lql
    have lql4 := allLt_mem lql3
    have lpa3 := allLt_mem lpa2
    obtain ⟨ex0, hex0⟩ : ∃ ex0, ex0 = (ql, listOf (strValues l2).toArray 0) :: (pa0, listOf ([] : List Value).toArray 0) :: rest := ⟨_, rfl⟩
    have N9' : News g' L' h9 ((L' + 1, oc2) :: ex0) := by
      intro p hp
      refine N9 p ?_
      revert p hp; refine fc ?_ (fun p hp => ?_)
      · exact .tail _ (.tail _ (.head _))
      · rw [hex0] at hp
        revert p hp; refine fc ?_ (fun p hp => ?_)
        · exact .head _
        · revert p hp; refine fc ?_ (fun p hp => ?_)
          · exact .tail _ (.head _)
          · exact .tail _ (.tail _ (.tail _ hp))
    have s1 : (ql, listOf (strValues l2).toArray 0) ∈ ex0 := hex0 ▸ .head _
    have s2 : (pa0, listOf ([] : List Value).toArray 0) ∈ ex0 := hex0 ▸ .tail _ (.head _)
    have s3 : ∀ p ∈ rest, p ∈ ex0 := fun p hp => hex0 ▸ .tail _ (.tail _ hp)
    have s4 : ∀ p ∈ ex0, p.1 ≠ L' + 1 := by
      intro p hp
      rw [hex0] at hp
      revert p hp; refine fc ?_ (fun p hp => ?_)
      · exact Nat.ne_of_gt lql2
      · revert p hp; refine fc ?_ (fun p hp => ?_)
        · exact Nat.ne_of_gt lpa1
        · exact r5 p hp
    have s5 : DatAll ex0 ys ((List.replicate (uneS p0).length ([] : List Nat)).map fun o => Dat.list (o.map (pd lab))) := by
      rw [List.map_replicate]
      exact hys.mono fun p hp => s3 p (r4 p hp)
    clear N8 N9
    try clear N7
    refine hG ?_
    clear hG
    refine kdl_iter (RInv L' ql lab ps out news (strValues l2)) (by rfl) (.tail _ s1) F9 N9' ?init ?turn ?done
    case init =>
      refine ⟨_, uneS p0, t3, D, ys, ys.length, pa0, [], 0, oc2, ex0, _, [], (lk_as ?_).symm, rfl, doc, s3 _ r1, s2, s5, .nil, fun p hp => s3 p (r3 p hp), s4, s1, hrun⟩
      exact ⟨rfl, rfl, trivial⟩
    case done =>
      intro m1 nx h tk hI F3 N3
      clear F8 F9 N9'
      refine hideG fun G hG => ?_
      obtain ⟨u, text, tt, oa, ov, on, pa, pv, pn, oc, ex, over, path, rfl, rfl, hoc3, ho1, hp1, hO, hP, hnw, hsp, hql, hrd⟩ := hI
      dsimp only [lk] at F3
      refine hG ?_
      k_steps
      rename Fr _ _ _ _ => kF
      rename News _ _ _ _ => kN
      have e0 : ps.drop (strValues l2).length = [] := List.drop_of_length_le (by rw [← e2, strValues, List.length_map, List.length_map]; exact Nat.le_refl _)
      rw [e0] at hrd
      obtain rfl : out = _ := hrd
      refine hret _ _ _ _ ?_ kF (news_skip2 kN)
      exact ⟨DatIn.tuple (vs := [_, _, _]) (.head _) (.cons (.str _ _) (.cons (DatIn.list (.tail _ ho1) (hO.mono fun p hp => .tail _ hp)) (.cons (DatIn.list (.tail _ hp1) (hP.mono fun p hp => .tail _ hp)) .nil))), fun p hp => .tail _ (hnw p hp)⟩
    intro i v m1 nx h tk own hv hoff hqx hI F3 N3
    clear F8 F9 N9'
    refine hideG fun G hG => ?_
    obtain ⟨u, text, tt, oa, ov, on, pa, pv, pn, oc, ex, over, path, rfl, rfl, hoc3, ho1, hp1, hO, hP, hnw, hsp, hql, hrd⟩ := hI
    dsimp only [lk] at F3
    obtain ⟨part, pt, rfl, hpart⟩ := strv_get hv
    rw [e2] at hpart
    have hdrop : ps.drop i = part :: ps.drop (i + 1) := by
      obtain ⟨hi, hg⟩ := List.getElem?_eq_some_iff.mp hpart
      rw [List.drop_eq_getElem_cons hi, hg]
    rw [hdrop] at hrd
    obtain ⟨tag, rst, path', hpt, z1, z2, z3, z4, z5, z6, hl1, hl2, hnd, hlt6, hcase, hrd⟩ := hrd
    clear hdrop
    dsimp only [List.cons_append] at N3
    obtain ⟨rs, hrs⟩ : ∃ rs, rs = ex ++ own := ⟨_, rfl⟩
    rw [← hrs] at N3
    have q1 : (oa, listOf ov.toArray on) ∈ rs := hrs ▸ List.mem_append_left _ ho1
    have q2 : (pa, listOf pv.toArray pn) ∈ rs := hrs ▸ List.mem_append_left _ hp1
    have q3 : ∀ p ∈ rs, p.1 ≠ L' + 1 := by
      intro p hp
      rw [hrs] at hp
      replace hp := List.mem_append.mp hp; rcases hp with hp | hp
      · exact hsp p hp
      · exact hoff p hp _ (.head _)
    have q4 : DatAll rs pv (path.map (pd lab)) := hP.mono fun p hp => hrs ▸ List.mem_append_left _ hp
    have hpl : pv.length = path.length := by rw [hP.length, List.length_map]
    have hol : ov.length = over.length := by rw [hO.length, List.length_map]
    refine hG ?_
    clear hG
    k_steps
    refine KXpa.partition (p := tag) (q := Str.ofString ">") (r := rst) (by k_asm) (by k_asm) (by decide +kernel) (by rw [hpt]) (by rw [hpt]) (by rw [hpt]) (by rw [sizeLine_eq]; lia) ?_
    intro T ta tb tc h4 tk4 F4 N4 lT
    try k_lt lT
    repeat' (first | (k_unfold; (try dsimp only)) | ((fail_if_success (with_reducible refine atIfC ?_)); first | walk1 | (dsimp only; walk1)))
    refine wpAny_mono (Q := RJ s g' L' lab text tt oa rst tc path' ex rs) ?ifA ?ifT (fun _ _ e => e)
    case ifT =>
      intro f s' hJ
      refine hideG fun G hG => ?_
      obtain ⟨h9, tk9, u9, D9, pv9, oc9, ne, rfl, rfl, F9, NB, hP9, hm9, g1, doc9⟩ := hJ
      dsimp only [lk] at F9
      obtain ⟨r9, hr9⟩ : ∃ r9, r9 = ne ++ rs := ⟨_, rfl⟩
      rw [← hr9] at NB
      have g2 : ∀ p ∈ r9, p.1 ≠ L' + 1 := by
        intro p hp
        rw [hr9] at hp
        replace hp := List.mem_append.mp hp; rcases hp with hp | hp
        · exact Nat.ne_of_gt (g1 p hp _ (.head _))
        · exact q3 p hp
      have g3 : ∀ p ∈ rs, p ∈ r9 := fun p hp => hr9 ▸ List.mem_append_right _ hp
      have g4 : ∀ p ∈ ne, p ∈ r9 := fun p hp => hr9 ▸ List.mem_append_left _ hp
      have g5 := g3 _ q1
      have g6 := g4 _ hm9
      have g7 : ∀ p ∈ ne ++ ex, p ∈ r9 := fun p hp => (List.mem_append.mp hp).elim (g4 p) fun hp => g3 p (hrs ▸ List.mem_append_left _ hp)
      refine hG ?_
      clear hG
      (try dsimp only)
      k_steps
      refine (unescape_c w _ _ _ _ _ _ _ _ (Nat.le_trans z2 (by decide))).useS B' F9 X' NB T' rfl (by show dp + 4 < recursionLimit; exact room hd (by decide)) (by show un + 33 < cLine; exact room hu (by decide)) ?_
      intro t12 h12 tk12 F12 N12
      clear F9 NB
      k_steps
      (try k_fold)
      refine ListComp_S (by assumption) (by with_unfolding_all rfl) (by decide) (by rfl) (by decide) (by rfl) ?_
      k_steps
      rename News _ _ _ _ => N13
      refine ⟨_, _, _, rfl, rfl, by assumption, N13, by rw [sizeLine_eq]; lia, ?_⟩
      intro s₂ hR1
      refine hideG fun G hG => ?_
      obtain ⟨g2', rfl⟩ := hR1
      refine hG ?_
      clear hG
      (try dsimp only)
      refine comp_ind (n := (uneS rst).length) (fun j ys nx => ∃ ex2, nx = (L' + 1, oc9) :: (ex2 ++ r9) ∧ DatAll (ex2 ++ (ne ++ ex)) ys (List.replicate j (Dat.list ((asc6 path').map (pd lab)))) ∧ (∀ q ∈ ex2, ∀ p ∈ (L' + 1, oc9) :: r9, p.1 < q.1)) ?dtA ?dfA _ 0 [] _ (by rw [Nat.zero_add]; rfl) ⟨[], rfl, .nil, fun _ h => nomatch h⟩
      case dtA =>
        intro j ys3 nx v I oI Cc oC D2 m₂ h14 tk14 E' hj hR1 hR2 hC hx6 F14 N14 off nei
        refine hideG fun G hG => ?_
        obtain ⟨ex2, rfl, hys2, hex2⟩ := hR1
        obtain ⟨c, uc, hc, rfl⟩ := hR2
        refine hG ?_
        clear hG
        k_steps
        rename Fr _ _ _ _ => F15
        rename News _ _ _ _ => N15
        refine sorted_path F15 N15 (.tail _ (.tail _ (.tail _ (.tail _ (List.mem_append_right _ g6))))) hP9 (fun p hp => .tail _ (.tail _ (.tail _ (.tail _ (List.mem_append_right _ (g7 p hp)))))) hnd hlt6 ?_
        intro D3 h16 vs3 c3 F16 N16 l16 hD3
        refine LCg.CompEnd.intro F16 N16 ((L' + 1, oc9) :: (((D3, listOf vs3.toArray c3) :: ex2) ++ r9)) ?sub2 ⟨off.1, ⟨Nat.ne_of_gt (l16 (I, oI) (.head _)), Nat.ne_of_gt (l16 (Cc, oC) (.tail _ (.head _))), Nat.ne_of_gt (l16 (D2, LCg.lst ys3) (.tail _ (.tail _ (.head _))))⟩, off.2⟩ trivial ⟨(D3, listOf vs3.toArray c3) :: ex2, rfl, ?da2, ?hx2⟩
        case sub2 =>
          intro p hp
          revert p hp; refine fc ?_ (fun p hp => ?_)
          · exact .tail _ (.head _)
          · revert p hp; refine fc ?_ (fun p hp => ?_)
            · exact .tail _ (.tail _ (.head _))
            · revert p hp; refine fc ?_ (fun p hp => ?_)
              · exact .tail _ (.tail _ (.tail _ (.head _)))
              · revert p hp; refine fc ?_ (fun p hp => ?_)
                · exact .tail _ (.tail _ (.tail _ (.tail _ (.head _))))
                · revert p hp; refine fc ?_ (fun p hp => ?_)
                  · exact .head _
                  · exact .tail _ (.tail _ (.tail _ (.tail _ (.tail _ hp))))
        case da2 =>
          rw [List.replicate_succ']
          exact DatAll.append (hys2.mono fun p hp => .tail _ hp) (.one (DatIn.list (.head _) (hD3.mono fun p hp => .tail _ (List.mem_append_right _ hp))))
        case hx2 =>
          intro q hq p hp
          revert q hq; refine fc ?_ (fun q hq => ?_)
          · refine l16 p (.tail _ (.tail _ (.tail _ ?_)))
            revert p hp; refine fc ?_ (fun p hp => ?_)
            · exact .head _
            · exact .tail _ (List.mem_append_right _ hp)
          · exact hex2 q hq p hp
      case dfA =>
        intro ys3 nx hR1
        refine hideG fun G hG => ?_
        obtain ⟨ex2, rfl, hys2, hex2⟩ := hR1
        refine hG ?_
        clear hG
        intro D2 h17 tk17 F17 N17 off2
        have hyl : ys3.length = (uneS rst).length := by rw [hys2.length, List.length_replicate]
        have g8 : (oa, listOf ov.toArray on) ∈ ex2 ++ r9 := List.mem_append_right _ g5
        clear N13
        k_steps
        rename_i DE _ lE hE FE NE
        refine hideG fun G hG => ?_
        obtain ⟨lE1, lE2, lE3⟩ := lE
        have lE4 := allLt_mem lE3
        refine hG ?_
        clear hG
        refine InvEndG.intro FE NE (nx := (L' + 1, oc9) :: ((DE, listOf (ov ++ ys3).toArray 0) :: (ex2 ++ (ne ++ ex)))) ⟨?jAq, _, text ++ uneS rst, _, DE, ov ++ ys3, 0, D9, pv9, 0, oc9, _, over ++ List.replicate (uneS rst).length (asc6 path'), path', (lk_as (by exact ⟨rfl, rfl, trivial⟩)).symm, rfl, doc9, .head _, ?jAp, ?jAo, ?jAP, ?jAn, ?jAs, ?jAql, hrd⟩ ?jAa ?jAN ?jAO
        case jAq => exact .tail _ (.tail _ (List.mem_append_right _ (List.mem_append_right _ hql)))
        case jAp => exact .tail _ (List.mem_append_right _ (List.mem_append_left _ hm9))
        case jAo =>
          rw [List.map_append, List.map_replicate]
          exact DatAll.append (hO.mono fun p hp => .tail _ (List.mem_append_right _ (List.mem_append_right _ hp))) (hys2.mono fun p hp => .tail _ hp)
        case jAP => exact hP9.mono fun p hp => .tail _ (List.mem_append_right _ hp)
        case jAn => exact fun p hp => .tail _ (List.mem_append_right _ (List.mem_append_right _ (hnw p hp)))
        case jAql => exact .tail _ (List.mem_append_right _ (List.mem_append_right _ hql))
        case jAs =>
          intro p hp
          revert p hp; refine fc ?_ (fun p hp => ?_)
          · exact Nat.ne_of_gt lE2
          · replace hp := List.mem_append.mp hp; rcases hp with hp | hp
            · exact Nat.ne_of_gt (hex2 p hp _ (.head _))
            · replace hp := List.mem_append.mp hp; rcases hp with hp | hp
              · exact Nat.ne_of_gt (g1 p hp _ (.head _))
              · exact hsp p hp
        case jAa =>
          intro p hp b hb
          obtain ⟨q, hq, rfl⟩ := List.mem_map.mp hb
          clear hb
          have hpr : p ∈ rs := hrs ▸ List.mem_append_right _ hp
          revert q hq; refine fc ?_ (fun q hq => ?_)
          · exact q3 p hpr
          · revert q hq; refine fc ?_ (fun q hq => ?_)
            · exact Nat.ne_of_lt (lE4 p (List.mem_append_right _ (g3 p hpr)))
            · replace hq := List.mem_append.mp hq; rcases hq with hq | hq
              · exact Nat.ne_of_lt (hex2 q hq p (.tail _ (g3 p hpr)))
              · replace hq := List.mem_append.mp hq; rcases hq with hq | hq
                · exact Nat.ne_of_lt (g1 q hq p (.tail _ hpr))
                · exact hoff p hp q.1 (.tail _ (List.mem_map_of_mem hq))
        case jAN =>
          intro p hp
          revert p hp; refine fc ?_ (fun p hp => ?_)
          · exact .tail _ (.tail _ (.head _))
          · revert p hp; refine fc ?_ (fun p hp => ?_)
            · exact .head _
            · replace hp := List.mem_append.mp hp; rcases hp with hp | hp
              · exact .tail _ (.tail _ (.tail _ (List.mem_append_left _ hp)))
              · replace hp := List.mem_append.mp hp; rcases hp with hp | hp
                · exact .tail _ (.tail _ (.tail _ (List.mem_append_right _ (g4 p hp))))
                · exact .tail _ (.tail _ (.tail _ (List.mem_append_right _ (g3 p (hrs ▸ List.mem_append_left _ hp)))))
        case jAO =>
          exact fun p hp => .tail _ (.tail _ (.tail _ (List.mem_append_right _ (g3 p (hrs ▸ List.mem_append_right _ hp)))))
    case ifA =>
      rcases hcase with ⟨rfl, ep⟩ | ⟨hne, k, ep, hok⟩
      · k_steps
        rename_i D9 _ l9 h9 oc9 F9 N9 doc9
        obtain ⟨l9a, l9b, l9c⟩ := l9
        have l9d := allLt_mem l9c
        obtain ⟨ne, hne9⟩ : ∃ ne, ne = [(D9, listOf pv.dropLast.toArray 0)] := ⟨_, rfl⟩
        have g1 : ∀ q ∈ ne, ∀ p ∈ (L' + 1, oc9) :: rs, p.1 < q.1 := by
          intro q hq p hp
          rw [hne9] at hq
          rw [List.mem_singleton.mp hq]
          revert p hp; refine fc ?_ (fun p hp => ?_)
          · exact l9b
          · exact l9d p hp
        have NB : News g' L' h9 ((L' + 1, oc9) :: (ne ++ rs)) := by
          intro p hp
          refine N9 p ?_
          rw [hne9] at hp
          revert p hp; refine fc ?_ (fun p hp => ?_)
          · exact .tail _ (.tail _ (.head _))
          · revert p hp; refine fc ?_ (fun p hp => ?_)
            · exact .head _
            · exact .tail _ (.tail _ (.tail _ hp))
        have hP9 : DatAll (ne ++ ex) (pv.dropLast) ((path.dropLast).map (pd lab)) := by
          rw [List.map_dropLast]
          exact datAll_dropLast (hP.mono fun p hp => List.mem_append_right _ hp)
        have hm9 : (D9, listOf (pv.dropLast).toArray 0) ∈ ne := hne9 ▸ .head _
        generalize pv.dropLast = pv9 at hP9 hm9
        exact ⟨_, _, _, D9, pv9, oc9, ne, rfl, rfl, fr_as [(Str.ofString "text", .str text tt), (Str.ofString "over", .ref oa), (Str.ofString "rest", .str rst tc)] F9 ⟨rfl, rfl, rfl, trivial⟩, NB, (by rw [ep]; exact hP9), hm9, g1, doc9⟩
      · obtain ⟨ht1, ht2, ⟨ya, yb, yc, ht3, ht4, ht5⟩, ht6, ht7⟩ := hok
        have ht2' : Txt.find tag (Str.ofString " l=") = ((7 : Nat) : Int) := ht2
        k_steps
        refine index_at (k := 7) (by rfl) ht2' ?_
        k_steps
        rename_i _ qt kT F5 N5 hk0
        refine display_2 F5 N5 (by decide) (Top.nolimit T') ?_
        intro d h6 tk6 F6 N6 hlt lo
        clear F5 N5
        have b1 : ∀ n, (kT + n : Nat) ≠ (0 : Nat) := fun n => Nat.ne_of_gt (Nat.lt_of_lt_of_le hk0 (Nat.le_add_right _ _))
        (try k_lt hlt)
        k_steps
        rename Fr _ _ _ _ => F6
        rename News _ _ _ _ => N6
        refine (unescape2_c w _ _ _ _ _ _ _ _ d (uEnt kT) 2 ht6 (.head _) (by show [Str.ofString "&quot;", Str.ofString "&#10;"].Nodup; decide) lo ?hok (by show 2 ≤ 3; decide) (by simp [uEnt]) (by show ((unq2 _).length + 1) * 225 ≤ _; have := unq_len ht6; lia) (unq_len2 ht6 kT)).useS B' F6 X' N6 T' rfl (by show dp + 6 < recursionLimit; exact room hd (by decide)) (by show un + 63 < cLine; exact room hu (by decide)) ?_
        case hok =>
          intro p hp
          simp only [uEnt, List.mem_cons, List.not_mem_nil, or_false] at hp
          rcases hp with rfl | rfl
          · exact ⟨_, _, rfl, b1 0, b1 1, Nat.ne_of_lt (Nat.lt_succ_self kT), by show (Str.ofString _ == Str.ofString _) = false; decide +kernel, by decide⟩
          · exact ⟨_, _, rfl, b1 2, b1 3, Nat.ne_of_lt (Nat.lt_succ_self (kT + 2)), by show (Str.ofString _ == Str.ofString _) = false; decide +kernel, by decide⟩
        intro t7 h7 tk7 F7 N7
        clear F6 N6
        rw [show Txt.replace (replAll (uEnt kT) (Txt.replace (Txt.replace (Txt.slice tag (some 11) (some (-1))) (Str.ofString "&lt;") (Str.ofString "<")) (Str.ofString "&gt;") (Str.ofString ">"))) (Str.ofString "&amp;") (Str.ofString "&") = lab k from ht7]
        k_steps
        refine KSpl.split1 (by k_asm) (by k_asm) (by decide +kernel) ?_ (by rw [sizeLine_eq]; lia)
        intro yl sl h8 tk8 e7 a8 F8 N8 l8
        rw [ht3] at e7
        refine hideG fun G hG => ?_
        obtain ⟨tA, s7, rfl, e8⟩ := KSpl.cons_of e7
        obtain ⟨tB, s8, rfl, e9⟩ := KSpl.cons_of e8
        have hx7 : (strValues ((ya, tA) :: (yb, tB) :: s8))[1]? = some (.str yb tB) := rfl
        have hz7 : (1 : Int) = ((1 : Nat) : Int) := rfl
        (try k_lt l8)
        refine hG ?_
        clear hG
        k_steps
        rename_i T2 _ l2a _ _ l2b D9 _ l9 h9 oc9 F9 N9 doc9
        obtain ⟨_, l9e, _, _, _, l9b, l9c⟩ := l9
        obtain ⟨_, _, _, l2c, l2d⟩ := l2a
        have l9d := allLt_mem l9c
        have l2e := allLt_mem l2d
        obtain ⟨ne, hne9⟩ : ∃ ne, ne = [(D9, listOf (pv ++ [Value.ref T2]).toArray 0), (T2, ({ cls := Value.type "tuple", data := Data.seq #[Value.int (k : Int) (tk8 + 1), Value.str (lab k) t7] } : Obj))] := ⟨_, rfl⟩
        have g1 : ∀ q ∈ ne, ∀ p ∈ (L' + 1, oc9) :: rs, p.1 < q.1 := by
          intro q hq p hp
          rw [hne9] at hq
          revert q hq; refine fc ?_ (fun q hq => ?_)
          · revert p hp; refine fc ?_ (fun p hp => ?_)
            · exact l9b
            · exact l9d p hp
          · rw [List.mem_singleton.mp hq]
            revert p hp; refine fc ?_ (fun p hp => ?_)
            · exact l2c
            · exact l2e p hp
        have NB : News g' L' h9 ((L' + 1, oc9) :: (ne ++ rs)) := by
          intro p hp
          refine N9 p ?_
          rw [hne9] at hp
          revert p hp; refine fc ?_ (fun p hp => ?_)
          · exact .tail _ (.tail _ (.tail _ (.tail _ (.tail _ (.tail _ (.head _))))))
          · revert p hp; refine fc ?_ (fun p hp => ?_)
            · exact .head _
            · revert p hp; refine fc ?_ (fun p hp => ?_)
              · exact .tail _ (.tail _ (.head _))
              · exact .tail _ (.tail _ (.tail _ (.tail _ (.tail _ (.tail _ (.tail _ hp))))))
        have hP9 : DatAll (ne ++ ex) (pv ++ [Value.ref T2]) ((path ++ [k]).map (pd lab)) := by
          rw [List.map_append]
          exact DatAll.append (hP.mono fun p hp => List.mem_append_right _ hp) (.one (DatIn.tuple (vs := [_, _]) (List.mem_append_left _ (by rw [hne9]; exact .tail _ (.head _))) (.cons (.int _ _) (.cons (.str _ _) .nil))))
        have hm9 : (D9, listOf (pv ++ [Value.ref T2]).toArray 0) ∈ ne := hne9 ▸ .head _
        generalize pv ++ [Value.ref T2] = pv9 at hP9 hm9
        exact ⟨_, _, _, D9, pv9, oc9, ne, rfl, rfl, fr_as [(Str.ofString "text", .str text tt), (Str.ofString "over", .ref oa), (Str.ofString "rest", .str rst tc)] F9 ⟨rfl, rfl, rfl, trivial⟩, NB, (by rw [ep]; exact hP9), hm9, g1, doc9⟩
set_option maxRecDepth 100000 in
set_option maxHeartbeats 8000000 in
theorem law_holds : PySem.Challenge.rw_ij0019_01.Holds := hd (by
  k_go0
  (all_goals try k_fold)
  rename IntsAre _ _ => hI
  rename Heap.IsList _ _ _ => hL
  rename Below _ _ _ _ => K0
  rename Frag.In _ _ => XI
  rename Top _ _ _ _ _ _ => TT
  rename_i tk0 F0 oc hoc N0 X0
  rename Shared => s1
  clear X0
  replace hoc : oc.data = .cell none := hoc
  refine hideG fun G hG => ?_
  obtain ⟨u0, F1⟩ := hide_map [(Str.ofString "script", _)] F0 ⟨rfl, trivial⟩
  dsimp only [lk] at F1
  clear F0
  refine hG ?_
  clear hG
  k_steps
  (try k_fold)
  refine LCg.ListComp_U (F₀ := F1) (by with_unfolding_all rfl) (by decide) (by rfl) (by decide) (by rfl) ?_
  k_steps
  rename_i D1 w1 h1 F2 N2 hI1 hC1 hL1 l1
  generalize hns : List.take 6 _ = ns at hI1 hC1 hL1
  have hl6 : ns.length ≤ 6 := by lia
  refine LCg.CompSrc.ledger (by rfl) F2 N2 (.head _) (by rw [List.size_toArray, sizeLine_eq, hI1.length]; lia) ?_
  intro g1
  (try dsimp only)
  have e6 : w1.toArray.size = ns.length := by rw [List.size_toArray, hI1.length]
  rw [e6]
  refine comp_ind (n := ns.length) (fun j ys nx => nx = _ ∧ StrsAre ys ((ns.take j).map sg8)) ?ct1 ?cf1 _ 0 [] _ (by rw [Nat.zero_add]) ⟨rfl, .nil⟩
  case ct1 =>
    intro j ys nx v I oI Cc oC D m₂ h6 tk6 E' hj hR1 hv hC hx6 F6 N6 off ne
    refine hideG fun G hG => ?_
    obtain ⟨rfl, hys⟩ := hR1
    rw [List.getElem?_toArray] at hv
    obtain ⟨tq, eq⟩ := hI1.int_at _ _ hv
    subst eq
    have hjq : ns[j]? = some (ns.getD j 0) := by rw [List.getD_eq_getElem?_getD, List.getElem?_eq_getElem hj]; rfl
    generalize ns.getD j 0 = q at hjq hx6 hv
    refine hG ?_
    clear hG
    k_steps
    refine LCg.CompEnd.intro F6 N6 _ (fun p hp => hp) off (.inr ⟨_, .head _, rfl, _, rfl⟩) ⟨rfl, ?_⟩
    rw [List.take_add_one, hjq, Option.toList_some, List.map_append, List.map_cons, List.map_nil]
    exact strsAre_snoc hys
  case cf1 =>
    intro ys nx hR1
    refine hideG fun G hG => ?_
    obtain ⟨rfl, hys⟩ := hR1
    refine hG ?_
    clear hG
    intro D h6 tk6 F6 N6 off
    simp only [LCg.Off1] at off
    rw [List.take_length] at hys
    k_steps
    refine join_list (ys := ns.map sg8) (⟨_, (N6 _ (.head _)).1, rfl, _, rfl⟩ : h6.IsList D ys.toArray) (by simpa using hys) (by rw [sg8_sum]; show _ + _ * 0 ≤ _; lia) ?_
    intro t7 k7
    have hj1 : (Txt.join (Str.ofString "") (ns.map sg8)).length ≤ 6 := by rw [join0_len, sg8_sum]; exact hl6
    clear F2 N2
    k_steps
    rename_i D2 w2 h7 F7 N7 hI7 l7
    rw [hns] at hI7
    have hI7 : IntsAre w2 (numsOf ns) := hI7
    have hnl : (numsOf ns).length = ns.length + 6 := by unfold numsOf; rw [List.length_append]; rfl
    have hb : (Str.ofString "&lt;<b&").length + (Txt.join (Str.ofString "") (ns.map sg8)).length = (baseS ns).length := by unfold baseS; rw [Str.length_append]
    have hbl := baseS_len ns
    rw [hb]
    have hbs : Str.ofString "&lt;<b&" ++ Txt.join (Str.ofString "") (ns.map sg8) = baseS ns := rfl
    rw [hbs] at F7
    clear hb hbs
    refine (spans_c _ _ _ _ _ _ _ D2 w2 0 (numsOf ns) ((baseS ns).length : Int) _ (.head _) hI7 (by lia) (by lia) (by lia) (by lia)).use K0 F7 XI N7 TT rfl (by decide) (by decide) ?_
    intro v8 news8 h8 tk8 hR1 F8 N8
    refine hideG fun G hG => ?_
    obtain ⟨D3, vs3, n3, ex3, rfl, rfl, hD3, hne3⟩ := hR1
    clear F7 N7
    have hSl : (spansOf ns).length = (ns.length + 6) / 2 := by
      unfold spansOf spansTo
      rw [List.length_map, List.length_range, hnl]
    have hD3 : DatAll (ex3 ++ _) vs3 ((spansOf ns).map dsp) := hD3
    have hvl : vs3.length = (spansOf ns).length := by rw [hD3.length, List.length_map]
    obtain ⟨PQ, PB, PLb, out, p0, ps, PR, PO, PS, P0, P1, P2, PRd⟩ := pure_law ns hl6
    generalize hS : spansOf ns = S at hSl hD3 hvl PQ PLb PR PRd
    generalize hlg : ((D2, listOf w2.toArray 0) :: _) = lg at N8 hD3 hne3
    have hcm : (s1.heap.objs.size + 1, oc) ∈ lg := by
      rw [← hlg]
      repeat' first | exact List.Mem.head _ | refine List.Mem.tail _ ?_
    have hcd : ¬ D3 = s1.heap.objs.size + 1 := fun e => hne3 _ (List.mem_append_right _ hcm) e.symm
    obtain ⟨rest, hrest⟩ : ∃ rest, rest = ((D3, listOf vs3.toArray n3) :: (ex3 ++ lg)).filter fun p => decide (p.1 ≠ s1.heap.objs.size + 1) := ⟨_, rfl⟩
    have N9 : News s1.heap s1.heap.objs.size h8 ((s1.heap.objs.size + 1, oc) :: rest) := by
      intro p hp
      revert p hp; refine fc ?_ (fun p hp => ?_)
      · exact N8 _ (.tail _ (List.mem_append_right _ hcm))
      · rw [hrest] at hp
        exact N8 _ (List.mem_filter.mp hp).1
    have m1 : (D3, listOf vs3.toArray n3) ∈ rest := by
      rw [hrest]
      exact List.mem_filter.mpr ⟨.head _, decide_eq_true hcd⟩
    have m2 : ∀ p ∈ rest, p.1 ≠ s1.heap.objs.size + 1 := by
      intro p hp
      rw [hrest] at hp
      exact of_decide_eq_true (List.mem_filter.mp hp).2
    have hD9 : DatAll rest vs3 (S.map dsp) := (spans_drop (fun p hp => N8 p (.tail _ hp)) (List.mem_append_right _ hcm) hoc hD3).mono fun p hp => by
      rw [hrest]
      exact List.mem_filter.mpr ⟨.tail _ (List.mem_filter.mp hp).1, (List.mem_filter.mp hp).2⟩
    clear N8 hD3 hne3 hrest hcm hlg
    refine hG ?_
    clear hG
    k_steps
    rename_i h10 oc2 F10 N10 hoc2
    (try clear N9)
    (try clear F8)
    (try k_fold)
    refine Assign_ListComp_K F10 (by rfl) (by with_unfolding_all rfl) (by with_unfolding_all rfl) (by intro k acc; rfl) (by intro h; rfl) (by rfl) (by decide) (by rfl) (by rfl) (by rfl) ?_
    k_steps
    rename_i h11 tk11 _ _ _ hR11 F11 N11 _
    (try clear F10)
    (try clear N10)
    refine ⟨_, (baseS ns).length, _, _, _, _, rfl, by rfl, F11, N11, hR11, by lia, ?_⟩
    intro s₂ hR1
    refine hideG fun G hG => ?_
    obtain ⟨g2, rfl⟩ := hR1
    refine hG ?_
    clear hG
    (try dsimp only)
    refine cell_ind (n := (baseS ns).length) (fun j ys nx => ∃ ex, nx = (s1.heap.objs.size + 1, oc2) :: (ex ++ rest) ∧ DatAll (ex ++ rest) ys (((List.range j).map (dueAt S)).map fun o => Dat.list (o.map (pd (labOf S)))) ∧ ∀ p ∈ ex, p.1 ≠ s1.heap.objs.size + 1) ?ct2 ?cf2 _ 0 [] _ (by rw [Nat.zero_add]) ⟨[], rfl, .nil, fun _ h => nomatch h⟩
    case ct2 =>
      intro j ys nx v I oI Cc oC K oK D h12 tk12 E' hj hR1 hR2 hoK F12 N12 off ne
      refine hideG fun G hG => ?_
      obtain ⟨ex, rfl, hys, hex⟩ := hR1
      obtain ⟨tj, rfl⟩ := hR2
      refine hG ?_
      clear hG
      have hN12 : (D3, listOf vs3.toArray n3) ∈ ex ++ rest := List.mem_append_right _ m1
      have hcv : ∀ i, i < S.length → ∃ ad t1 t2 t3 n, vs3[i]? = some (.ref ad) ∧ (ad, ({ cls := .type "tuple", data := .seq #[.int (S.getD i (0, 0, Str.empty)).1 t1, .int (S.getD i (0, 0, Str.empty)).2.1 t2, .str (S.getD i (0, 0, Str.empty)).2.2 t3] n } : Obj)) ∈ ex ++ rest := by
        intro i hi
        obtain ⟨va, hva, hda⟩ := hD9.get (k := i) (by rw [List.length_map]; lia)
        obtain ⟨ad, q1, q2, q3, qn', rfl, hqm⟩ := datSp (a := S.getD i (0, 0, Str.empty)) (by rw [List.getElem_map] at hda; rw [List.getD_eq_getElem?_getD, List.getElem?_eq_getElem hi]; exact hda)
        exact ⟨ad, q1, q2, q3, qn', hva, List.mem_append_right _ hqm⟩
      refine LCt.ListComp_T F12 (by with_unfolding_all rfl) (by decide) (by rfl) (by decide) (by rfl) ?_
      k_steps
      rename_i h13 tk13 _ _ _ hR13 F13 N13 _
      (try clear F12)
      (try clear N12)
      refine LCt.CompSrcT.range (n := S.length) (by rfl) F13 N13 hR13 (small0 _ (by lia)) ((rsize0 _).trans (by rw [hvl])) (by rw [sizeLine_eq]; lia) ?_
      intro g3
      (try dsimp only)
      refine compt_ind (n := S.length) (fun i ys2 nx => ∃ ex2, nx = (I, oI) :: (Cc, oC) :: (K, oK) :: (D, LCg.lst ys) :: (s1.heap.objs.size + 1, oc2) :: (ex2 ++ (ex ++ rest)) ∧ DatAll (ex2 ++ (ex ++ rest)) ys2 (((List.range i).filter fun p => decide ((S.getD p (0, 0, Str.empty)).1 ≤ (j : Int)) && decide ((j : Int) < (S.getD p (0, 0, Str.empty)).2.1)).map (pd (labOf S))) ∧
        ∀ q ∈ ex2, ∀ p ∈ ((I, oI) :: (Cc, oC) :: (K, oK) :: (D, LCg.lst ys) :: (s1.heap.objs.size + 1, oc2) :: (ex ++ rest)), p.1 < q.1) ?ct3 ?cf3 _ 0 [] _ (by rw [Nat.zero_add]) ⟨[], rfl, .nil, fun _ h => nomatch h⟩
      case ct3 =>
        intro i ys2 nx v I2 oI2 C2 oC2 D5 m₂ h14 tk14 E2 hi hR1 hR2 hC2 hx2 F14 N14 off2 ne2
        refine hideG fun G hG => ?_
        obtain ⟨ex2, rfl, hys2, hex2⟩ := hR1
        obtain ⟨ui, rfl⟩ := hR2
        obtain ⟨ad, q1, q2, q3, qn', hva, hqm⟩ := hcv i hi
        have hN14 : (D3, listOf vs3.toArray n3) ∈ ex2 ++ (ex ++ rest) := List.mem_append_right _ hN12
        have hqm := List.mem_append_right ex2 hqm
        have hi0 : (0 : Int) + (i : Int) = ((i : Nat) : Int) := by lia
        generalize hsp : S.getD i (0, 0, Str.empty) = sp at hqm
        obtain ⟨sb, se, sl⟩ := sp
        dsimp only at hqm
        have hlab : labOf S i = sl := by unfold labOf; rw [hsp]
        refine hG ?_
        clear hG
        k_steps
        · rename_i hs1 hs2 T5 h15 F15 N15 l15
          refine hideG fun G hG => ?_
          obtain ⟨l15a, l15b, l15c, l15d, l15e, l15f, l15g, l15h, l15i⟩ := l15
          have l15j := allLt_mem l15i
          simp only [hi0] at N15
          refine hG ?_
          clear hG
          refine LCg.CompEnd.intro F15 N15 ((I, oI) :: (Cc, oC) :: (K, oK) :: (D, LCg.lst ys) :: (s1.heap.objs.size + 1, oc2) :: (((T5, ({ cls := Value.type "tuple", data := Data.seq #[Value.int (i : Int) ui, Value.str sl q3] } : Obj)) :: ex2) ++ (ex ++ rest))) ?s5 ⟨off2.1, off2.2.1, off2.2.2.1, off2.2.2.2.1, off2.2.2.2.2.1, ⟨Nat.ne_of_gt l15a, Nat.ne_of_gt l15b, Nat.ne_of_gt l15c⟩, off2.2.2.2.2.2⟩ trivial ⟨(T5, ({ cls := Value.type "tuple", data := Data.seq #[Value.int (i : Int) ui, Value.str sl q3] } : Obj)) :: ex2, rfl, ?d5, ?e5⟩
          case s5 =>
            intro p hp
            revert p hp; refine fc ?_ (fun p hp => ?_)
            · exact .tail _ (.head _)
            · revert p hp; refine fc ?_ (fun p hp => ?_)
              · exact .tail _ (.tail _ (.head _))
              · revert p hp; refine fc ?_ (fun p hp => ?_)
                · exact .tail _ (.tail _ (.tail _ (.head _)))
                · revert p hp; refine fc ?_ (fun p hp => ?_)
                  · exact .tail _ (.tail _ (.tail _ (.tail _ (.head _))))
                  · revert p hp; refine fc ?_ (fun p hp => ?_)
                    · exact .tail _ (.tail _ (.tail _ (.tail _ (.tail _ (.head _)))))
                    · revert p hp; refine fc ?_ (fun p hp => ?_)
                      · exact .tail _ (.tail _ (.tail _ (.tail _ (.tail _ (.tail _ (.head _))))))
                      · revert p hp; refine fc ?_ (fun p hp => ?_)
                        · exact .tail _ (.tail _ (.tail _ (.tail _ (.tail _ (.tail _ (.tail _ (.head _)))))))
                        · revert p hp; refine fc ?_ (fun p hp => ?_)
                          · exact .tail _ (.tail _ (.tail _ (.tail _ (.tail _ (.tail _ (.tail _ (.tail _ (.head _))))))))
                          · revert p hp; refine fc ?_ (fun p hp => ?_)
                            · exact .head _
                            · exact .tail _ (.tail _ (.tail _ (.tail _ (.tail _ (.tail _ (.tail _ (.tail _ (.tail _ hp))))))))
          case d5 =>
            have ef : ([i].filter fun p => decide ((S.getD p (0, 0, Str.empty)).1 ≤ (j : Int)) && decide ((j : Int) < (S.getD p (0, 0, Str.empty)).2.1)) = [i] := by
              rw [List.filter_cons, hsp, if_pos (by rw [decide_eq_true hs1, decide_eq_true hs2]; rfl)]; rfl
            rw [List.range_succ, List.filter_append, List.map_append, ef]
            refine DatAll.append (hys2.mono fun p hp => .tail _ hp) (.one ?_)
            unfold pd
            rw [hlab]
            exact DatIn.tuple (vs := [_, _]) (.head _) (.cons (.int _ _) (.cons (.str _ _) .nil))
          case e5 =>
            intro q hq p hp
            revert q hq; refine fc ?_ (fun q hq => ?_)
            · revert p hp; refine fc ?_ (fun p hp => ?_)
              · exact l15d
              · revert p hp; refine fc ?_ (fun p hp => ?_)
                · exact l15e
                · revert p hp; refine fc ?_ (fun p hp => ?_)
                  · exact l15f
                  · revert p hp; refine fc ?_ (fun p hp => ?_)
                    · exact l15g
                    · revert p hp; refine fc ?_ (fun p hp => ?_)
                      · exact l15h
                      · exact l15j p (List.mem_append_right _ hp)
            · exact hex2 q hq p hp
        · rename_i hs1 hs2
          refine LCg.CompEnd.intro F14 N14 _ (fun p hp => hp) off2 trivial ⟨ex2, rfl, ?_, hex2⟩
          have ef : ([i].filter fun p => decide ((S.getD p (0, 0, Str.empty)).1 ≤ (j : Int)) && decide ((j : Int) < (S.getD p (0, 0, Str.empty)).2.1)) = [] := by
            rw [List.filter_cons, hsp, if_neg (by rw [decide_eq_false hs2, Bool.and_false]; decide)]; rfl
          rw [List.range_succ, List.filter_append, ef, List.append_nil]
          exact hys2
        · rename_i hs1
          refine LCg.CompEnd.intro F14 N14 _ (fun p hp => hp) off2 trivial ⟨ex2, rfl, ?_, hex2⟩
          have ef : ([i].filter fun p => decide ((S.getD p (0, 0, Str.empty)).1 ≤ (j : Int)) && decide ((j : Int) < (S.getD p (0, 0, Str.empty)).2.1)) = [] := by
            rw [List.filter_cons, hsp, if_neg (by rw [decide_eq_false hs1, Bool.false_and]; decide)]; rfl
          rw [List.range_succ, List.filter_append, ef, List.append_nil]
          exact hys2
      case cf3 =>
        intro ys2 nx hR1
        refine hideG fun G hG => ?_
        obtain ⟨ex2, rfl, hys2, hex2⟩ := hR1
        refine hG ?_
        clear hG
        intro D5 h14 tk14 F14 N14 off2
        refine ⟨h14, tk14, (s1.heap.objs.size + 1, oc2) :: (((D5, LCg.lst ys2) :: (ex2 ++ ex)) ++ rest), rfl, F14, ?n6, ?o6, (D5, LCg.lst ys2) :: (ex2 ++ ex), rfl, ?d6, ?e6⟩
        case n6 =>
          intro p hp
          refine N14 p ?_
          revert p hp; refine fc ?_ (fun p hp => ?_)
          · exact .tail _ (.head _)
          · revert p hp; refine fc ?_ (fun p hp => ?_)
            · exact .tail _ (.tail _ (.head _))
            · revert p hp; refine fc ?_ (fun p hp => ?_)
              · exact .tail _ (.tail _ (.tail _ (.head _)))
              · revert p hp; refine fc ?_ (fun p hp => ?_)
                · exact .tail _ (.tail _ (.tail _ (.tail _ (.head _))))
                · revert p hp; refine fc ?_ (fun p hp => ?_)
                  · exact .tail _ (.tail _ (.tail _ (.tail _ (.tail _ (.head _)))))
                  · revert p hp; refine fc ?_ (fun p hp => ?_)
                    · exact .head _
                    · replace hp : p ∈ (ex2 ++ ex) ++ rest := hp
                      rw [List.append_assoc] at hp
                      exact .tail _ (.tail _ (.tail _ (.tail _ (.tail _ (.tail _ hp)))))
        case o6 =>
          intro p hp
          revert p hp; refine fc ?_ (fun p hp => ?_)
          · exact off _ (.head _)
          · revert p hp; refine fc ?_ (fun p hp => ?_)
            · exact ⟨Ne.symm off2.1, Ne.symm off2.2.1, Ne.symm off2.2.2.1, Ne.symm off2.2.2.2.1⟩
            · replace hp : p ∈ (ex2 ++ ex) ++ rest := hp
              rw [List.append_assoc] at hp
              replace hp := List.mem_append.mp hp; rcases hp with hp | hp
              · exact ⟨Nat.ne_of_gt (hex2 p hp _ (.head _)), Nat.ne_of_gt (hex2 p hp _ (.tail _ (.head _))), Nat.ne_of_gt (hex2 p hp _ (.tail _ (.tail _ (.head _)))), Nat.ne_of_gt (hex2 p hp _ (.tail _ (.tail _ (.tail _ (.head _)))))⟩
              · exact off p (.tail _ hp)
        case d6 =>
          rw [List.range_succ, List.map_append, List.map_append]
          refine DatAll.append (hys.mono fun p hp => .tail _ (show p ∈ (ex2 ++ ex) ++ rest by rw [List.append_assoc]; exact List.mem_append_right _ hp)) (.one ?_)
          exact DatIn.list (.head _) (hys2.mono fun p hp => .tail _ (show p ∈ (ex2 ++ ex) ++ rest by rw [List.append_assoc]; exact hp))
        case e6 =>
          intro p hp
          revert p hp; refine fc ?_ (fun p hp => ?_)
          · exact Ne.symm off2.2.2.2.2.1
          · replace hp := List.mem_append.mp hp; rcases hp with hp | hp
            · exact Nat.ne_of_gt (hex2 p hp _ (.tail _ (.tail _ (.tail _ (.tail _ (.head _))))))
            · exact hex p hp
    case cf2 =>
      intro ys nx hR1
      refine hideG fun G hG => ?_
      obtain ⟨ex, rfl, hys, hex⟩ := hR1
      refine hG ?_
      clear hG
      intro D4 h13 tk13 F13 N13 off2
      have hN13 : (D3, listOf vs3.toArray n3) ∈ ex ++ rest := List.mem_append_right _ m1
      (try dsimp only)
      k_steps
      rename Fr _ _ _ _ => F14
      rename News _ _ _ _ => N14
      refine (page_c _ _ _ _ _ _ _ (baseS ns) _ D3 vs3 n3 S (.tail _ (.tail _ hN13)) (hD9.mono fun p hp => .tail _ (.tail _ (List.mem_append_right _ hp))) (by lia) (by lia) out PR PQ).useS K0 F14 XI N14 TT rfl (by decide) (by decide) ?_
      intro t15 h15 tk15 F15 N15
      (try clear F13)
      (try clear N13)
      (try clear F14)
      (try clear N14)
      k_steps
      rename Fr _ _ _ _ => F16
      rename News _ _ _ _ => N16
      refine (read_c _ _ _ _ _ _ _ out _ (labOf S) p0 ps _ PO PS P0 P1 P2 PRd).use K0 F16 XI N16 TT rfl (by decide) (by decide) ?_
      intro v17 news17 h17 tk17 hR1 F17 N17
      refine hideG fun G hG => ?_
      obtain ⟨hd17, hs17⟩ := hR1
      refine hG ?_
      clear hG
      k_steps
      rename_i l18 h18 _ _ l18x T19 h19 F19 N19 l19x
      refine dat_eq N19 hd17 (fun p hp => .tail _ (.tail _ hp)) (DatIn.tuple (vs := [_, _, _]) (.head _) (.cons (.str _ _) (.cons (DatIn.list (.tail _ (.tail _ (hs17 _ (.head _)))) (hys.mono fun p hp => .tail _ (.tail _ (hs17 _ (.tail _ (.tail _ hp)))))) (.cons (DatIn.list (vs := []) (.tail _ (.head _)) .nil) .nil)))) (fun p hp => hp) (ok_due PB PLb) (ok_due PB PLb) rfl (by first | units_room | (show 4 + 3 + 64 < cLine; decide +kernel)) ?_
      k_steps)
end Mine
theorem PySem.Challenge.cw_ij0019_01_holds : PySem.Challenge.rw_ij0019_01.Holds :=
  Mine.law_holds
