import PyProof.Rows.All
import Wide.All
import OpenK.AllK
import Wide.FinOn
import PySem.Challenge.RW_bn0010_01
set_option Elab.async false
set_option maxRecDepth 100000
set_option maxHeartbeats 8000000
namespace Mine
open PySem PySem.W PySem.Calls PyProof.Rows PySem.Spec
open_top hd for PySem.Challenge.rw_bn0010_01

abbrev Led := List (Addr × Obj)
/-- a call that hands back a value of its own, or raises ValueError -/
def Ct (dN : Nat) (f : Addr) (vs : List Value) (Ok : Value → Prop) (Bad : Prop) : Prop :=
  ∀ (w : World) (loose : List Str) (mean : ExcName → Option Value) (mg mb : Str → Option Value) (dp un : Nat) (gd : Option (List Code)) (cn : Str) (cs : Scope) (a : Addr) (ccd : Value) (cl : List (Str × Addr)) (outer : List Env) (A₀ : Around) (base h₀ : Heap) (L : Addr) (m : Str → Option Value) (news : Led) (s : Shared) (Q E : Value → Shared → Prop),
    Below A₀ base outer h₀ → Fr h₀ L s.heap m → (hd.heap_39 w.params).In h₀ → News h₀ L s.heap news → Top hd.view_39 loose mean mg mb h₀ → cs.kind = .function → dp + dN < recursionLimit → un + 8 * dN < cLine →
    (∀ v h' tk', Ok v → Fr h₀ L h' m → News h₀ L h' news → Q v { s with heap := h', toks := tk' }) →
    (∀ e h' tk' G, Bad → Fr h₀ L G m → RaisedSN base G (envX cn cs L a ccd cl :: outer) e (.type "ValueError") news h' → G.UpToSlots h' → E (.ref e) { s with heap := h', toks := tk' }) →
    wpAny (model PySem.Challenge.rw_bn0010_01.row.prog w) (ktrTop dp un gd cn cs L a ccd cl outer) (call (.ref f) vs) Q E s

theorem Ct.use {dN : Nat} {f : Addr} {vs : List Value} {Ok : Value → Prop} {Bad : Prop} {w : World} {loose : List Str} {mean : ExcName → Option Value} {mg mb : Str → Option Value} {dp un : Nat} {gd : Option (List Code)} {cn : Str} {cs : Scope} {a : Addr} {ccd : Value} {cl : List (Str × Addr)} {outer : List Env} {A₀ : Around} {base h₀ : Heap} {L : Addr} {m : Str → Option Value} {news : Led} {s : Shared} {Q E : Value → Shared → Prop}
    (C : Ct dN f vs Ok Bad) (B : Below A₀ base outer h₀) (F : Fr h₀ L s.heap m) (X : (hd.heap_39 w.params).In h₀) (N : News h₀ L s.heap news) (T : Top hd.view_39 loose mean mg mb h₀) (hk : cs.kind = .function) (hdp : dp + dN < recursionLimit) (hu : un + 8 * dN < cLine)
    (ret : ∀ v h' tk', Ok v → Fr h₀ L h' m → News h₀ L h' news → Q v { s with heap := h', toks := tk' })
    (bad : ∀ e h' tk' G, Bad → Fr h₀ L G m → RaisedSN base G (envX cn cs L a ccd cl :: outer) e (.type "ValueError") news h' → G.UpToSlots h' → E (.ref e) { s with heap := h', toks := tk' }) :
    wpAny (model PySem.Challenge.rw_bn0010_01.row.prog w) (ktrTop dp un gd cn cs L a ccd cl outer) (call (.ref f) vs) Q E s :=
  C w loose mean mg mb dp un gd cn cs a ccd cl outer A₀ base h₀ L m news s Q E B F X N T hk hdp hu ret bad

theorem sub0 {l : Led} : ∀ p ∈ l, p ∈ l := fun _ h => h
theorem sub1 {l l' : Led} {q : Addr × Obj} (h : ∀ p ∈ l, p ∈ l') : ∀ p ∈ l, p ∈ q :: l' := fun p hp => List.mem_cons_of_mem _ (h p hp)
theorem sub2 {l l' o : Led} (h : ∀ p ∈ l, p ∈ l') : ∀ p ∈ l, p ∈ l' ++ o := fun p hp => List.mem_append_left _ (h p hp)
theorem lt_all {d : Addr} : ∀ {l : Led}, AllLt d l → ∀ p ∈ l, p.1 < d
  | [], _, _, hp => nomatch hp
  | q :: r, h, p, hp => by
    rcases List.mem_cons.mp hp with e | hp
    · rw [e]; exact h.1
    · exact lt_all h.2 p hp
/-- a call from the law's own frame of a def that holds a try -/
def CtL (dN : Nat) (f : Addr) (vs : List Value) (Ok : Value → Prop) : Prop :=
  ∀ (w : World) (loose : List Str) (mean : ExcName → Option Value) (mg mb : Str → Option Value) (dp un : Nat) (gd : Option (List Code)) (cn : Str) (cs : Scope) (a : Addr) (ccd : Value) (A₀ : Around) (h₀ : Heap) (L : Addr) (m : Str → Option Value) (news : Led) (s : Shared) (Q E : Value → Shared → Prop),
    Below A₀ h₀ [] h₀ → Fr h₀ L s.heap m → (hd.heap_39 w.params).In h₀ → News h₀ L s.heap news → Top hd.view_39 loose mean mg mb h₀ → cs.kind = .function → dp + dN < recursionLimit → un + 8 * dN < cLine →
    (∀ v h' tk', Ok v → Fr h₀ L h' m → News h₀ L h' news → Q v { s with heap := h', toks := tk' }) →
    wpAny (model PySem.Challenge.rw_bn0010_01.row.prog w) (ktrTop dp un gd cn cs L a ccd [] []) (call (.ref f) vs) Q E s
theorem CtL.use {dN : Nat} {f : Addr} {vs : List Value} {Ok : Value → Prop} {w : World} {loose : List Str} {mean : ExcName → Option Value} {mg mb : Str → Option Value} {dp un : Nat} {gd : Option (List Code)} {cn : Str} {cs : Scope} {a : Addr} {ccd : Value} {A₀ : Around} {h₀ : Heap} {L : Addr} {m : Str → Option Value} {news : Led} {s : Shared} {Q E : Value → Shared → Prop}
    (C : CtL dN f vs Ok) (B : Below A₀ h₀ [] h₀) (F : Fr h₀ L s.heap m) (X : (hd.heap_39 w.params).In h₀) (N : News h₀ L s.heap news) (T : Top hd.view_39 loose mean mg mb h₀) (hk : cs.kind = .function) (hdp : dp + dN < recursionLimit) (hu : un + 8 * dN < cLine)
    (ret : ∀ v h' tk', Ok v → Fr h₀ L h' m → News h₀ L h' news → Q v { s with heap := h', toks := tk' }) :
    wpAny (model PySem.Challenge.rw_bn0010_01.row.prog w) (ktrTop dp un gd cn cs L a ccd [] []) (call (.ref f) vs) Q E s :=
  C w loose mean mg mb dp un gd cn cs a ccd A₀ h₀ L m news s Q E B F X N T hk hdp hu ret
theorem ne_all {d : Addr} {l : Led} (h : AllLt d l) : ∀ p ∈ l, p.1 ≠ d := fun p hp => Nat.ne_of_lt (lt_all h p hp)
theorem ne_all_lt {b d : Addr} {l : Led} (h : ∀ p ∈ l, p.1 < b) (hb : @LE.le Nat _ b d) : ∀ p ∈ l, p.1 ≠ d := fun p hp => Nat.ne_of_lt (Nat.lt_of_lt_of_le (h p hp) hb)
theorem ne_all_le {b d : Addr} {l : Led} (h : AllLt b l) (hb : @LE.le Nat _ b d) : ∀ p ∈ l, p.1 ≠ d := ne_all_lt (lt_all h) hb
theorem mret {Ok : Value → Prop} {h₀ h' : Heap} {L : Addr} {m : Str → Option Value} {news news' : Led} {s : Shared} {Q : Value → Shared → Prop} {v : Value} {tk' : Nat}
    (hret : ∀ v h' tk', Ok v → Fr h₀ L h' m → News h₀ L h' news → Q v { s with heap := h', toks := tk' }) (F : Fr h₀ L h' m) (N : News h₀ L h' news') (hs : ∀ p ∈ news, p ∈ news') (ok : Ok v) : Q v { s with heap := h', toks := tk' } :=
  hret v h' tk' ok F fun p hp => N p (hs p hp)

theorem mbad {Bad : Prop} {base h₀ h' G : Heap} {cn : Str} {cs : Scope} {L a e : Addr} {ccd : Value} {cl : List (Str × Addr)} {outer : List Env} {m : Str → Option Value} {news news' : Led} {s : Shared} {E : Value → Shared → Prop} {tk' : Nat}
    (hbad : ∀ e h' tk' G, Bad → Fr h₀ L G m → RaisedSN base G (envX cn cs L a ccd cl :: outer) e (.type "ValueError") news h' → G.UpToSlots h' → E (.ref e) { s with heap := h', toks := tk' })
    (R : RaisedSN base G (envX cn cs L a ccd cl :: outer) e (.type "ValueError") news' h') (F : Fr h₀ L G m) (U : G.UpToSlots h') (hs : ∀ p ∈ news, p ∈ news') (b : Bad) : E (.ref e) { s with heap := h', toks := tk' } := by
  obtain ⟨B, a0, hB, hBG, hl, hfl⟩ := R
  exact hbad e h' tk' G b F ⟨B, a0, hB, hBG, fun q hq => hl q (hs q hq), hfl⟩ U
theorem mbadS {Bad : Prop} {base h₀ h' G : Heap} {cn : Str} {cs : Scope} {L a e t : Addr} {ccd : Value} {cl : List (Str × Addr)} {outer : List Env} {m : Str → Option Value} {news news' : Led} {s : Shared} {E : Value → Shared → Prop} {vs : List Value} {tk' : Nat}
    (hbad : ∀ e h' tk' G, Bad → Fr h₀ L G m → RaisedSN base G (envX cn cs L a ccd cl :: outer) e (.type "ValueError") news h' → G.UpToSlots h' → E (.ref e) { s with heap := h', toks := tk' })
    (R : RaisedS base G (envX cn cs L a ccd cl :: outer) e (.type "ValueError") t vs news' h') (F : Fr h₀ L G m) (U : G.UpToSlots h') (hs : ∀ p ∈ news, p ∈ news') (b : Bad) : E (.ref e) { s with heap := h', toks := tk' } := by
  obtain ⟨⟨B, hB, hBG, hl, hfl, hnew⟩, htup⟩ := R
  exact hbad e h' tk' G b F ⟨B, _, hB, hBG, fun q hq => hl q (hs q hq), hfl⟩ U

theorem Ct.mono {dN : Nat} {f : Addr} {vs : List Value} {Ok Ok' : Value → Prop} {Bad Bad' : Prop} (C : Ct dN f vs Ok Bad) (h1 : ∀ v, Ok v → Ok' v) (h2 : Bad → Bad') : Ct dN f vs Ok' Bad' :=
  fun w loose mean mg mb dp un gd cn cs a ccd cl outer A₀ base h₀ L m news s Q E B F X N T hk hdp hu hret hbad =>
    C w loose mean mg mb dp un gd cn cs a ccd cl outer A₀ base h₀ L m news s Q E B F X N T hk hdp hu (fun v h' tk' ok => hret v h' tk' (h1 v ok)) (fun e h' tk' G b => hbad e h' tk' G (h2 b))
/-- a call that hands back a new tuple, or raises ValueError -/
def CtT (dN : Nat) (f : Addr) (vs : List Value) (Ok : List Value → Prop) (Bad : Prop) : Prop :=
  ∀ (w : World) (loose : List Str) (mean : ExcName → Option Value) (mg mb : Str → Option Value) (dp un : Nat) (gd : Option (List Code)) (cn : Str) (cs : Scope) (a : Addr) (ccd : Value) (cl : List (Str × Addr)) (outer : List Env) (A₀ : Around) (base h₀ : Heap) (L : Addr) (m : Str → Option Value) (news : Led) (s : Shared) (Q E : Value → Shared → Prop),
    Below A₀ base outer h₀ → Fr h₀ L s.heap m → (hd.heap_39 w.params).In h₀ → News h₀ L s.heap news → Top hd.view_39 loose mean mg mb h₀ → cs.kind = .function → dp + dN < recursionLimit → un + 8 * dN < cLine →
    (∀ D c xs h' tk', Ok xs → Fr h₀ L h' m → News h₀ L h' ((D, ({ cls := .type "tuple", data := .seq xs.toArray c } : Obj)) :: news) → (∀ p ∈ news, p.1 < D) → Q (.ref D) { s with heap := h', toks := tk' }) →
    (∀ e h' tk' G, Bad → Fr h₀ L G m → RaisedSN base G (envX cn cs L a ccd cl :: outer) e (.type "ValueError") news h' → G.UpToSlots h' → E (.ref e) { s with heap := h', toks := tk' }) →
    wpAny (model PySem.Challenge.rw_bn0010_01.row.prog w) (ktrTop dp un gd cn cs L a ccd cl outer) (call (.ref f) vs) Q E s

theorem CtT.use {dN : Nat} {f : Addr} {vs : List Value} {Ok : List Value → Prop} {Bad : Prop} {w : World} {loose : List Str} {mean : ExcName → Option Value} {mg mb : Str → Option Value} {dp un : Nat} {gd : Option (List Code)} {cn : Str} {cs : Scope} {a : Addr} {ccd : Value} {cl : List (Str × Addr)} {outer : List Env} {A₀ : Around} {base h₀ : Heap} {L : Addr} {m : Str → Option Value} {news : Led} {s : Shared} {Q E : Value → Shared → Prop}
    (C : CtT dN f vs Ok Bad) (B : Below A₀ base outer h₀) (F : Fr h₀ L s.heap m) (X : (hd.heap_39 w.params).In h₀) (N : News h₀ L s.heap news) (T : Top hd.view_39 loose mean mg mb h₀) (hk : cs.kind = .function) (hdp : dp + dN < recursionLimit) (hu : un + 8 * dN < cLine)
    (ret : ∀ D c xs h' tk', Ok xs → Fr h₀ L h' m → News h₀ L h' ((D, ({ cls := .type "tuple", data := .seq xs.toArray c } : Obj)) :: news) → (∀ p ∈ news, p.1 < D) → Q (.ref D) { s with heap := h', toks := tk' })
    (bad : ∀ e h' tk' G, Bad → Fr h₀ L G m → RaisedSN base G (envX cn cs L a ccd cl :: outer) e (.type "ValueError") news h' → G.UpToSlots h' → E (.ref e) { s with heap := h', toks := tk' }) :
    wpAny (model PySem.Challenge.rw_bn0010_01.row.prog w) (ktrTop dp un gd cn cs L a ccd cl outer) (call (.ref f) vs) Q E s :=
  C w loose mean mg mb dp un gd cn cs a ccd cl outer A₀ base h₀ L m news s Q E B F X N T hk hdp hu ret bad
theorem mretT {Ok : List Value → Prop} {h₀ h' : Heap} {L D : Addr} {m : Str → Option Value} {news news' : Led} {s : Shared} {Q : Value → Shared → Prop} {xs : List Value} {c tk' : Nat}
    (hret : ∀ D c xs h' tk', Ok xs → Fr h₀ L h' m → News h₀ L h' ((D, ({ cls := .type "tuple", data := .seq xs.toArray c } : Obj)) :: news) → (∀ p ∈ news, p.1 < D) → Q (.ref D) { s with heap := h', toks := tk' }) (F : Fr h₀ L h' m) (N : News h₀ L h' news')
    (hm : (D, ({ cls := .type "tuple", data := .seq xs.toArray c } : Obj)) ∈ news') (hs : ∀ p ∈ news, p ∈ news') (hlt : ∀ p ∈ news, p.1 < D) (ok : Ok xs) : Q (.ref D) { s with heap := h', toks := tk' } :=
  hret D c xs h' tk' ok F (fun p hp => (List.mem_cons.mp hp).elim (fun e => e ▸ N _ hm) fun hp => N p (hs p hp)) hlt

def in30 (k : Int) : Bool := decide (k = 4 ∨ k = 6 ∨ k = 9 ∨ k = 11)
def leapG (y : Int) : Bool := decide (y % 4 = 0) && (decide (y % 100 ≠ 0) || decide (y % 400 = 0))
def dimG (y m : Int) : Int := if m = 2 then (if leapG y then 29 else 28) else if in30 m then 30 else 31
theorem itx {v : Int} (h0 : -2000000000 < v) (h1 : v < 2000000000) : (Str.ofString (toString v)).length ≤ 11 := by
  rw [PySem.ofString_length]
  exact int_text_length_le10 (k := 10) (by decide) (by omega)
theorem fmt_ok {prog : Program} {w : World} {A : Around} {E : Value → Shared → Prop} {s : Shared} {m d : Int} {t t1 t2 : Tok} {Q : Value → Shared → Prop}
   (hm0 : -2000000000 < m) (hm1 : m < 2000000000) (hd0 : -2000000000 < d) (hd1 : d < 2000000000)
   (h : ∀ x t' k, Q (.str x t') { s with toks := k }) : wpAny (model prog w) A (call (.builtin "str.format") [.str (Str.ofString "Month {} doesn't have a day {}") t, .int m t1, .int d t2]) Q E s := by
  refine' KFm.call_k ?kfmF ?kfmg ?kfmm ?_
  (case kfmF => kfm_eq)
  (case kfmg => exact KFm.args_3 _ _ _)
  (case kfmm => 
    apply KPc.meets_of
    intro _ _ _ _ _ _ _
    unfold Builtin.«str.format»
    refine wpAny_bind (wpAny_of_eq (a := (_, _, _)) rfl ?_)
    refine wpAny_bind ?_
    unfold Builtin.Str.buildString
    refine wpAny_bind ?_
    rw [KPc.range_list]
    refine KFm.start ?_
    intro _ _
    (refine KPc.turn ?_; kpc_if)
    kpc_check
    refine wpAny_bind (KFm.field_auto (by kfm_num) (by rfl) ?_)
    refine wpAny_bind (wpAny_holding (wpAny_of_eq (a := _) rfl ?_))
    kpc_if
    refine wpAny_bind (wpAny_pure ?_)
    refine wpAny_bind (wpAny_holding (KFm.formatOf_int (by kfm_hd) ?_))
    intro _ _
    refine wpAny_bind (wpAny_of_eq (a := some _) rfl ?_)
    refine wpAny_pure ?_
    refine KFm.after_field (K := 11) (by kpc_g) (by kpc_text) (by kpc_obj) (itx hm0 hm1) (by kpc_obj) (by kfm_cat2) (by kfm_rest) ?_
    intro _ _
    (refine KPc.turn ?_; kpc_if)
    kpc_check
    refine wpAny_bind (KFm.field_auto (by kfm_num) (by rfl) ?_)
    refine wpAny_bind (wpAny_holding (wpAny_of_eq (a := _) rfl ?_))
    kpc_if
    refine wpAny_bind (wpAny_pure ?_)
    refine wpAny_bind (wpAny_holding (KFm.formatOf_int (by kfm_hd) ?_))
    intro _ _
    refine wpAny_bind (wpAny_of_eq (a := some _) rfl ?_)
    refine wpAny_pure ?_
    refine KFm.after_field (K := 11) (by kpc_g) (by kpc_text) (by kpc_obj) (itx hd0 hd1) (by kpc_obj) (by kfm_cat2) (by kfm_rest) ?_
    intro _ _
    (refine KPc.turn ?_; kpc_if)
    kfm_close)
  intro t' k
  exact h _ _ _
theorem in30_any (k : Int) : [4, 6, 9, 11].any (· == k) = in30 k := by
  unfold in30
  rw [Bool.eq_iff_iff]
  simp only [List.any_cons, List.any_nil, Bool.or_false, Bool.or_eq_true, beq_iff_eq, decide_eq_true_eq]
  omega
theorem in_63 {prog : Program} {w : World} {A : Around} {E : Value → Shared → Prop} {s : Shared} {h₀ : Heap} {L : Addr} {m : Str → Option Value} {k : Int} {t : Tok} {Q : Value → Shared → Prop}
    (F : Fr h₀ L s.heap m) (X : (hd.heap_39 w.params).In h₀) (h : Q (.bool (in30 k)) s) : wpAny (model prog w) A (compareOp .In (.int k t) (.ref 63)) Q E s :=
  in_tuple_ints (items := #[.int 4 282, .int 6 283, .int 9 284, .int 11 285])  ⟨_, F.keep _ _ (X 63 ⟨.type "tuple", none, .seq #[.int 4 282, .int 6 283, .int 9 284, .int 11 285] 0, #[]⟩ rfl), rfl, _, rfl⟩
    (.cons _ _ (.cons _ _ (.cons _ _ (.cons _ _ .nil)))) (by rw [in30_any]; exact h)
theorem in_106 {prog : Program} {w : World} {A : Around} {E : Value → Shared → Prop} {s : Shared} {h₀ : Heap} {L : Addr} {m : Str → Option Value} {k : Int} {t : Tok} {Q : Value → Shared → Prop}
    (F : Fr h₀ L s.heap m) (X : (hd.heap_39 w.params).In h₀) (h : Q (.bool (in30 k)) s) : wpAny (model prog w) A (compareOp .In (.int k t) (.ref 106)) Q E s :=
  in_tuple_ints (items := #[.int 4 367, .int 6 368, .int 9 369, .int 11 370])  ⟨_, F.keep _ _ (X 106 ⟨.type "tuple", none, .seq #[.int 4 367, .int 6 368, .int 9 369, .int 11 370] 0, #[]⟩ rfl), rfl, _, rfl⟩
    (.cons _ _ (.cons _ _ (.cons _ _ (.cons _ _ .nil)))) (by rw [in30_any]; exact h)

local macro_rules | `(tactic| walk_at "call builtin:str.format") => `(tactic| (k_here; (with_reducible show wpAny _ _ (call (Value.builtin "str.format") (Value.str _ _ :: _)) _ _ _); (refine fmt_ok ?a ?b ?c ?d ?_; (case a => omega); (case b => omega); (case c => omega); (case d => omega); intro x9 t9 tk9)))
local macro_rules | `(tactic| walk_at "compareOp In int ref") => `(tactic| (k_here; k_dflt (first | refine' in_63 ?F ?X ?_ | refine' in_106 ?F ?X ?_); (case F => k_asm); (case X => k_asm)))
local macro_rules | `(tactic| walk_at "eval Call") => `(tactic| (k_here; (with_reducible show wpAny _ _ (eval (Expr.Call (Expr.Name _ _) _ [] _) _) _ _ _); k_dflt (refine Call_ ?_)))
local macro_rules | `(tactic| walk_at "exec Raise some none") => `(tactic| (k_here; (with_reducible show wpAny _ _ (exec (Stmt.Raise (some (Expr.Call (Expr.Name _ _) _ [] _)) none _) _) _ _ _); k_dflt (refine Raise_new rfl ?_)))
local macro_rules | `(tactic| k_all) => `(tactic| first | assumption | exact ne_all (by first | assumption | exact And.right (by assumption) | exact And.right (And.right (by assumption)) | exact And.right (And.right (And.right (by assumption))) | exact And.right (And.right (And.right (And.right (by assumption)))) | exact And.right (And.right (And.right (And.right (And.right (by assumption))))) | exact And.right (And.right (And.right (And.right (And.right (And.right (by assumption)))))) | exact And.right (And.right (And.right (And.right (And.right (And.right (And.right (by assumption))))))) | exact And.right (And.right (And.right (And.right (And.right (And.right (And.right (And.right (by assumption)))))))) | exact And.right (And.right (And.right (And.right (And.right (And.right (And.right (And.right (And.right (by assumption))))))))) | exact And.right (And.right (And.right (And.right (And.right (And.right (And.right (And.right (And.right (And.right (by assumption)))))))))) | exact And.right (And.right (And.right (And.right (And.right (And.right (And.right (And.right (And.right (And.right (And.right (by assumption))))))))))) | exact And.right (And.right (And.right (And.right (And.right (And.right (And.right (And.right (And.right (And.right (And.right (And.right (by assumption)))))))))))) | exact And.right (And.right (And.right (And.right (And.right (And.right (And.right (And.right (And.right (And.right (And.right (And.right (And.right (by assumption)))))))))))))) | exact ne_all_lt (by assumption) (by omega) | exact ne_all_le (by assumption) (by omega))
theorem dim_2t {y m : Int} (hm : m = 2) (hl : leapG y = true) : dimG y m = 29 := by simp [dimG, hm, hl]
theorem dim_2f {y m : Int} (hm : m = 2) (hl : leapG y = false) : dimG y m = 28 := by simp [dimG, hm, hl]
theorem dim_30 {y m : Int} (hm : ¬ m = 2) (hl : in30 m = true) : dimG y m = 30 := by simp [dimG, hm, hl]
theorem dim_31 {y m : Int} (hm : ¬ m = 2) (hl : in30 m = false) : dimG y m = 31 := by simp [dimG, hm, hl]
/-- the first day of a year -/
def nyG (y : Int) : Int := 365 * (y - 1) + (y - 1) / 4 - (y - 1) / 100 + (y - 1) / 400 + 1721426
/-- the days of a year ahead of a month -/
def cumG (y m : Int) : Int := (367 * m - 362) / 12 + (if m ≤ 2 then 0 else if leapG y then -1 else -2)
def jdG (y m d : Int) : Int := nyG y - 1 + cumG y m + d
theorem cum_2 {y m : Int} (hm : m ≤ 2) : cumG y m = (367 * m - 362) / 12 := by simp [cumG, hm]
theorem cum_t {y m : Int} (hm : ¬ m ≤ 2) (hl : leapG y = true) : cumG y m = (367 * m - 362) / 12 + -1 := by simp [cumG, hm, hl]
theorem cum_f {y m : Int} (hm : ¬ m ≤ 2) (hl : leapG y = false) : cumG y m = (367 * m - 362) / 12 + -2 := by simp [cumG, hm, hl]
theorem int_ok {x y : Int} {t : Tok} (h : x = y) : ∃ t', Value.int x t = Value.int y t' := ⟨t, by rw [h]⟩
theorem fde {a b : Int} (h : 0 ≤ b) : a.fdiv b = a / b := Int.fdiv_eq_ediv_of_nonneg a h
theorem fme {a b : Int} (h : 0 ≤ b) : a.fmod b = a % b := Int.fmod_eq_emod_of_nonneg a h
theorem jd_e {y m d c : Int} (h : cumG y m = (367 * m - 362) / 12 + c) : 1721426 - 1 + 365 * (y - 1) + (y - 1).fdiv 4 + -(y - 1).fdiv 100 + (y - 1).fdiv 400 + ((367 * m - 362).fdiv 12 + c + d) = jdG y m d := by
  rw [fde (by decide), fde (by decide), fde (by decide), fde (by decide), jdG, h, nyG]
  omega
def jd2G (y m d : Int) : Int :=
  let y' := if m ≤ 2 then y - 1 else y
  let m' := if m ≤ 2 then m + 12 else m
  (2 - y' / 100 + y' / 100 / 4) + d + 1461 * (y' + 4716) / 4 + 306001 * (m' + 1) / 10000 - 1524

theorem ct_isleap (y : Int) (t : Tok) : Ct 1 29 [.int y t] (fun v => v = .bool (leapG y)) False := by
  unfold Ct
  w_top off
  k_fill
  intro w loose mean mg mb dp un gd cn cs a ccd cl outer A₀ base h₀ L mm news s Q E B F X N T hk hdp hu hret hbad
  have hDk : KtsDicts [] h₀ := ktsDicts_nil
  refine wpAny_call ?_
  k_dflt cell_enter
  k_steps
  all_goals first
    | (refine mret (Q := Q) (s := s) hret (by k_asm) (by k_asm) (by first | (with_reducible exact sub0) | (with_reducible exact sub1 sub0) | (with_reducible exact sub1 (sub1 sub0)) | (with_reducible exact sub2 sub0) | kcj_all) ?_)
    | (refine mbad (s := s) hbad (by assumption) (by k_asm) (by assumption) (by first | (with_reducible exact sub0) | (with_reducible exact sub1 sub0) | (with_reducible exact sub1 (sub1 sub0)) | (with_reducible exact sub2 sub0) | kcj_all) ?_)
    | (refine mbadS (s := s) hbad (by assumption) (by k_asm) (by assumption) (by first | (with_reducible exact sub0) | (with_reducible exact sub1 sub0) | (with_reducible exact sub1 (sub1 sub0)) | (with_reducible exact sub2 sub0) | kcj_all) ?_)
    | skip
  all_goals ((try law_fm); clear hret hbad; simp_all [leapG])
  all_goals rfl
local macro_rules | `(tactic| walk_at "call ref") => `(tactic| (k_here; (with_reducible show wpAny _ _ (call (Value.ref 29) _) _ _ _); k_dflt (focus (refine' Ct.use (ct_isleap _ _) ?k1 ?k2 ?k3 ?k4 ?k5 ?kK ?kd ?ku (fun v9 h9 tk9 ok9 F9 N9 => ?_) (fun _ _ _ _ hb9 => False.elim hb9); (case k1 => k_asm); (case k2 => k_asm); (case k3 => k_asm); (case k4 => k_asm); (case k5 => k_asm); (case kK => first | exact rfl | assumption); (case kd => ktr_room); (case ku => ktr_units); (subst ok9; (try dsimp only); (try k_fold))))))

theorem ct_legalG (y m d : Int) (t1 t2 t3 : Tok) (hd0 : -2000000000 < d) (hd1 : d < 2000000000) (hm : (-2000000000 < m ∧ m < 2000000000) ∨ d = 1) : Ct 3 70 [.int y t1, .int m t2, .int d t3] (fun v => v = .bool true ∧ (0 < d ∧ d ≤ dimG y m)) (¬ (0 < d ∧ d ≤ dimG y m)) := by
  unfold Ct
  w_top off
  k_fill
  intro w loose mean mg mb dp un gd cn cs a ccd cl outer A₀ base h₀ L mm news s Q E B F X N T hk hdp hu hret hbad
  have hDk : KtsDicts [] h₀ := ktsDicts_nil
  refine wpAny_call ?_
  k_dflt cell_enter
  k_steps
  all_goals first
    | (refine mret (Q := Q) (s := s) hret (by k_asm) (by k_asm) (by first | (with_reducible exact sub0) | (with_reducible exact sub1 sub0) | (with_reducible exact sub1 (sub1 sub0)) | (with_reducible exact sub2 sub0) | kcj_all) ?_)
    | (refine mbad (s := s) hbad (by assumption) (by k_asm) (by assumption) (by first | (with_reducible exact sub0) | (with_reducible exact sub1 sub0) | (with_reducible exact sub1 (sub1 sub0)) | (with_reducible exact sub2 sub0) | kcj_all) ?_)
    | (refine mbadS (s := s) hbad (by assumption) (by k_asm) (by assumption) (by first | (with_reducible exact sub0) | (with_reducible exact sub1 sub0) | (with_reducible exact sub1 (sub1 sub0)) | (with_reducible exact sub2 sub0) | kcj_all) ?_)
    | skip
  all_goals first
    | (have e9 := dim_2t (y := y) (m := m) (by assumption) (by assumption); (try refine ⟨rfl, ?_⟩); omega)
    | (have e9 := dim_2f (y := y) (m := m) (by assumption) (by assumption); (try refine ⟨rfl, ?_⟩); omega)
    | (have e9 := dim_30 (y := y) (m := m) (by assumption) (by assumption); (try refine ⟨rfl, ?_⟩); omega)
    | (have e9 := dim_31 (y := y) (m := m) (by assumption) (by assumption); (try refine ⟨rfl, ?_⟩); omega)
local macro_rules | `(tactic| walk_at "call ref") => `(tactic| (k_here; (with_reducible show wpAny _ _ (call (Value.ref 70) _) _ _ _); k_dflt (focus (refine' Ct.use (ct_legalG _ _ _ _ _ _ (by omega) (by omega) (by omega)) ?k1 ?k2 ?k3 ?k4 ?k5 ?kK ?kd ?ku (fun v9 h9 tk9 ok9 F9 N9 => ?_) (fun e9 h9 tk9 G9 hb9 F9 R9 U9 => ?_); (case k1 => k_asm); (case k2 => k_asm); (case k3 => k_asm); (case k4 => k_asm); (case k5 => k_asm); (case kK => first | exact rfl | assumption); (case kd => ktr_room); (case ku => ktr_units); all_goals first | ((have R8 := RaisedSN.toN R9); first | (exfalso; omega) | ((try dsimp only); (try k_fold))) | ((obtain ⟨ok9, ok8⟩ := ok9); subst ok9; (try dsimp only); (try k_fold))))))

theorem ct_jdG (y m d : Int) (t1 t2 t3 : Tok) (hd0 : -2000000000 < d) (hd1 : d < 2000000000) (hm : (-2000000000 < m ∧ m < 2000000000) ∨ d = 1) : Ct 4 84 [.int y t1, .int m t2, .int d t3] (fun v => (∃ t, v = .int (jdG y m d) t) ∧ (0 < d ∧ d ≤ dimG y m)) (¬ (0 < d ∧ d ≤ dimG y m)) := by
  unfold Ct
  w_top off
  k_fill
  intro w loose mean mg mb dp un gd cn cs a ccd cl outer A₀ base h₀ L mm news s Q E B F X N T hk hdp hu hret hbad
  have hDk : KtsDicts [] h₀ := ktsDicts_nil
  refine wpAny_call ?_
  k_dflt cell_enter
  k_steps
  all_goals first
    | (refine mret (Q := Q) (s := s) hret (by k_asm) (by k_asm) (by first | (with_reducible exact sub0) | (with_reducible exact sub1 sub0) | (with_reducible exact sub1 (sub1 sub0)) | (with_reducible exact sub2 sub0) | kcj_all) ?_)
    | (refine mbad (s := s) hbad (by assumption) (by k_asm) (by assumption) (by first | (with_reducible exact sub0) | (with_reducible exact sub1 sub0) | (with_reducible exact sub1 (sub1 sub0)) | (with_reducible exact sub2 sub0) | kcj_all) ?_)
    | (refine mbadS (s := s) hbad (by assumption) (by k_asm) (by assumption) (by first | (with_reducible exact sub0) | (with_reducible exact sub1 sub0) | (with_reducible exact sub1 (sub1 sub0)) | (with_reducible exact sub2 sub0) | kcj_all) ?_)
    | skip
  all_goals first
    | assumption
    | exact ⟨int_ok (jd_e ((cum_2 (by assumption)).trans (Int.add_zero _).symm)), by assumption⟩
    | exact ⟨int_ok (jd_e (cum_t (by assumption) (by assumption))), by assumption⟩
    | exact ⟨int_ok (jd_e (cum_f (by assumption) (by assumption))), by assumption⟩
local macro_rules | `(tactic| walk_at "call ref") => `(tactic| (k_here; (with_reducible show wpAny _ _ (call (Value.ref 84) _) _ _ _); k_dflt (focus (refine' Ct.use (ct_jdG _ _ _ _ _ _ (by omega) (by omega) (by omega)) ?k1 ?k2 ?k3 ?k4 ?k5 ?kK ?kd ?ku (fun v9 h9 tk9 ok9 F9 N9 => ?_) (fun e9 h9 tk9 G9 hb9 F9 R9 U9 => ?_); (case k1 => k_asm); (case k2 => k_asm); (case k3 => k_asm); (case k4 => k_asm); (case k5 => k_asm); (case kK => first | exact rfl | assumption); (case kd => ktr_room); (case ku => ktr_units); all_goals first | ((have R8 := RaisedSN.toN R9); first | (exfalso; omega) | ((try dsimp only); (try k_fold))) | ((obtain ⟨⟨t9, e9⟩, ok8⟩ := ok9); subst e9; (try dsimp only); (try k_fold))))))
theorem dim_pos (y m : Int) : 28 ≤ dimG y m := by
  unfold dimG; (repeat' split) <;> decide
theorem one_legal (y m : Int) : (0 : Int) < 1 ∧ 1 ≤ dimG y m := ⟨by decide, Int.le_trans (by decide) (dim_pos y m)⟩
theorem ct_jdG1 (y m : Int) (t1 t2 t3 : Tok) : Ct 4 84 [.int y t1, .int m t2, .int 1 t3] (fun v => ∃ t, v = .int (jdG y m 1) t) False :=
  (ct_jdG y m 1 t1 t2 t3 (by decide) (by decide) (.inr rfl)).mono (fun _ h => h.1) (fun h => h (one_legal y m))
local macro_rules | `(tactic| walk_at "call ref") => `(tactic| (k_here; (with_reducible show wpAny _ _ (call (Value.ref 84) _) _ _ _); k_dflt (focus (refine' Ct.use (ct_jdG1 _ _ _ _ _) ?k1 ?k2 ?k3 ?k4 ?k5 ?kK ?kd ?ku (fun v9 h9 tk9 ok9 F9 N9 => ?_) (fun _ _ _ _ hb9 => False.elim hb9); (case k1 => k_asm); (case k2 => k_asm); (case k3 => k_asm); (case k4 => k_asm); (case k5 => k_asm); (case kK => first | exact rfl | assumption); (case kd => ktr_room); (case ku => ktr_units); ((obtain ⟨t9, e9⟩ := ok9); subst e9; (try dsimp only); (try k_fold))))))
theorem jd2_a {y m d : Int} (h : m ≤ 2) : 2 - (y - 1).fdiv 100 + ((y - 1).fdiv 100).fdiv 4 + d + (1461 * (y - 1 + 4716)).fdiv 4 + (306001 * (m + 12 + 1)).fdiv 10000 - 1524 = jd2G y m d := by
  simp only [fde (b := 100) (by decide), fde (b := 4) (by decide), fde (b := 10000) (by decide), jd2G, if_pos h]
theorem jd2_b {y m d : Int} (h : ¬ m ≤ 2) : 2 - y.fdiv 100 + (y.fdiv 100).fdiv 4 + d + (1461 * (y + 4716)).fdiv 4 + (306001 * (m + 1)).fdiv 10000 - 1524 = jd2G y m d := by
  simp only [fde (b := 100) (by decide), fde (b := 4) (by decide), fde (b := 10000) (by decide), jd2G, if_neg h]
theorem ct_jd2G (y m d : Int) (t1 t2 t3 : Tok) (hd0 : -2000000000 < d) (hd1 : d < 2000000000) (hm : (-2000000000 < m ∧ m < 2000000000) ∨ d = 1) : Ct 4 77 [.int y t1, .int m t2, .int d t3] (fun v => (∃ t, v = .int (jd2G y m d) t) ∧ (0 < d ∧ d ≤ dimG y m)) (¬ (0 < d ∧ d ≤ dimG y m)) := by
  unfold Ct
  w_top off
  k_fill
  intro w loose mean mg mb dp un gd cn cs a ccd cl outer A₀ base h₀ L mm news s Q E B F X N T hk hdp hu hret hbad
  have hDk : KtsDicts [] h₀ := ktsDicts_nil
  refine wpAny_call ?_
  k_dflt cell_enter
  k_steps
  all_goals first
    | (refine mret (Q := Q) (s := s) hret (by k_asm) (by k_asm) (by first | (with_reducible exact sub0) | (with_reducible exact sub1 sub0) | (with_reducible exact sub1 (sub1 sub0)) | (with_reducible exact sub2 sub0) | kcj_all) ?_)
    | (refine mbad (s := s) hbad (by assumption) (by k_asm) (by assumption) (by first | (with_reducible exact sub0) | (with_reducible exact sub1 sub0) | (with_reducible exact sub1 (sub1 sub0)) | (with_reducible exact sub2 sub0) | kcj_all) ?_)
    | (refine mbadS (s := s) hbad (by assumption) (by k_asm) (by assumption) (by first | (with_reducible exact sub0) | (with_reducible exact sub1 sub0) | (with_reducible exact sub1 (sub1 sub0)) | (with_reducible exact sub2 sub0) | kcj_all) ?_)
    | skip
  all_goals first
    | assumption
    | (have q9 : m ≤ 2 := by assumption
       exact ⟨int_ok (jd2_a q9), by assumption⟩)
    | (have q9 : ¬ m ≤ 2 := by assumption
       exact ⟨int_ok (jd2_b q9), by assumption⟩)
local macro_rules | `(tactic| walk_at "call ref") => `(tactic| (k_here; (with_reducible show wpAny _ _ (call (Value.ref 77) _) _ _ _); k_dflt (focus (refine' Ct.use (ct_jd2G _ _ _ _ _ _ (by omega) (by omega) (by omega)) ?k1 ?k2 ?k3 ?k4 ?k5 ?kK ?kd ?ku (fun v9 h9 tk9 ok9 F9 N9 => ?_) (fun e9 h9 tk9 G9 hb9 F9 R9 U9 => ?_); (case k1 => k_asm); (case k2 => k_asm); (case k3 => k_asm); (case k4 => k_asm); (case k5 => k_asm); (case kK => first | exact rfl | assumption); (case kd => ktr_room); (case ku => ktr_units); all_goals first | ((have R8 := RaisedSN.toN R9); first | (exfalso; omega) | ((try dsimp only); (try k_fold))) | ((obtain ⟨⟨t9, e9⟩, ok8⟩ := ok9); subst e9; (try dsimp only); (try k_fold))))))
theorem ct_jwday (j : Int) (t1 : Tok) : Ct 1 50 [.int j t1] (fun v => ∃ t, v = .int (j % 7) t) False := by
  unfold Ct
  w_top off
  k_fill
  intro w loose mean mg mb dp un gd cn cs a ccd cl outer A₀ base h₀ L mm news s Q E B F X N T hk hdp hu hret hbad
  have hDk : KtsDicts [] h₀ := ktsDicts_nil
  refine wpAny_call ?_
  k_dflt cell_enter
  k_steps
  all_goals first
    | (refine mret (Q := Q) (s := s) hret (by k_asm) (by k_asm) (by first | (with_reducible exact sub0) | (with_reducible exact sub1 sub0) | (with_reducible exact sub1 (sub1 sub0)) | (with_reducible exact sub2 sub0) | kcj_all) ?_)
    | (refine mbad (s := s) hbad (by assumption) (by k_asm) (by assumption) (by first | (with_reducible exact sub0) | (with_reducible exact sub1 sub0) | (with_reducible exact sub1 (sub1 sub0)) | (with_reducible exact sub2 sub0) | kcj_all) ?_)
    | (refine mbadS (s := s) hbad (by assumption) (by k_asm) (by assumption) (by first | (with_reducible exact sub0) | (with_reducible exact sub1 sub0) | (with_reducible exact sub1 (sub1 sub0)) | (with_reducible exact sub2 sub0) | kcj_all) ?_)
    | skip
  all_goals exact int_ok (fme (by decide))
local macro_rules | `(tactic| walk_at "call ref") => `(tactic| (k_here; (with_reducible show wpAny _ _ (call (Value.ref 50) _) _ _ _); k_dflt (focus (refine' Ct.use (ct_jwday _ _) ?k1 ?k2 ?k3 ?k4 ?k5 ?kK ?kd ?ku (fun v9 h9 tk9 ok9 F9 N9 => ?_) (fun _ _ _ _ hb9 => False.elim hb9); (case k1 => k_asm); (case k2 => k_asm); (case k3 => k_asm); (case k4 => k_asm); (case k5 => k_asm); (case kK => first | exact rfl | assumption); (case kd => ktr_room); (case ku => ktr_units); ((obtain ⟨t9, e9⟩ := ok9); subst e9; (try dsimp only); (try k_fold))))))
def truncZ (a b : Int) : Int := if a < 0 then - ((-a) / b) else a / b
theorem tr_a {x b : Int} (hb : 0 < b) (h : (decide (x < 0) == decide (b < 0)) = true) : (if x < 0 then -x else x).fdiv (if b < 0 then -b else b) = truncZ x b := by
  have hb' : ¬ b < 0 := by omega
  have hx : ¬ x < 0 := by simpa [hb'] using h
  simp only [if_neg hb', if_neg hx, truncZ, fde (Int.le_of_lt hb)]
theorem tr_b {x b : Int} (hb : 0 < b) (h : (decide (x < 0) == decide (b < 0)) = false) : -(if x < 0 then -x else x).fdiv (if b < 0 then -b else b) = truncZ x b := by
  have hb' : ¬ b < 0 := by omega
  have hx : x < 0 := by simpa [hb'] using h
  simp only [if_neg hb', if_pos hx, truncZ, fde (Int.le_of_lt hb)]
theorem ct_trunc10 (x : Int) (t1 t2 : Tok) : Ct 1 43 [.int x t1, .int 10 t2] (fun v => ∃ t, v = .int (truncZ x 10) t) False := by
  unfold Ct
  w_top off
  k_fill
  intro w loose mean mg mb dp un gd cn cs a ccd cl outer A₀ base h₀ L mm news s Q E B F X N T hk hdp hu hret hbad
  have hDk : KtsDicts [] h₀ := ktsDicts_nil
  refine wpAny_call ?_
  k_dflt cell_enter
  k_steps
  all_goals first
    | (refine mret (Q := Q) (s := s) hret (by k_asm) (by k_asm) (by first | (with_reducible exact sub0) | (with_reducible exact sub1 sub0) | (with_reducible exact sub1 (sub1 sub0)) | (with_reducible exact sub2 sub0) | kcj_all) ?_)
    | (refine mbad (s := s) hbad (by assumption) (by k_asm) (by assumption) (by first | (with_reducible exact sub0) | (with_reducible exact sub1 sub0) | (with_reducible exact sub1 (sub1 sub0)) | (with_reducible exact sub2 sub0) | kcj_all) ?_)
    | (refine mbadS (s := s) hbad (by assumption) (by k_asm) (by assumption) (by first | (with_reducible exact sub0) | (with_reducible exact sub1 sub0) | (with_reducible exact sub1 (sub1 sub0)) | (with_reducible exact sub2 sub0) | kcj_all) ?_)
    | skip
  all_goals first
    | (have q9 : (decide (x < 0) == decide ((10 : Int) < 0)) = true := by assumption
       exact int_ok (tr_a (by decide) q9))
    | (have q9 : (decide (x < 0) == decide ((10 : Int) < 0)) = false := by assumption
       exact int_ok (tr_b (by decide) q9))
local macro_rules | `(tactic| walk_at "call ref") => `(tactic| (k_here; (with_reducible show wpAny _ _ (call (Value.ref 43) _) _ _ _); k_dflt (focus (refine' Ct.use (ct_trunc10 _ _ _) ?k1 ?k2 ?k3 ?k4 ?k5 ?kK ?kd ?ku (fun v9 h9 tk9 ok9 F9 N9 => ?_) (fun _ _ _ _ hb9 => False.elim hb9); (case k1 => k_asm); (case k2 => k_asm); (case k3 => k_asm); (case k4 => k_asm); (case k5 => k_asm); (case kK => first | exact rfl | assumption); (case kd => ktr_room); (case ku => ktr_units); ((obtain ⟨t9, e9⟩ := ok9); subst e9; (try dsimp only); (try k_fold))))))
theorem ct_trunc367 (x : Int) (t1 t2 : Tok) : Ct 1 43 [.int x t1, .int 367 t2] (fun v => ∃ t, v = .int (truncZ x 367) t) False := by
  unfold Ct
  w_top off
  k_fill
  intro w loose mean mg mb dp un gd cn cs a ccd cl outer A₀ base h₀ L mm news s Q E B F X N T hk hdp hu hret hbad
  have hDk : KtsDicts [] h₀ := ktsDicts_nil
  refine wpAny_call ?_
  k_dflt cell_enter
  k_steps
  all_goals first
    | (refine mret (Q := Q) (s := s) hret (by k_asm) (by k_asm) (by first | (with_reducible exact sub0) | (with_reducible exact sub1 sub0) | (with_reducible exact sub1 (sub1 sub0)) | (with_reducible exact sub2 sub0) | kcj_all) ?_)
    | (refine mbad (s := s) hbad (by assumption) (by k_asm) (by assumption) (by first | (with_reducible exact sub0) | (with_reducible exact sub1 sub0) | (with_reducible exact sub1 (sub1 sub0)) | (with_reducible exact sub2 sub0) | kcj_all) ?_)
    | (refine mbadS (s := s) hbad (by assumption) (by k_asm) (by assumption) (by first | (with_reducible exact sub0) | (with_reducible exact sub1 sub0) | (with_reducible exact sub1 (sub1 sub0)) | (with_reducible exact sub2 sub0) | kcj_all) ?_)
    | skip
  all_goals first
    | (have q9 : (decide (x < 0) == decide ((367 : Int) < 0)) = true := by assumption
       exact int_ok (tr_a (by decide) q9))
    | (have q9 : (decide (x < 0) == decide ((367 : Int) < 0)) = false := by assumption
       exact int_ok (tr_b (by decide) q9))
local macro_rules | `(tactic| walk_at "call ref") => `(tactic| (k_here; (with_reducible show wpAny _ _ (call (Value.ref 43) _) _ _ _); k_dflt (focus (refine' Ct.use (ct_trunc367 _ _ _) ?k1 ?k2 ?k3 ?k4 ?k5 ?kK ?kd ?ku (fun v9 h9 tk9 ok9 F9 N9 => ?_) (fun _ _ _ _ hb9 => False.elim hb9); (case k1 => k_asm); (case k2 => k_asm); (case k3 => k_asm); (case k4 => k_asm); (case k5 => k_asm); (case kK => first | exact rfl | assumption); (case kd => ktr_room); (case ku => ktr_units); ((obtain ⟨t9, e9⟩ := ok9); subst e9; (try dsimp only); (try k_fold))))))
theorem ct_week1 (y : Int) (t1 : Tok) : Ct 6 225 [.int y t1] (fun v => ∃ x t, v = .int x t) False := by
  unfold Ct
  w_top off
  k_fill
  intro w loose mean mg mb dp un gd cn cs a ccd cl outer A₀ base h₀ L mm news s Q E B F X N T hk hdp hu hret hbad
  have hDk : KtsDicts [] h₀ := ktsDicts_nil
  refine wpAny_call ?_
  k_dflt cell_enter
  k_steps
  all_goals first
    | (refine mret (Q := Q) (s := s) hret (by k_asm) (by k_asm) (by first | (with_reducible exact sub0) | (with_reducible exact sub1 sub0) | (with_reducible exact sub1 (sub1 sub0)) | (with_reducible exact sub2 sub0) | kcj_all) ?_)
    | (refine mbad (s := s) hbad (by assumption) (by k_asm) (by assumption) (by first | (with_reducible exact sub0) | (with_reducible exact sub1 sub0) | (with_reducible exact sub1 (sub1 sub0)) | (with_reducible exact sub2 sub0) | kcj_all) ?_)
    | (refine mbadS (s := s) hbad (by assumption) (by k_asm) (by assumption) (by first | (with_reducible exact sub0) | (with_reducible exact sub1 sub0) | (with_reducible exact sub1 (sub1 sub0)) | (with_reducible exact sub2 sub0) | kcj_all) ?_)
    | skip
  all_goals exact ⟨_, _, rfl⟩
local macro_rules | `(tactic| walk_at "call ref") => `(tactic| (k_here; (with_reducible show wpAny _ _ (call (Value.ref 225) _) _ _ _); k_dflt (focus (refine' Ct.use (ct_week1 _ _) ?k1 ?k2 ?k3 ?k4 ?k5 ?kK ?kd ?ku (fun v9 h9 tk9 ok9 F9 N9 => ?_) (fun _ _ _ _ hb9 => False.elim hb9); (case k1 => k_asm); (case k2 => k_asm); (case k3 => k_asm); (case k4 => k_asm); (case k5 => k_asm); (case kK => first | exact rfl | assumption); (case kd => ktr_room); (case ku => ktr_units); ((obtain ⟨x9, t9, e9⟩ := ok9); subst e9; (try dsimp only); (try k_fold))))))
section
variable {prog : Program} {w : World} {A : Around} {E : Value → Shared → Prop} {s : Shared} {env : Env} {h₀ : Heap} {L : Addr} {m : Str → Option Value} {news : Led}
theorem adjust_upto (b n : Nat) (hb : b ≤ n) : Builtin.Slice.sliceAdjust none (some (b : Int)) 1 (n : Int) = (0, (b : Int)) := by
  unfold Builtin.Slice.sliceAdjust
  have h1 : ¬ ((1 : Int) < 0) := by omega
  have h2 : ¬ ((b : Int) < 0) := by omega
  simp only [h1, h2, if_false]
  congr 1
  omega
theorem places_upto (b : Nat) : Builtin.Slice.slicePlaces 0 (b : Int) 1 = b := by
  unfold Builtin.Slice.slicePlaces
  have h1 : (1 : Int) > 0 := by omega
  simp only [h1, if_true, Int.ediv_one]
  split <;> omega
theorem sliceApplied_upto {sl : Addr} {b n : Nat} {u : Tok} {Q : Int × Int × Nat → Shared → Prop} (hs : s.heap.IsSliceOf sl .none (.int b u) .none) (hb : b ≤ n) (h : Q (0, 1, b) s) :
    wpAny (model prog w) A (Builtin.Slice.sliceApplied (.ref sl) (pure (n : Int))) Q E s := by
  obtain ⟨os, hos, hcs, hds⟩ := id hs
  unfold Builtin.Slice.sliceApplied Builtin.Slice.sliceFields
  refine wpAny_bind (wpAny_bind (wpAny_field hos hds (x := .none) rfl (wpAny_bind (wpAny_field hos hds (x := .int b u) rfl (wpAny_bind (wpAny_field hos hds (x := .none) rfl (wpAny_pure ?_)))))))
  refine wpAny_bind (slicePart_none ?_)
  show wpAny _ _ (if ((1 : Int) == 0) = true then _ else _) _ _ s
  rw [if_neg (by decide)]
  refine wpAny_bind (slicePart_none (wpAny_bind (slicePart_int (wpAny_bind (wpAny_pure ?_)))))
  show wpAny _ _ (match Builtin.Slice.sliceAdjust none (some (b : Int)) 1 (n : Int) with | (lo, hi) => pure (lo, (1 : Int), Builtin.Slice.slicePlaces lo hi 1)) _ _ s
  rw [adjust_upto b n hb]
  show wpAny _ _ (pure ((0 : Int), (1 : Int), Builtin.Slice.slicePlaces 0 (b : Int) 1)) _ _ s
  rw [places_upto b]
  exact wpAny_pure h
theorem pick_upto (xs : Array Value) (b : Nat) : ((List.range b).filterMap fun (k : Nat) => xs[((0 : Int) + (k : Int) * 1).toNat]?).toArray = (xs.toList.take b).toArray := by
  have e : (fun (k : Nat) => xs[((0 : Int) + (k : Int) * 1).toNat]?) = fun k => xs[0 + k]? := by
    funext k
    have : ((0 : Int) + (k : Int) * 1).toNat = 0 + k := by omega
    rw [this]
  rw [e]
  have := pick_run xs 0 b
  rw [List.filterMap_map] at this
  have e2 : ((fun x => xs[x]?) ∘ fun x => 0 + x) = fun k => xs[0 + k]? := rfl
  rw [e2] at this
  rw [this, List.drop_zero]
theorem getItem_tuple_upto {t sl : Addr} {items : Array Value} {b : Nat} {u : Tok} {Q : Value → Shared → Prop} (ht : IsTup s.heap t items) (hs : s.heap.IsSliceOf sl .none (.int b u) .none) (hb : b < items.size)
    (h : Q (.ref s.heap.objs.size) { s with heap := s.heap.push { cls := .type "tuple", data := .seq (items.toList.take b).toArray } })
    (hsz : items.size ≤ sizeLine) : wpAny (model prog w) A (getItem (.ref t) (.ref sl)) Q E s := by
  have hdrop : sizeOk (.seq (items.toList.take b).toArray) := by
    show (items.toList.take b).toArray.size ≤ sizeLine
    rw [List.size_toArray, List.length_take, Array.length_toList]
    omega
  obtain ⟨os, hos, hcs, hds⟩ := id hs
  have hTs : s.TypeIs (.ref sl) "slice" := ⟨os, hos, hcs⟩
  unfold getItem
  try with_reducible refine wpAny_holding ?_
  first | refine wpAny_bind (wpAny_pure ?_) | skip
  refine wpAny_bind (wpAny_sequenceKey ht.typeIs (by decide) ?_)
  refine wpAny_bind (wpAny_callSpecial?_slot (name := Str.ofString "__getitem__") ht.typeIs slot_tuple_getitem
    (wpAny_call_entry slot_tuple_getitem ht.typeIs entry_tuple_getitem ?_ (args_tuple_getitem _ _)))
  show wpAny _ _ (Builtin.Tuple.tupleItemsOf (.ref t) >>= _) _ _ s
  refine wpAny_bind (tupleItemsOf_ ht ?_)
  refine wpAny_bind (wpAny_typeOf hTs ?_)
  rw [if_pos (by decide)]
  refine wpAny_bind (sliceApplied_upto hs (Nat.le_of_lt hb) ?_)
  have hno : ¬ (((0 : Int) == 0 && (1 : Int) == 1 && b == items.size) = true) := by
    have : (b == items.size) = false := by rw [beq_eq_false_iff_ne]; omega
    rw [this]; simp
  show wpAny _ _ (if ((0 : Int) == 0 && (1 : Int) == 1 && b == items.size) = true then _ else _) _ _ s
  rw [if_neg hno, pick_upto items b]
  first
    | exact wpAny_bind (m := Builtin.Tuple.tupleExact _) (wpAny_newObj_type (wpAny_pure ⟨_, rfl, wpAny_pure h⟩) hdrop)
    | exact wpAny_bind (m := Builtin.Tuple.tupleExact _) (wpAny_newObj_type (wpAny_bind (wpAny_pure (wpAny_pure ⟨_, rfl, wpAny_pure h⟩))) hdrop)
    | exact wpAny_bind (wpAny_bind (m := Builtin.Tuple.tupleExact _) (wpAny_newObj_type (wpAny_pure (wpAny_pure ⟨_, rfl, wpAny_pure h⟩)) hdrop))
    | exact wpAny_bind (wpAny_bind (m := Builtin.Tuple.tupleExact _) (wpAny_newObj_type (wpAny_pure ⟨_, rfl, wpAny_pure h⟩) hdrop))
theorem slice_tuple_upto {value slice : Expr} {t : Addr} {items : Array Value} {i : Int} {u : Tok} {Q : Value → Shared → Prop}
    (F : Fr h₀ L s.heap m) (N : News h₀ L s.heap news) (ht : IsTup s.heap t items) (h0 : 0 ≤ i) (hi : i < items.size)
    (h : ∀ D h', Fr h₀ L h' m → News h₀ L h' ((D, ({ cls := .type "tuple", data := .seq (items.toList.take i.toNat).toArray 0 } : Obj)) :: news) → (∀ p ∈ news, p.1 < D) → Q (.ref D) { s with heap := h' })
    (hs : subscripted slice false (.ref t) (.ref s.heap.objs.size) = operate [.ref s.heap.objs.size, .ref t] (getItem (.ref t) (.ref s.heap.objs.size)))
    (hg : ∀ r, letTemporaryGo value (.ref t) r = pure ())
    (hsz : items.size ≤ sizeLine) :
    wpAny (model prog w) A (subscriptTail value slice (.ref t) (.ref s.heap.objs.size)) Q E { s with heap := s.heap.push { cls := .type "slice", data := .fields #[.none, .int i u, .none] } } := by
  obtain ⟨b, rfl⟩ : ∃ b : Nat, i = (b : Int) := ⟨i.toNat, by omega⟩
  have ht' : IsTup (s.heap.push { cls := .type "slice", data := .fields #[.none, .int b u, .none] }) t items := ht.keeps fun _ _ e => Heap.get?_push_of_some _ e
  refine subscriptTail_ops (s := { s with heap := s.heap.push { cls := .type "slice", data := .fields #[.none, .int b u, .none] } }) ht'.typeIs slot_tuple_getitem.lookup
    (getItem_tuple_upto ht' (Heap.IsSliceOf.new ..) (by omega) ?_ hsz) hs hg
  have N1 := News.push (F.push { cls := .type "slice", data := .fields #[.none, .int b u, .none] }) (N.grown fun _ _ e => Heap.get?_push_of_some _ e) { cls := .type "tuple", data := .seq (items.toList.take b).toArray }
  rw [Heap.size_push] at N1
  show Q (.ref (s.heap.push _).objs.size) _
  rw [Heap.size_push]
  exact h _ _ ((F.push _).push _) N1 fun p hp => Nat.lt_succ_of_lt (Heap.lt_size (N p hp).1)

/-- a turn's end: one name holds an int, the others as they were -/
def OneEnd (h₀ : Heap) (L : Addr) (x y : Str) (m₀ : Str → Option Value) (own : Led) (s : Shared) (f : Flow) (s₂ : Shared) : Prop :=
  f = .next ∧ ∃ h' tk m' a' t', s₂ = { s with heap := h', toks := tk } ∧ Fr h₀ L h' m' ∧ News h₀ L h' own ∧ m' y = some (.int a' t') ∧ ∀ z, z ≠ x → z ≠ y → m' z = m₀ z
theorem iter_tup1 {D : Addr} {vs : List Value} {ns : List Int} {c : Nat} {x y : Str} {a₀ : Int} {t₀ : Tok} {m₀ : Str → Option Value} {body : List Stmt} {Q : Flow → Shared → Prop} (hh : A.handled = none) (F : Fr h₀ env.locals s.heap m₀)
    (N : News h₀ env.locals s.heap ((D, ({ cls := .type "tuple", data := .seq vs.toArray c } : Obj)) :: news)) (hlt : ∀ p ∈ news, p.1 < D) (hi : IntsAre vs ns) (hy : m₀ y = some (.int a₀ t₀)) (_hyx : y ≠ x)
    (turn : ∀ n t a ta h tk own, Fr h₀ env.locals h (fun z => if z = x then some (.int n t) else if z = y then some (.int a ta) else m₀ z) → News h₀ env.locals h (news ++ own) →
      wpAny (model prog w) A (execs body env) (OneEnd h₀ env.locals x y m₀ (news ++ own) { s with heap := h, toks := tk }) E { s with heap := h, toks := tk })
    (done : ∀ (u : Str → Option Value) a t h tk, Fr h₀ env.locals h (fun z => if z = x then u z else if z = y then some (.int a t) else m₀ z) → News h₀ env.locals h news → Q .next { s with heap := h, toks := tk }) :
    wpAny (model prog w) A (pyIter (.ref D)) (fun it s₂ => LoopAtV prog w A h₀ env x body Q E it s₂) E s := by
  have ND := N _ (List.mem_cons_self ..)
  have Nr : News h₀ env.locals s.heap news := fun p hp => N p (List.mem_cons_of_mem _ hp)
  have hl : s.heap.IsTuple D vs.toArray := ⟨_, ND.1, rfl, c, rfl⟩
  have hDs : D < s.heap.objs.size := Heap.lt_size ND.1
  have hne : D ≠ s.heap.objs.size := Nat.ne_of_lt hDs
  refine wpAny_pyIter_tuple hl ?_
  refine loop_invN (news := news) (fun _ m nx => nx = news ∧ (∃ a t, m y = some (.int a t)) ∧ ∀ z, z ≠ x → z ≠ y → m z = m₀ z) (Walks.tuple hh s.heap.objs.size D hne vs.toArray) ?_ ?_ ?_ ?_ ⟨⟨_, Heap.get?_push_size _ rfl, rfl, rfl⟩, hl.at fun o e => Heap.get?_push_of_some _ e⟩ (F.push _) (fun p hp => ⟨Heap.get?_push_of_some _ (Nr p hp).1, (Nr p hp).2⟩) ⟨rfl, ⟨a₀, t₀, hy⟩, fun _ _ _ => rfl⟩ ?_ ?_
  · intro hm
    rcases List.mem_cons.mp hm with e | hm
    · exact absurd F.ns.lt (e ▸ Nat.lt_irrefl _)
    · exact ND.2.1 (List.mem_singleton.mp hm).symm
  · intro b hb
    rw [List.mem_singleton.mp hb]
    exact next_is_new F
  · intro p hp hI
    exact absurd (Heap.lt_size (Nr p hp).1) ((List.mem_singleton.mp hI) ▸ Nat.lt_irrefl _)
  · intro p hp hI
    rcases List.mem_cons.mp hI with e | hI
    · exact absurd (Heap.lt_size (Nr p hp).1) (e ▸ Nat.lt_irrefl _)
    · have := hlt p hp
      rw [List.mem_singleton.mp hI] at this
      exact absurd this (Nat.lt_irrefl _)
  · rintro i v m₁ news₁ h tk own hin hP hadr hoff ⟨rfl, ⟨a, ta, ha⟩, hm⟩ F₁ N₁
    have hv : ∃ n t, v = .int n t := by
      have hP' : vs[i]? = some v := by simpa using hP
      have hin' : i < ns.length := by
        have := hi.length
        have h2 : i < vs.length := by
          rcases Nat.lt_or_ge i vs.length with q | q
          · exact q
          · rw [List.getElem?_eq_none q] at hP'; cases hP'
        omega
      obtain ⟨t, hx⟩ := hi.get i ns[i] (by simp [hin'])
      rw [hx] at hP'
      exact ⟨_, _, (Option.some.inj hP').symm⟩
    obtain ⟨n, t, rfl⟩ := hv
    have e : (fun z => if z = x then some (Value.int n t) else m₁ z) = fun z => if z = x then some (Value.int n t) else if z = y then some (Value.int a ta) else m₀ z := by
      funext z
      by_cases h1 : z = x
      · simp [h1]
      · simp only [if_neg h1]
        by_cases h2 : z = y
        · subst h2; simp [ha]
        · simp only [if_neg h2]; exact hm z h1 h2
    rw [e] at F₁
    refine wpAny_mono (turn n t a ta h tk own F₁ N₁) (fun f s₂ p => ?_) fun _ _ e => e
    obtain ⟨rfl, h', tk', m', a', t', e', F', N', hy', hz'⟩ := p
    exact ⟨h', tk', m', _, news₁, e', F', N', fun q hq => List.mem_append_left _ hq, fun q hq => List.mem_append_right _ hq, rfl, rfl, ⟨a', t', hy'⟩, hz'⟩
  · rintro m₁ news₁ h tk ⟨rfl, ⟨a, ta, ha⟩, hm⟩ F₁ N₁
    refine done m₁ a ta h tk ?_ N₁
    have e : (fun z => if z = x then m₁ z else if z = y then some (Value.int a ta) else m₀ z) = m₁ := by
      funext z
      by_cases h1 : z = x
      · simp [h1]
      · simp only [if_neg h1]
        by_cases h2 : z = y
        · subst h2; simp [ha]
        · simp only [if_neg h2]; exact (hm z h1 h2).symm
    rw [e]; exact F₁
end
def md22 : List Value := [.int 0 196, .int 31 197, .int 28 198, .int 31 199, .int 30 200, .int 31 201, .int 30 202, .int 31 203, .int 31 204, .int 30 205, .int 31 206, .int 30 207, .int 31 208]
def mds : List Int := [0, 31, 28, 31, 30, 31, 30, 31, 31, 30, 31, 30, 31]
theorem md_ints : IntsAre md22 mds := by unfold md22 mds; repeat (first | exact .nil | refine .cons _ _ ?_)
theorem tup_22 {w : World} {s : Shared} {h₀ : Heap} {L : Addr} {m : Str → Option Value} (F : Fr h₀ L s.heap m) (X : (hd.heap_39 w.params).In h₀) : IsTup s.heap 22 md22.toArray :=
  ⟨_, F.keep _ _ (X 22 ⟨.type "tuple", none, .seq md22.toArray 0, #[]⟩ rfl), rfl, _, rfl⟩
theorem ints_take : ∀ {vs : List Value} {ns : List Int} (_ : IntsAre vs ns) (k : Nat), IntsAre (vs.take k) (ns.take k)
  | _, _, .nil, k => by simp only [List.take_nil]; exact .nil
  | _, _, .cons n t h, 0 => .nil
  | _, _, .cons n t h, k + 1 => .cons n t (ints_take h k)
local macro_rules | `(tactic| walk_at "exec For Name Subscript cons nil") => `(tactic| (k_here; (rename Fr _ _ _ _ => lF'); (with_unfolding_all refine' For_invVF lF' ?k1 ?k2 ?_; (case k1 => exact rfl); (case k2 => exact rfl); k_whole)))
local macro_rules | `(tactic| walk_at "subscriptTail Name Slice ref ref") => `(tactic| (k_here; (with_reducible show wpAny _ _ (subscriptTail _ (PySem.Expr.Slice none (some _) none _) (Value.ref 22) (Value.ref _)) _ _ _); k_dflt (refine' slice_tuple_upto ?F ?N (tup_22 ?F2 ?X) ?h0 ?hi ?_ ?s ?t ?z; (case F => k_asm); (case N => k_asm); (case F2 => k_asm); (case X => k_asm); (case h0 => omega); (case hi => (show _ < (13 : Int); omega)); (case s => with_unfolding_all rfl); (case t => (intro _; with_unfolding_all rfl)); (case z => decide +kernel)); intro D' h' F' N' l1))
local macro_rules | `(tactic| walk_at "pyIter ref") => `(tactic| (k_here; (with_reducible show wpAny _ _ (pyIter (Value.ref _)) (fun it s₂ => LoopAtV _ _ _ _ _ _ _ _ _ it s₂) _ _); k_dflt (refine' iter_tup1 (y := Str.ofString "first") ?hh ?F ?N ?l ?i ?y ?n (fun n' t' a' ta' h' tk' own' F' N' => ?_) (fun u' a' t' h' tk' F' N' => ?_); (case hh => exact rfl); (case F => k_asm); (case N => k_asm); (case l => assumption); (case i => exact ints_take md_ints _); (case y => exact rfl); (case n => decide); all_goals ((try k_sweep); (try k_fold)))))
theorem twelve {m : Int} (h1 : 1 ≤ m) (h2 : m ≤ 12) : m = 1 ∨ m = 2 ∨ m = 3 ∨ m = 4 ∨ m = 5 ∨ m = 6 ∨ m = 7 ∨ m = 8 ∨ m = 9 ∨ m = 10 ∨ m = 11 ∨ m = 12 := by omega
theorem md_val {m : Int} (h1 : 1 ≤ m) (h2 : m ≤ 12) : ([0, 31, 28, 31, 30, 31, 30, 31, 31, 30, 31, 30, 31] : List Int).getD m.toNat 0 = if m = 2 then 28 else if in30 m then 30 else 31 := by
  rcases twelve h1 h2 with rfl | rfl | rfl | rfl | rfl | rfl | rfl | rfl | rfl | rfl | rfl | rfl <;> decide
theorem mr_ok {y m a b : Int} {t t' : Tok} (h1 : 1 ≤ m) (h2 : m ≤ 12) (h : b = dimG y m) : (∃ x t3 t4, [Value.int a t, Value.int b t'] = [Value.int x t3, Value.int (dimG y m) t4]) ∧ 1 ≤ m ∧ m ≤ 12 := ⟨⟨a, t, t', by rw [h]⟩, h1, h2⟩
theorem mr_1 {y m : Int} (h1 : 1 ≤ m) (h2 : m ≤ 12) (e : m = 2) (l : leapG y = true) : ([0, 31, 28, 31, 30, 31, 30, 31, 31, 30, 31, 30, 31] : List Int).getD m.toNat 0 + 1 = dimG y m := by
  rw [md_val h1 h2, dim_2t e l, if_pos e]; rfl
theorem mr_2 {y m : Int} (h1 : 1 ≤ m) (h2 : m ≤ 12) (e : m = 2) (l : leapG y = false) : ([0, 31, 28, 31, 30, 31, 30, 31, 31, 30, 31, 30, 31] : List Int).getD m.toNat 0 + 0 = dimG y m := by
  rw [md_val h1 h2, dim_2f e l, if_pos e]; rfl
theorem mr_3 {y m : Int} (h1 : 1 ≤ m) (h2 : m ≤ 12) (e : ¬ m = 2) : ([0, 31, 28, 31, 30, 31, 30, 31, 31, 30, 31, 30, 31] : List Int).getD m.toNat 0 + 0 = dimG y m := by
  rw [md_val h1 h2, if_neg e, dimG, if_neg e]; split <;> rfl
theorem ct_mr (y m : Int) (t1 t2 : Tok) : CtT 3 36 [.int y t1, .int m t2] (fun xs => (∃ x t3 t4, xs = [.int x t3, .int (dimG y m) t4]) ∧ (1 ≤ m ∧ m ≤ 12)) (¬ (1 ≤ m ∧ m ≤ 12)) := by
  unfold CtT
  w_top off
  k_fill
  intro w loose mean mg mb dp un gd cn cs a ccd cl outer A₀ base h₀ L mm news s Q E B F X N T hk hdp hu hret hbad
  have hDk : KtsDicts [] h₀ := ktsDicts_nil
  refine wpAny_call ?_
  k_dflt cell_enter
  k_steps
  all_goals first
    | (refine mretT (Q := Q) (s := s) hret (by k_asm) (by k_asm) (by k_mem) (by first | (with_reducible exact sub0) | (with_reducible exact sub1 sub0) | (with_reducible exact sub1 (sub1 sub0)) | (with_reducible exact sub2 sub0) | kcj_all) (by first | assumption | exact lt_all (by assumption) | ((with_reducible rename _ ∧ AllLt _ _ => q9); exact lt_all q9.2) | ((with_reducible rename _ ∧ _ ∧ AllLt _ _ => q9); exact lt_all q9.2.2)) ?_)
    | (refine mbad (s := s) hbad (by assumption) (by k_asm) (by assumption) (by first | (with_reducible exact sub0) | (with_reducible exact sub1 sub0) | (with_reducible exact sub1 (sub1 sub0)) | (with_reducible exact sub2 sub0) | kcj_all) ?_)
    | (refine mbadS (s := s) hbad (by assumption) (by k_asm) (by assumption) (by first | (with_reducible exact sub0) | (with_reducible exact sub1 sub0) | (with_reducible exact sub1 (sub1 sub0)) | (with_reducible exact sub2 sub0) | kcj_all) ?_)
    | skip
  all_goals first
    | (refine' ⟨rfl, _, _, _, _, _, rfl, ?F, ?N, ?y, ?z⟩; (case F => k_asm); (case N => k_asm); (case y => exact rfl); (case z => intro z h1 h2; simp only [h1, h2, if_false]))
    | (exfalso; omega)
    | omega
    | (have q1 : m = 2 := by assumption
       have q2 : leapG y = true := by assumption
       exact mr_ok (by assumption) (by assumption) (mr_1 (by assumption) (by assumption) q1 q2))
    | (have q1 : m = 2 := by assumption
       have q2 : leapG y = false := by assumption
       exact mr_ok (by assumption) (by assumption) (mr_2 (by assumption) (by assumption) q1 q2))
    | (have q1 : ¬ m = 2 := by assumption
       exact mr_ok (by assumption) (by assumption) (mr_3 (by assumption) (by assumption) q1))
local macro_rules | `(tactic| walk_at "call ref") => `(tactic| (k_here; (with_reducible show wpAny _ _ (call (Value.ref 36) _) _ _ _); k_dflt (focus (refine' CtT.use (ct_mr _ _ _ _) ?k1 ?k2 ?k3 ?k4 ?k5 ?kK ?kd ?ku (fun D9 c9 xs9 h9 tk9 ok9 F9 N9 l9 => ?_) (fun e9 h9 tk9 G9 hb9 F9 R9 U9 => ?_); (case k1 => k_asm); (case k2 => k_asm); (case k3 => k_asm); (case k4 => k_asm); (case k5 => k_asm); (case kK => first | exact rfl | assumption); (case kd => ktr_room); (case ku => ktr_units); all_goals first | ((have R8 := RaisedSN.toN R9); first | (exfalso; omega) | ((try dsimp only); (try k_fold))) | ((obtain ⟨⟨x9, t9, t8, e9⟩, ok8⟩ := ok9); subst e9; (try k_lt l9); (try dsimp only); (try k_fold))))))
theorem ct_mlG (y m : Int) (t1 t2 : Tok) : Ct 4 98 [.int y t1, .int m t2] (fun v => (∃ t, v = .int (dimG y m) t) ∧ (1 ≤ m ∧ m ≤ 12)) (¬ (1 ≤ m ∧ m ≤ 12)) := by
  unfold Ct
  w_top off
  k_fill
  intro w loose mean mg mb dp un gd cn cs a ccd cl outer A₀ base h₀ L mm news s Q E B F X N T hk hdp hu hret hbad
  have hDk : KtsDicts [] h₀ := ktsDicts_nil
  refine wpAny_call ?_
  k_dflt cell_enter
  k_steps
  all_goals first
    | (refine mret (Q := Q) (s := s) hret (by k_asm) (by k_asm) (by first | (with_reducible exact sub0) | (with_reducible exact sub1 sub0) | (with_reducible exact sub1 (sub1 sub0)) | (with_reducible exact sub2 sub0) | kcj_all) ?_)
    | (refine mbad (s := s) hbad (by assumption) (by k_asm) (by assumption) (by first | (with_reducible exact sub0) | (with_reducible exact sub1 sub0) | (with_reducible exact sub1 (sub1 sub0)) | (with_reducible exact sub2 sub0) | kcj_all) ?_)
    | (refine mbadS (s := s) hbad (by assumption) (by k_asm) (by assumption) (by first | (with_reducible exact sub0) | (with_reducible exact sub1 sub0) | (with_reducible exact sub1 (sub1 sub0)) | (with_reducible exact sub2 sub0) | kcj_all) ?_)
    | skip
  all_goals first
    | assumption
    | exact ⟨⟨_, rfl⟩, by assumption⟩
local macro_rules | `(tactic| walk_at "call ref") => `(tactic| (k_here; (with_reducible show wpAny _ _ (call (Value.ref 98) _) _ _ _); k_dflt (focus (refine' Ct.use (ct_mlG _ _ _ _) ?k1 ?k2 ?k3 ?k4 ?k5 ?kK ?kd ?ku (fun v9 h9 tk9 ok9 F9 N9 => ?_) (fun e9 h9 tk9 G9 hb9 F9 R9 U9 => ?_); (case k1 => k_asm); (case k2 => k_asm); (case k3 => k_asm); (case k4 => k_asm); (case k5 => k_asm); (case kK => first | exact rfl | assumption); (case kd => ktr_room); (case ku => ktr_units); all_goals first | ((have R8 := RaisedSN.toN R9); first | (exfalso; omega) | ((try dsimp only); (try k_fold))) | ((obtain ⟨⟨t9, e9⟩, ok8⟩ := ok9); subst e9; (try dsimp only); (try k_fold))))))
theorem dim_bd (y m : Int) : 28 ≤ dimG y m ∧ dimG y m ≤ 31 := by
  unfold dimG; (repeat' split) <;> decide
theorem ct_nth (y m : Int) (t1 t2 t3 t4 : Tok) : Ct 4 62 [.int 1 t1, .int 0 t2, .int m t3, .int y t4] (fun _ => 1 ≤ m ∧ m ≤ 12) (¬ (1 ≤ m ∧ m ≤ 12)) := by
  unfold Ct
  w_top off
  k_fill
  intro w loose mean mg mb dp un gd cn cs a ccd cl outer A₀ base h₀ L mm news s Q E B F X N T hk hdp hu hret hbad
  have hDk : KtsDicts [] h₀ := ktsDicts_nil
  refine wpAny_call ?_
  k_dflt cell_enter
  have hdim := dim_bd y m
  k_steps
  all_goals first
    | (refine mret (Q := Q) (s := s) hret (by k_asm) (by k_asm) (by first | (with_reducible exact sub0) | (with_reducible exact sub1 sub0) | (with_reducible exact sub1 (sub1 sub0)) | (with_reducible exact sub2 sub0) | kcj_all) ?_)
    | (refine mbad (s := s) hbad (by assumption) (by k_asm) (by assumption) (by first | (with_reducible exact sub0) | (with_reducible exact sub1 sub0) | (with_reducible exact sub1 (sub1 sub0)) | (with_reducible exact sub2 sub0) | kcj_all) ?_)
    | (refine mbadS (s := s) hbad (by assumption) (by k_asm) (by assumption) (by first | (with_reducible exact sub0) | (with_reducible exact sub1 sub0) | (with_reducible exact sub1 (sub1 sub0)) | (with_reducible exact sub2 sub0) | kcj_all) ?_)
    | skip
  all_goals first
    | assumption
local macro_rules | `(tactic| walk_at "call ref") => `(tactic| (k_here; (with_reducible show wpAny _ _ (call (Value.ref 62) _) _ _ _); k_dflt (focus (refine' Ct.use (ct_nth _ _ _ _ _ _) ?k1 ?k2 ?k3 ?k4 ?k5 ?kK ?kd ?ku (fun v9 h9 tk9 ok9 F9 N9 => ?_) (fun e9 h9 tk9 G9 hb9 F9 R9 U9 => ?_); (case k1 => k_asm); (case k2 => k_asm); (case k3 => k_asm); (case k4 => k_asm); (case k5 => k_asm); (case kK => first | exact rfl | assumption); (case kd => ktr_room); (case ku => ktr_units); all_goals first | ((have R8 := RaisedSN.toN R9); first | (exfalso; omega) | ((try dsimp only); (try k_fold))) | ((try dsimp only); (try k_fold))))))
theorem ct_iso (y m d : Int) (t1 t2 t3 : Tok) : Ct 8 232 [.int y t1, .int m t2, .int d t3] (fun _ => (1 ≤ y ∧ y ≤ 9999) ∧ (1 ≤ m ∧ m ≤ 12) ∧ (0 < d ∧ d ≤ dimG y m)) (¬ ((1 ≤ y ∧ y ≤ 9999) ∧ (1 ≤ m ∧ m ≤ 12) ∧ (0 < d ∧ d ≤ dimG y m))) := by
  unfold Ct
  w_top off
  k_fill
  intro w loose mean mg mb dp un gd cn cs a ccd cl outer A₀ base h₀ L mm news s Q E B F X N T hk hdp hu hret hbad
  have hDk : KtsDicts [] h₀ := ktsDicts_nil
  refine wpAny_call ?_
  k_dflt cell_enter
  have hdim := dim_bd y m
  k_steps
  all_goals first
    | (refine mret (Q := Q) (s := s) hret (by k_asm) (by k_asm) (by first | (with_reducible exact sub0) | (with_reducible exact sub1 sub0) | (with_reducible exact sub1 (sub1 sub0)) | (with_reducible exact sub2 sub0) | kcj_all) ?_)
    | (refine mbad (s := s) hbad (by assumption) (by k_asm) (by assumption) (by first | (with_reducible exact sub0) | (with_reducible exact sub1 sub0) | (with_reducible exact sub1 (sub1 sub0)) | (with_reducible exact sub2 sub0) | kcj_all) ?_)
    | (refine mbadS (s := s) hbad (by assumption) (by k_asm) (by assumption) (by first | (with_reducible exact sub0) | (with_reducible exact sub1 sub0) | (with_reducible exact sub1 (sub1 sub0)) | (with_reducible exact sub2 sub0) | kcj_all) ?_)
    | skip
  all_goals first
    | omega
local macro_rules | `(tactic| walk_at "call ref") => `(tactic| (k_here; (with_reducible show wpAny _ _ (call (Value.ref 232) _) _ _ _); k_dflt (focus (refine' Ct.use (ct_iso _ _ _ _ _ _) ?k1 ?k2 ?k3 ?k4 ?k5 ?kK ?kd ?ku (fun v9 h9 tk9 ok9 F9 N9 => ?_) (fun e9 h9 tk9 G9 hb9 F9 R9 U9 => ?_); (case k1 => k_asm); (case k2 => k_asm); (case k3 => k_asm); (case k4 => k_asm); (case k5 => k_asm); (case kK => first | exact rfl | assumption); (case kd => ktr_room); (case ku => ktr_units); all_goals first | ((have R8 := RaisedSN.toN R9); first | (exfalso; omega) | ((try dsimp only); (try k_fold))) | ((try dsimp only); (try k_fold))))))
def leapJ (y : Int) : Bool := decide (y % 4 = 0)
def dimJ (y m : Int) : Int := if m = 2 then (if leapJ y then 29 else 28) else if in30 m then 30 else 31
theorem dimJ_2t {y m : Int} (hm : m = 2) (hl : leapJ y = true) : dimJ y m = 29 := by simp [dimJ, hm, hl]
theorem dimJ_2f {y m : Int} (hm : m = 2) (hl : leapJ y = false) : dimJ y m = 28 := by simp [dimJ, hm, hl]
theorem dimJ_30 {y m : Int} (hm : ¬ m = 2) (hl : in30 m = true) : dimJ y m = 30 := by simp [dimJ, hm, hl]
theorem dimJ_31 {y m : Int} (hm : ¬ m = 2) (hl : in30 m = false) : dimJ y m = 31 := by simp [dimJ, hm, hl]
theorem dimJ_bd (y m : Int) : 28 ≤ dimJ y m ∧ dimJ y m ≤ 31 := by
  unfold dimJ; (repeat' split) <;> decide
theorem ct_leapJ (y : Int) (t : Tok) : Ct 1 113 [.int y t] (fun v => v = .bool (leapJ y)) False := by
  unfold Ct
  w_top off
  k_fill
  intro w loose mean mg mb dp un gd cn cs a ccd cl outer A₀ base h₀ L mm news s Q E B F X N T hk hdp hu hret hbad
  have hDk : KtsDicts [] h₀ := ktsDicts_nil
  refine wpAny_call ?_
  k_dflt cell_enter
  k_steps
  all_goals first
    | (refine mret (Q := Q) (s := s) hret (by k_asm) (by k_asm) (by first | (with_reducible exact sub0) | (with_reducible exact sub1 sub0) | (with_reducible exact sub1 (sub1 sub0)) | (with_reducible exact sub2 sub0) | kcj_all) ?_)
    | (refine mbad (s := s) hbad (by assumption) (by k_asm) (by assumption) (by first | (with_reducible exact sub0) | (with_reducible exact sub1 sub0) | (with_reducible exact sub1 (sub1 sub0)) | (with_reducible exact sub2 sub0) | kcj_all) ?_)
    | (refine mbadS (s := s) hbad (by assumption) (by k_asm) (by assumption) (by first | (with_reducible exact sub0) | (with_reducible exact sub1 sub0) | (with_reducible exact sub1 (sub1 sub0)) | (with_reducible exact sub2 sub0) | kcj_all) ?_)
    | skip
  all_goals (rw [leapJ, fme (by decide)]; rfl)
local macro_rules | `(tactic| walk_at "call ref") => `(tactic| (k_here; (with_reducible show wpAny _ _ (call (Value.ref 113) _) _ _ _); k_dflt (focus (refine' Ct.use (ct_leapJ _ _) ?k1 ?k2 ?k3 ?k4 ?k5 ?kK ?kd ?ku (fun v9 h9 tk9 ok9 F9 N9 => ?_) (fun _ _ _ _ hb9 => False.elim hb9); (case k1 => k_asm); (case k2 => k_asm); (case k3 => k_asm); (case k4 => k_asm); (case k5 => k_asm); (case kK => first | exact rfl | assumption); (case kd => ktr_room); (case ku => ktr_units); (subst ok9; (try dsimp only); (try k_fold))))))
theorem ct_mlJ (y m : Int) (t1 t2 : Tok) : Ct 2 120 [.int y t1, .int m t2] (fun v => ∃ t, v = .int (dimJ y m) t) False := by
  unfold Ct
  w_top off
  k_fill
  intro w loose mean mg mb dp un gd cn cs a ccd cl outer A₀ base h₀ L mm news s Q E B F X N T hk hdp hu hret hbad
  have hDk : KtsDicts [] h₀ := ktsDicts_nil
  refine wpAny_call ?_
  k_dflt cell_enter
  k_steps
  all_goals first
    | (refine mret (Q := Q) (s := s) hret (by k_asm) (by k_asm) (by first | (with_reducible exact sub0) | (with_reducible exact sub1 sub0) | (with_reducible exact sub1 (sub1 sub0)) | (with_reducible exact sub2 sub0) | kcj_all) ?_)
    | (refine mbad (s := s) hbad (by assumption) (by k_asm) (by assumption) (by first | (with_reducible exact sub0) | (with_reducible exact sub1 sub0) | (with_reducible exact sub1 (sub1 sub0)) | (with_reducible exact sub2 sub0) | kcj_all) ?_)
    | (refine mbadS (s := s) hbad (by assumption) (by k_asm) (by assumption) (by first | (with_reducible exact sub0) | (with_reducible exact sub1 sub0) | (with_reducible exact sub1 (sub1 sub0)) | (with_reducible exact sub2 sub0) | kcj_all) ?_)
    | skip
  all_goals first
    | (have e9 := dimJ_2t (y := y) (m := m) (by assumption) (by assumption); exact int_ok e9.symm)
    | (have e9 := dimJ_2f (y := y) (m := m) (by assumption) (by assumption); exact int_ok e9.symm)
    | (have e9 := dimJ_30 (y := y) (m := m) (by assumption) (by assumption); exact int_ok e9.symm)
    | (have e9 := dimJ_31 (y := y) (m := m) (by assumption) (by assumption); exact int_ok e9.symm)
local macro_rules | `(tactic| walk_at "call ref") => `(tactic| (k_here; (with_reducible show wpAny _ _ (call (Value.ref 120) _) _ _ _); k_dflt (focus (refine' Ct.use (ct_mlJ _ _ _ _) ?k1 ?k2 ?k3 ?k4 ?k5 ?kK ?kd ?ku (fun v9 h9 tk9 ok9 F9 N9 => ?_) (fun _ _ _ _ hb9 => False.elim hb9); (case k1 => k_asm); (case k2 => k_asm); (case k3 => k_asm); (case k4 => k_asm); (case k5 => k_asm); (case kK => first | exact rfl | assumption); (case kd => ktr_room); (case ku => ktr_units); ((obtain ⟨t9, e9⟩ := ok9); subst e9; (try dsimp only); (try k_fold))))))
theorem ct_legalJ (y m d : Int) (t1 t2 t3 : Tok) (hd0 : -2000000000 < d) (hd1 : d < 2000000000) (hm : -2000000000 < m ∧ m < 2000000000) : Ct 4 127 [.int y t1, .int m t2, .int d t3] (fun v => v = .bool true ∧ (0 < d ∧ d ≤ dimJ y m)) (¬ (0 < d ∧ d ≤ dimJ y m)) := by
  unfold Ct
  w_top off
  k_fill
  intro w loose mean mg mb dp un gd cn cs a ccd cl outer A₀ base h₀ L mm news s Q E B F X N T hk hdp hu hret hbad
  have hDk : KtsDicts [] h₀ := ktsDicts_nil
  refine wpAny_call ?_
  k_dflt cell_enter
  have hdim := dimJ_bd y m
  k_steps
  all_goals first
    | (refine mret (Q := Q) (s := s) hret (by k_asm) (by k_asm) (by first | (with_reducible exact sub0) | (with_reducible exact sub1 sub0) | (with_reducible exact sub1 (sub1 sub0)) | (with_reducible exact sub2 sub0) | kcj_all) ?_)
    | (refine mbad (s := s) hbad (by assumption) (by k_asm) (by assumption) (by first | (with_reducible exact sub0) | (with_reducible exact sub1 sub0) | (with_reducible exact sub1 (sub1 sub0)) | (with_reducible exact sub2 sub0) | kcj_all) ?_)
    | (refine mbadS (s := s) hbad (by assumption) (by k_asm) (by assumption) (by first | (with_reducible exact sub0) | (with_reducible exact sub1 sub0) | (with_reducible exact sub1 (sub1 sub0)) | (with_reducible exact sub2 sub0) | kcj_all) ?_)
    | skip
  all_goals first
    | omega
    | exact ⟨rfl, by omega⟩
local macro_rules | `(tactic| walk_at "call ref") => `(tactic| (k_here; (with_reducible show wpAny _ _ (call (Value.ref 127) _) _ _ _); k_dflt (focus (refine' Ct.use (ct_legalJ _ _ _ _ _ _ (by omega) (by omega) (by omega)) ?k1 ?k2 ?k3 ?k4 ?k5 ?kK ?kd ?ku (fun v9 h9 tk9 ok9 F9 N9 => ?_) (fun e9 h9 tk9 G9 hb9 F9 R9 U9 => ?_); (case k1 => k_asm); (case k2 => k_asm); (case k3 => k_asm); (case k4 => k_asm); (case k5 => k_asm); (case kK => first | exact rfl | assumption); (case kd => ktr_room); (case ku => ktr_units); all_goals first | ((have R8 := RaisedSN.toN R9); first | (exfalso; omega) | ((try dsimp only); (try k_fold))) | ((obtain ⟨ok9, ok8⟩ := ok9); subst ok9; (try dsimp only); (try k_fold))))))
def jdJ (y m d : Int) : Int :=
  let y' := if m ≤ 2 then y - 1 else y
  let m' := if m ≤ 2 then m + 12 else m
  1461 * (y' + 4716) / 4 + 306001 * (m' + 1) / 10000 + d - 1524
theorem jdJ_a {y m d : Int} (h : m ≤ 2) : (1461 * (y - 1 + 4716)).fdiv 4 + (306001 * (m + 12 + 1)).fdiv 10000 + d - 1524 = jdJ y m d := by
  simp only [fde (b := 4) (by decide), fde (b := 10000) (by decide), jdJ, if_pos h]
theorem jdJ_b {y m d : Int} (h : ¬ m ≤ 2) : (1461 * (y + 4716)).fdiv 4 + (306001 * (m + 1)).fdiv 10000 + d - 1524 = jdJ y m d := by
  simp only [fde (b := 4) (by decide), fde (b := 10000) (by decide), jdJ, if_neg h]
theorem ct_jdJ (y m d : Int) (t1 t2 t3 : Tok) (hd0 : -2000000000 < d) (hd1 : d < 2000000000) (hm : -2000000000 < m ∧ m < 2000000000) : Ct 5 141 [.int y t1, .int m t2, .int d t3] (fun v => (∃ t, v = .int (jdJ y m d) t) ∧ (0 < d ∧ d ≤ dimJ y m)) (¬ (0 < d ∧ d ≤ dimJ y m)) := by
  unfold Ct
  w_top off
  k_fill
  intro w loose mean mg mb dp un gd cn cs a ccd cl outer A₀ base h₀ L mm news s Q E B F X N T hk hdp hu hret hbad
  have hDk : KtsDicts [] h₀ := ktsDicts_nil
  refine wpAny_call ?_
  k_dflt cell_enter
  have hdim := dimJ_bd y m
  k_steps
  all_goals first
    | (refine mret (Q := Q) (s := s) hret (by k_asm) (by k_asm) (by first | (with_reducible exact sub0) | (with_reducible exact sub1 sub0) | (with_reducible exact sub1 (sub1 sub0)) | (with_reducible exact sub2 sub0) | kcj_all) ?_)
    | (refine mbad (s := s) hbad (by assumption) (by k_asm) (by assumption) (by first | (with_reducible exact sub0) | (with_reducible exact sub1 sub0) | (with_reducible exact sub1 (sub1 sub0)) | (with_reducible exact sub2 sub0) | kcj_all) ?_)
    | (refine mbadS (s := s) hbad (by assumption) (by k_asm) (by assumption) (by first | (with_reducible exact sub0) | (with_reducible exact sub1 sub0) | (with_reducible exact sub1 (sub1 sub0)) | (with_reducible exact sub2 sub0) | kcj_all) ?_)
    | skip
  all_goals first
    | assumption
    | (have q9 : m ≤ 2 := by assumption
       exact ⟨int_ok (jdJ_a q9), by assumption⟩)
    | (have q9 : ¬ m ≤ 2 := by assumption
       exact ⟨int_ok (jdJ_b q9), by assumption⟩)
local macro_rules | `(tactic| walk_at "call ref") => `(tactic| (k_here; (with_reducible show wpAny _ _ (call (Value.ref 141) _) _ _ _); k_dflt (focus (refine' Ct.use (ct_jdJ _ _ _ _ _ _ (by omega) (by omega) (by omega)) ?k1 ?k2 ?k3 ?k4 ?k5 ?kK ?kd ?ku (fun v9 h9 tk9 ok9 F9 N9 => ?_) (fun e9 h9 tk9 G9 hb9 F9 R9 U9 => ?_); (case k1 => k_asm); (case k2 => k_asm); (case k3 => k_asm); (case k4 => k_asm); (case k5 => k_asm); (case kK => first | exact rfl | assumption); (case kd => ktr_room); (case ku => ktr_units); all_goals first | ((have R8 := RaisedSN.toN R9); first | (exfalso; omega) | ((try dsimp only); (try k_fold))) | ((obtain ⟨⟨t9, e9⟩, ok8⟩ := ok9); subst e9; (try dsimp only); (try k_fold))))))
def cJ (j : Int) : Int := (20 * (j + 1524) - 2442) / 7305
def eJ (j : Int) : Int := (j + 1524 - 1461 * cJ j / 4) * 10000 / 306001
/-- the year that from_jd_julian tells -/
def yJ (j : Int) : Int := if eJ j < 14 then cJ j - 4716 else cJ j - 4715
theorem fromJ_ok {j v x y z : Int} {t1 t2 t3 : Tok} (h : x = v) : ∃ b c t2' t3' t4, [Value.int x t1, Value.int y t2, Value.int z t3] = [Value.int v t2', Value.int b t3', Value.int c t4] := ⟨y, z, t1, t2, t3, by rw [h]⟩
theorem fromJ_a {j : Int} (h : ((j + 1524 - (1461 * (20 * (j + 1524) - 2442).fdiv 7305).fdiv 4) * 10000).fdiv 306001 < 14) : (20 * (j + 1524) - 2442).fdiv 7305 - 4716 = yJ j := by
  simp only [fde (b := 7305) (by decide), fde (b := 4) (by decide), fde (b := 306001) (by decide)] at h ⊢
  rw [yJ, if_pos (show eJ j < 14 from h)]; rfl
theorem fromJ_b {j : Int} (h : ¬ ((j + 1524 - (1461 * (20 * (j + 1524) - 2442).fdiv 7305).fdiv 4) * 10000).fdiv 306001 < 14) : (20 * (j + 1524) - 2442).fdiv 7305 - 4715 = yJ j := by
  simp only [fde (b := 7305) (by decide), fde (b := 4) (by decide), fde (b := 306001) (by decide)] at h ⊢
  rw [yJ, if_neg (show ¬ eJ j < 14 from h)]; rfl
theorem ct_fromJ (j : Int) (t1 : Tok) : CtT 1 134 [.int j t1] (fun xs => ∃ b c t2 t3 t4, xs = [.int (yJ j) t2, .int b t3, .int c t4]) False := by
  unfold CtT
  w_top off
  k_fill
  intro w loose mean mg mb dp un gd cn cs a ccd cl outer A₀ base h₀ L mm news s Q E B F X N T hk hdp hu hret hbad
  have hDk : KtsDicts [] h₀ := ktsDicts_nil
  refine wpAny_call ?_
  k_dflt cell_enter
  k_steps
  all_goals first
    | (refine mretT (Q := Q) (s := s) hret (by k_asm) (by k_asm) (by k_mem) (by first | (with_reducible exact sub0) | (with_reducible exact sub1 sub0) | (with_reducible exact sub1 (sub1 sub0)) | (with_reducible exact sub2 sub0) | kcj_all) (by first | assumption | exact lt_all (by assumption) | ((with_reducible rename _ ∧ AllLt _ _ => q9); exact lt_all q9.2) | ((with_reducible rename _ ∧ _ ∧ AllLt _ _ => q9); exact lt_all q9.2.2)) ?_)
    | (refine mbad (s := s) hbad (by assumption) (by k_asm) (by assumption) (by first | (with_reducible exact sub0) | (with_reducible exact sub1 sub0) | (with_reducible exact sub1 (sub1 sub0)) | (with_reducible exact sub2 sub0) | kcj_all) ?_)
    | (refine mbadS (s := s) hbad (by assumption) (by k_asm) (by assumption) (by first | (with_reducible exact sub0) | (with_reducible exact sub1 sub0) | (with_reducible exact sub1 (sub1 sub0)) | (with_reducible exact sub2 sub0) | kcj_all) ?_)
    | skip
  all_goals first
    | (have q9 : ((j + 1524 - (1461 * (20 * (j + 1524) - 2442).fdiv 7305).fdiv 4) * 10000).fdiv 306001 < 14 := by assumption
       exact fromJ_ok (j := j) (fromJ_a q9))
    | (have q9 : ¬ ((j + 1524 - (1461 * (20 * (j + 1524) - 2442).fdiv 7305).fdiv 4) * 10000).fdiv 306001 < 14 := by assumption
       exact fromJ_ok (j := j) (fromJ_b q9))
local macro_rules | `(tactic| walk_at "call ref") => `(tactic| (k_here; (with_reducible show wpAny _ _ (call (Value.ref 134) _) _ _ _); k_dflt (focus (refine' CtT.use (ct_fromJ _ _) ?k1 ?k2 ?k3 ?k4 ?k5 ?kK ?kd ?ku (fun D9 c9 xs9 h9 tk9 ok9 F9 N9 l9 => ?_) (fun _ _ _ _ hb9 => False.elim hb9); (case k1 => k_asm); (case k2 => k_asm); (case k3 => k_asm); (case k4 => k_asm); (case k5 => k_asm); (case kK => first | exact rfl | assumption); (case kd => ktr_room); (case ku => ktr_units); ((obtain ⟨y9, z9, t9, t8, t7, e9⟩ := ok9); subst e9; (try k_lt l9); (try dsimp only); (try k_fold))))))
def nyJ (y : Int) : Int := 1461 * (y + 4715) / 4 - 1095
theorem ny_jdJ (y : Int) : jdJ y 1 1 = nyJ y := by
  simp only [jdJ, nyJ, show (1 : Int) ≤ 2 from by decide, if_true]
  omega
theorem yJ_in (j : Int) : nyJ (yJ j) ≤ j ∧ j < nyJ (yJ j + 1) := by
  have h1 : 7305 * cJ j ≤ 20 * (j + 1524) - 2442 := by unfold cJ; omega
  have h2 : 20 * (j + 1524) - 2442 < 7305 * cJ j + 7305 := by unfold cJ; omega
  generalize hc : cJ j = c at h1 h2
  have h3 : eJ j < 14 ↔ (j + 1524 - 1461 * c / 4) ≤ 428 := by
    unfold eJ; rw [hc]
    generalize j + 1524 - 1461 * c / 4 = r
    omega
  unfold yJ nyJ
  rw [hc]
  split
  · rename_i h; rw [h3] at h; constructor <;> omega
  · rename_i h; rw [h3] at h; constructor <;> omega
def inY (j y : Int) : Prop := nyG y ≤ j ∧ j < nyG (y + 1)
def IsG (j a b c : Int) : Prop := (1 ≤ b ∧ b ≤ 12) ∧ (0 < c ∧ c ≤ dimG a b ∧ c ≤ 31) ∧ jdG a b c = j ∧ inY j a
theorem leap_iff (y : Int) : leapG y = true ↔ (y % 4 = 0 ∧ (y % 100 ≠ 0 ∨ y % 400 = 0)) := by
  simp [leapG]
theorem jd11 (y : Int) : jdG y 1 1 = nyG y := by
  simp only [jdG, cum_2 (show (1 : Int) ≤ 2 by decide)]
  omega
theorem ny_t {y : Int} (h : leapG y = true) : nyG (y + 1) = nyG y + 366 := by
  rw [leap_iff] at h
  unfold nyG
  omega
theorem ny_f {y : Int} (h : leapG y = false) : nyG (y + 1) = nyG y + 365 := by
  have h' : ¬ (y % 4 = 0 ∧ (y % 100 ≠ 0 ∨ y % 400 = 0)) := by rw [← leap_iff, h]; decide
  unfold nyG
  omega
theorem ny_ge (y : Int) : nyG y + 365 ≤ nyG (y + 1) := by
  cases h : leapG y
  · rw [ny_f h]; omega
  · rw [ny_t h]; omega
abbrev yx (j : Int) : Int := (j - 1721426).fdiv 146097 * 400 + ((j - 1721426).fmod 146097).fdiv 36524 * 100 + (((j - 1721426).fmod 146097).fmod 36524).fdiv 1461 * 4 + ((((j - 1721426).fmod 146097).fmod 36524).fmod 1461).fdiv 365
theorem yx_parts (j : Int) : ∃ q c k i r : Int, yx j = q * 400 + c * 100 + k * 4 + i ∧ j = 1721426 + 146097 * q + 36524 * c + 1461 * k + 365 * i + r ∧ 0 ≤ r ∧ r < 365 ∧ 0 ≤ c ∧ 0 ≤ k ∧ 0 ≤ i ∧ i ≤ 4 ∧ c ≤ 4 ∧ k ≤ 24 ∧ 36524 * c + 1461 * k + 365 * i + r < 146097 ∧ 1461 * k + 365 * i + r < 36524 ∧ 365 * i + r < 1461 ∧
    ((j - 1721426).fmod 146097).fdiv 36524 = c ∧ ((((j - 1721426).fmod 146097).fmod 36524).fmod 1461).fdiv 365 = i := by
  simp only [yx, fde (b := 146097) (by decide), fde (b := 36524) (by decide), fde (b := 1461) (by decide), fde (b := 365) (by decide), fme (b := 146097) (by decide), fme (b := 36524) (by decide), fme (b := 1461) (by decide)]
  refine ⟨(j - 1721426) / 146097, (j - 1721426) % 146097 / 36524, (j - 1721426) % 146097 % 36524 / 1461, (j - 1721426) % 146097 % 36524 % 1461 / 365, (j - 1721426) % 146097 % 36524 % 1461 % 365, rfl, ?_⟩
  refine ⟨?_, ?_, ?_, ?_, ?_, ?_, ?_, ?_, ?_, ?_, ?_, ?_, rfl, rfl⟩ <;> omega
theorem inY_a {j : Int} (h : ((j - 1721426).fmod 146097).fdiv 36524 = 4) : inY j (yx j) := by
  obtain ⟨q, c, k, i, r, e, hj, h1, h2, h3, h4, h5, h6, h7, h8, h9, h10, h11, hc, hi⟩ := yx_parts j
  have hc4 : c = 4 := hc.symm.trans h
  rw [e]
  unfold inY nyG
  subst hc4
  have hk : k = 0 := by omega
  have hi0 : i = 0 := by omega
  subst hk; subst hi0
  constructor <;> omega
theorem inY_b {j : Int} (h' : ¬ ((j - 1721426).fmod 146097).fdiv 36524 = 4) (h : ((((j - 1721426).fmod 146097).fmod 36524).fmod 1461).fdiv 365 = 4) : inY j (yx j) := by
  obtain ⟨q, c, k, i, r, e, hj, h1, h2, h3, h4, h5, h6, h7, h8, h9, h10, h11, hc, hi⟩ := yx_parts j
  have hc4 : i = 4 := hi.symm.trans h
  have hc3 : ¬ c = 4 := fun q => h' (hc.trans q)
  rw [e]
  unfold inY nyG
  subst hc4
  constructor <;> omega
theorem inY_c {j : Int} (h' : ¬ ((j - 1721426).fmod 146097).fdiv 36524 = 4) (h : ¬ ((((j - 1721426).fmod 146097).fmod 36524).fmod 1461).fdiv 365 = 4) : inY j (yx j + 1) := by
  obtain ⟨q, c, k, i, r, e, hj, h1, h2, h3, h4, h5, h6, h7, h8, h9, h10, h11, hc, hi⟩ := yx_parts j
  have hc4 : ¬ i = 4 := fun q => h (hi.trans q)
  have hc3 : ¬ c = 4 := fun q => h' (hc.trans q)
  have hn : nyG (yx j + 1) + r = j := by
    rw [e]
    unfold nyG
    have a1 : (q * 400 + c * 100 + k * 4 + i + 1 - 1) / 4 = 100 * q + 25 * c + k := by omega
    have a2 : (q * 400 + c * 100 + k * 4 + i + 1 - 1) / 100 = 4 * q + c := by omega
    have a3 : (q * 400 + c * 100 + k * 4 + i + 1 - 1) / 400 = q := by omega
    rw [a1, a2, a3]
    omega
  have hg := ny_ge (yx j + 1)
  constructor <;> omega
def AdjOk (j y adj : Int) : Prop := (adj = 0 ∧ j - jdG y 1 1 < 58 + (if leapG y = true then 1 else 0)) ∨ (adj = 1 ∧ leapG y = true ∧ ¬ j - jdG y 1 1 < 58 + (if leapG y = true then 1 else 0)) ∨ (adj = 2 ∧ leapG y = false ∧ ¬ j - jdG y 1 1 < 58 + (if leapG y = true then 1 else 0))
theorem fromG_is {j y adj m : Int} (hy : inY j y) (ha : AdjOk j y adj) (hm : m = ((j - jdG y 1 1 + adj) * 12 + 373).fdiv 367) : IsG j y m (j - jdG y m 1 + 1) := by
  rw [fde (by decide)] at hm
  rw [jd11] at hm
  unfold AdjOk at ha
  rw [jd11] at ha
  obtain ⟨y1, y2⟩ := hy
  have key : ∀ l : Bool, leapG y = l → (1 ≤ m ∧ m ≤ 12) ∧ 0 < j - jdG y m 1 + 1 ∧ j - jdG y m 1 + 1 ≤ dimG y m := by
    intro l hl
    have hyy : nyG (y + 1) = nyG y + (if l then 366 else 365) := by
      cases l
      · exact ny_f hl
      · exact ny_t hl
    rw [hl] at ha
    have hm12 : 1 ≤ m ∧ m ≤ 12 := by
      cases l <;> simp at ha hyy <;> omega
    refine ⟨hm12, ?_⟩
    have hd : jdG y m 1 = nyG y + cumG y m := by simp only [jdG]; omega
    rw [hd]
    have hcum : cumG y m = (367 * m - 362) / 12 + (if m ≤ 2 then 0 else if l then -1 else -2) := by rw [cumG, hl]
    have hdim : dimG y m = if m = 2 then (if l then 29 else 28) else if in30 m then 30 else 31 := by rw [dimG, hl]
    rw [hcum, hdim]
    obtain ⟨m1, m2⟩ := hm12
    rcases twelve m1 m2 with e | e | e | e | e | e | e | e | e | e | e | e <;> rw [e] at hm ⊢ <;> cases l <;> simp [in30] at ha hyy ⊢ <;> omega
  obtain ⟨k1, k2⟩ := key _ rfl
  have kb := dim_bd y m
  refine ⟨k1, ⟨k2.1, k2.2, by omega⟩, ?_, y1, y2⟩
  simp only [jdG]
  omega
theorem fromG_ok {j y adj m : Int} {t1 t2 t3 : Tok} (hy : inY j y) (ha : AdjOk j y adj) (hm : m = ((j - jdG y 1 1 + adj) * 12 + 373).fdiv 367) :
    ∃ a b c t2' t3' t4', [Value.int y t1, Value.int m t2, Value.int (j - jdG y m 1 + 1) t3] = [Value.int a t2', Value.int b t3', Value.int c t4'] ∧ IsG j a b c :=
  ⟨_, _, _, _, _, _, rfl, fromG_is hy ha hm⟩
theorem ct_fromG (j : Int) (t1 : Tok) : CtT 6 91 [.int j t1] (fun xs => ∃ a b c t2 t3 t4, xs = [.int a t2, .int b t3, .int c t4] ∧ IsG j a b c) False := by
  unfold CtT
  w_top off
  k_fill
  intro w loose mean mg mb dp un gd cn cs a ccd cl outer A₀ base h₀ L mm news s Q E B F X N T hk hdp hu hret hbad
  have hDk : KtsDicts [] h₀ := ktsDicts_nil
  refine wpAny_call ?_
  k_dflt cell_enter
  k_steps
  all_goals first
    | (refine mretT (Q := Q) (s := s) hret (by k_asm) (by k_asm) (by k_mem) (by first | (with_reducible exact sub0) | (with_reducible exact sub1 sub0) | (with_reducible exact sub1 (sub1 sub0)) | (with_reducible exact sub2 sub0) | kcj_all) (by first | assumption | exact lt_all (by assumption) | ((with_reducible rename _ ∧ AllLt _ _ => q9); exact lt_all q9.2) | ((with_reducible rename _ ∧ _ ∧ AllLt _ _ => q9); exact lt_all q9.2.2)) ?_)
    | (refine mbad (s := s) hbad (by assumption) (by k_asm) (by assumption) (by first | (with_reducible exact sub0) | (with_reducible exact sub1 sub0) | (with_reducible exact sub1 (sub1 sub0)) | (with_reducible exact sub2 sub0) | kcj_all) ?_)
    | (refine mbadS (s := s) hbad (by assumption) (by k_asm) (by assumption) (by first | (with_reducible exact sub0) | (with_reducible exact sub1 sub0) | (with_reducible exact sub1 (sub1 sub0)) | (with_reducible exact sub2 sub0) | kcj_all) ?_)
    | skip
  all_goals first
    | (have q1 : inY j (yx j) := inY_a (by with_reducible assumption)
       have q2 : j - jdG (yx j) 1 1 < 58 + (if leapG (yx j) = true then 1 else 0) := by with_reducible assumption
       exact fromG_ok (y := yx j) (adj := 0) q1 (.inl ⟨rfl, q2⟩) rfl)
    | (have q1 : inY j (yx j) := inY_a (by with_reducible assumption)
       have q2 : ¬ j - jdG (yx j) 1 1 < 58 + (if leapG (yx j) = true then 1 else 0) := by with_reducible assumption
       have q3 : leapG (yx j) = true := by with_reducible assumption
       exact fromG_ok (y := yx j) (adj := 1) q1 (.inr (.inl ⟨rfl, q3, q2⟩)) rfl)
    | (have q1 : inY j (yx j) := inY_a (by with_reducible assumption)
       have q2 : ¬ j - jdG (yx j) 1 1 < 58 + (if leapG (yx j) = true then 1 else 0) := by with_reducible assumption
       have q3 : leapG (yx j) = false := by with_reducible assumption
       exact fromG_ok (y := yx j) (adj := 2) q1 (.inr (.inr ⟨rfl, q3, q2⟩)) rfl)
    | (have q1 : inY j (yx j) := inY_b (by with_reducible assumption) (by with_reducible assumption)
       have q2 : j - jdG (yx j) 1 1 < 58 + (if leapG (yx j) = true then 1 else 0) := by with_reducible assumption
       exact fromG_ok (y := yx j) (adj := 0) q1 (.inl ⟨rfl, q2⟩) rfl)
    | (have q1 : inY j (yx j) := inY_b (by with_reducible assumption) (by with_reducible assumption)
       have q2 : ¬ j - jdG (yx j) 1 1 < 58 + (if leapG (yx j) = true then 1 else 0) := by with_reducible assumption
       have q3 : leapG (yx j) = true := by with_reducible assumption
       exact fromG_ok (y := yx j) (adj := 1) q1 (.inr (.inl ⟨rfl, q3, q2⟩)) rfl)
    | (have q1 : inY j (yx j) := inY_b (by with_reducible assumption) (by with_reducible assumption)
       have q2 : ¬ j - jdG (yx j) 1 1 < 58 + (if leapG (yx j) = true then 1 else 0) := by with_reducible assumption
       have q3 : leapG (yx j) = false := by with_reducible assumption
       exact fromG_ok (y := yx j) (adj := 2) q1 (.inr (.inr ⟨rfl, q3, q2⟩)) rfl)
    | (have q1 : inY j (yx j + 1) := inY_c (by with_reducible assumption) (by with_reducible assumption)
       have q2 : j - jdG (yx j + 1) 1 1 < 58 + (if leapG (yx j + 1) = true then 1 else 0) := by with_reducible assumption
       exact fromG_ok (y := yx j + 1) (adj := 0) q1 (.inl ⟨rfl, q2⟩) rfl)
    | (have q1 : inY j (yx j + 1) := inY_c (by with_reducible assumption) (by with_reducible assumption)
       have q2 : ¬ j - jdG (yx j + 1) 1 1 < 58 + (if leapG (yx j + 1) = true then 1 else 0) := by with_reducible assumption
       have q3 : leapG (yx j + 1) = true := by with_reducible assumption
       exact fromG_ok (y := yx j + 1) (adj := 1) q1 (.inr (.inl ⟨rfl, q3, q2⟩)) rfl)
    | (have q1 : inY j (yx j + 1) := inY_c (by with_reducible assumption) (by with_reducible assumption)
       have q2 : ¬ j - jdG (yx j + 1) 1 1 < 58 + (if leapG (yx j + 1) = true then 1 else 0) := by with_reducible assumption
       have q3 : leapG (yx j + 1) = false := by with_reducible assumption
       exact fromG_ok (y := yx j + 1) (adj := 2) q1 (.inr (.inr ⟨rfl, q3, q2⟩)) rfl)
local macro_rules | `(tactic| walk_at "call ref") => `(tactic| (k_here; (with_reducible show wpAny _ _ (call (Value.ref 91) _) _ _ _); k_dflt (focus (refine' CtT.use (ct_fromG _ _) ?k1 ?k2 ?k3 ?k4 ?k5 ?kK ?kd ?ku (fun D9 c9 xs9 h9 tk9 ok9 F9 N9 l9 => ?_) (fun _ _ _ _ hb9 => False.elim hb9); (case k1 => k_asm); (case k2 => k_asm); (case k3 => k_asm); (case k4 => k_asm); (case k5 => k_asm); (case kK => first | exact rfl | assumption); (case kd => ktr_room); (case ku => ktr_units); ((obtain ⟨x9, y9, z9, t9, t8, t7, e9, ok8⟩ := ok9); subst e9; (dsimp only [IsG, inY] at ok8); (try k_lt l9); (try dsimp only); (try k_fold))))))
theorem ct_jdO (y n : Int) (t1 t2 : Tok) : Ct 5 253 [.int y t1, .int n t2] (fun v => ∃ t, v = .int (jdG y 1 1 + n - 1) t) False := by
  unfold Ct
  w_top off
  k_fill
  intro w loose mean mg mb dp un gd cn cs a ccd cl outer A₀ base h₀ L mm news s Q E B F X N T hk hdp hu hret hbad
  have hDk : KtsDicts [] h₀ := ktsDicts_nil
  refine wpAny_call ?_
  k_dflt cell_enter
  k_steps
  all_goals first
    | (refine mret (Q := Q) (s := s) hret (by k_asm) (by k_asm) (by first | (with_reducible exact sub0) | (with_reducible exact sub1 sub0) | (with_reducible exact sub1 (sub1 sub0)) | (with_reducible exact sub2 sub0) | kcj_all) ?_)
    | (refine mbad (s := s) hbad (by assumption) (by k_asm) (by assumption) (by first | (with_reducible exact sub0) | (with_reducible exact sub1 sub0) | (with_reducible exact sub1 (sub1 sub0)) | (with_reducible exact sub2 sub0) | kcj_all) ?_)
    | (refine mbadS (s := s) hbad (by assumption) (by k_asm) (by assumption) (by first | (with_reducible exact sub0) | (with_reducible exact sub1 sub0) | (with_reducible exact sub1 (sub1 sub0)) | (with_reducible exact sub2 sub0) | kcj_all) ?_)
    | skip
  all_goals exact ⟨_, rfl⟩
local macro_rules | `(tactic| walk_at "call ref") => `(tactic| (k_here; (with_reducible show wpAny _ _ (call (Value.ref 253) _) _ _ _); k_dflt (focus (refine' Ct.use (ct_jdO _ _ _ _) ?k1 ?k2 ?k3 ?k4 ?k5 ?kK ?kd ?ku (fun v9 h9 tk9 ok9 F9 N9 => ?_) (fun _ _ _ _ hb9 => False.elim hb9); (case k1 => k_asm); (case k2 => k_asm); (case k3 => k_asm); (case k4 => k_asm); (case k5 => k_asm); (case kK => first | exact rfl | assumption); (case kd => ktr_room); (case ku => ktr_units); ((obtain ⟨t9, e9⟩ := ok9); subst e9; (try dsimp only); (try k_fold))))))
theorem ct_fromO (j : Int) (t1 : Tok) : CtT 7 260 [.int j t1] (fun xs => ∃ a b t2 t3, xs = [.int a t2, .int b t3] ∧ inY j a) False := by
  unfold CtT
  w_top off
  k_fill
  intro w loose mean mg mb dp un gd cn cs a ccd cl outer A₀ base h₀ L mm news s Q E B F X N T hk hdp hu hret hbad
  have hDk : KtsDicts [] h₀ := ktsDicts_nil
  refine wpAny_call ?_
  k_dflt cell_enter
  k_steps
  all_goals first
    | (refine mretT (Q := Q) (s := s) hret (by k_asm) (by k_asm) (by k_mem) (by first | (with_reducible exact sub0) | (with_reducible exact sub1 sub0) | (with_reducible exact sub1 (sub1 sub0)) | (with_reducible exact sub2 sub0) | kcj_all) (by first | assumption | exact lt_all (by assumption) | ((with_reducible rename _ ∧ AllLt _ _ => q9); exact lt_all q9.2) | ((with_reducible rename _ ∧ _ ∧ AllLt _ _ => q9); exact lt_all q9.2.2)) ?_)
    | (refine mbad (s := s) hbad (by assumption) (by k_asm) (by assumption) (by first | (with_reducible exact sub0) | (with_reducible exact sub1 sub0) | (with_reducible exact sub1 (sub1 sub0)) | (with_reducible exact sub2 sub0) | kcj_all) ?_)
    | (refine mbadS (s := s) hbad (by assumption) (by k_asm) (by assumption) (by first | (with_reducible exact sub0) | (with_reducible exact sub1 sub0) | (with_reducible exact sub1 (sub1 sub0)) | (with_reducible exact sub2 sub0) | kcj_all) ?_)
    | skip
  all_goals first
    | exact ⟨_, _, _, _, rfl, And.right (And.right (And.right (by assumption)))⟩
local macro_rules | `(tactic| walk_at "call ref") => `(tactic| (k_here; (with_reducible show wpAny _ _ (call (Value.ref 260) _) _ _ _); k_dflt (focus (refine' CtT.use (ct_fromO _ _) ?k1 ?k2 ?k3 ?k4 ?k5 ?kK ?kd ?ku (fun D9 c9 xs9 h9 tk9 ok9 F9 N9 l9 => ?_) (fun _ _ _ _ hb9 => False.elim hb9); (case k1 => k_asm); (case k2 => k_asm); (case k3 => k_asm); (case k4 => k_asm); (case k5 => k_asm); (case kK => first | exact rfl | assumption); (case kd => ktr_room); (case ku => ktr_units); ((obtain ⟨y9, z9, t9, t8, e9, ok8⟩ := ok9); subst e9; (dsimp only [inY] at ok8); (try k_lt l9); (try dsimp only); (try k_fold))))))
def bI (y : Int) : Int := if leapG y = true then 1 else 0
def ordG (y m d : Int) : Int :=
  let m' := if m + 1 ≤ 3 then m + 1 + 12 else m + 1
  let t := truncZ (306 * m') 10 + d - 122 + 59 + bI y
  if 365 + bI y < t then t - 365 - bI y else t
theorem ord_a {y m d : Int} (h : m + 1 ≤ 3) (h2 : (365 + if leapG y = true then 1 else 0) < truncZ (306 * (m + 1 + 12)) 10 + d - 122 + 59 + if leapG y = true then 1 else 0) :
    (truncZ (306 * (m + 1 + 12)) 10 + d - 122 + 59 + if leapG y = true then 1 else 0) - 365 - (if leapG y = true then 1 else 0) = ordG y m d := by
  have h2' : 365 + bI y < truncZ (306 * (m + 1 + 12)) 10 + d - 122 + 59 + bI y := h2
  simp only [ordG, if_pos h, if_pos h2']; rfl
theorem ord_b {y m d : Int} (h : m + 1 ≤ 3) (h2 : ¬ (365 + if leapG y = true then 1 else 0) < truncZ (306 * (m + 1 + 12)) 10 + d - 122 + 59 + if leapG y = true then 1 else 0) :
    (truncZ (306 * (m + 1 + 12)) 10 + d - 122 + 59 + if leapG y = true then 1 else 0) = ordG y m d := by
  have h2' : ¬ 365 + bI y < truncZ (306 * (m + 1 + 12)) 10 + d - 122 + 59 + bI y := h2
  simp only [ordG, if_pos h, if_neg h2']; rfl
theorem ord_c {y m d : Int} (h : ¬ m + 1 ≤ 3) (h2 : (365 + if leapG y = true then 1 else 0) < truncZ (306 * (m + 1)) 10 + d - 122 + 59 + if leapG y = true then 1 else 0) :
    (truncZ (306 * (m + 1)) 10 + d - 122 + 59 + if leapG y = true then 1 else 0) - 365 - (if leapG y = true then 1 else 0) = ordG y m d := by
  have h2' : 365 + bI y < truncZ (306 * (m + 1)) 10 + d - 122 + 59 + bI y := h2
  simp only [ordG, if_neg h, if_pos h2']; rfl
theorem ord_d {y m d : Int} (h : ¬ m + 1 ≤ 3) (h2 : ¬ (365 + if leapG y = true then 1 else 0) < truncZ (306 * (m + 1)) 10 + d - 122 + 59 + if leapG y = true then 1 else 0) :
    (truncZ (306 * (m + 1)) 10 + d - 122 + 59 + if leapG y = true then 1 else 0) = ordG y m d := by
  have h2' : ¬ 365 + bI y < truncZ (306 * (m + 1)) 10 + d - 122 + 59 + bI y := h2
  simp only [ordG, if_neg h, if_neg h2']; rfl
theorem ord_ok {y v w : Int} {t1 t2 : Tok} (h : v = w) : ∃ t2' t3, [Value.int y t1, Value.int v t2] = [Value.int y t2', Value.int w t3] := ⟨t1, t2, by rw [h]⟩
theorem ct_ordG (y m d : Int) (t1 t2 t3 : Tok) : CtT 2 267 [.int y t1, .int m t2, .int d t3] (fun xs => ∃ t2 t3, xs = [.int y t2, .int (ordG y m d) t3]) False := by
  unfold CtT
  w_top off
  k_fill
  intro w loose mean mg mb dp un gd cn cs a ccd cl outer A₀ base h₀ L mm news s Q E B F X N T hk hdp hu hret hbad
  have hDk : KtsDicts [] h₀ := ktsDicts_nil
  refine wpAny_call ?_
  k_dflt cell_enter
  k_steps
  all_goals first
    | (refine mretT (Q := Q) (s := s) hret (by k_asm) (by k_asm) (by k_mem) (by first | (with_reducible exact sub0) | (with_reducible exact sub1 sub0) | (with_reducible exact sub1 (sub1 sub0)) | (with_reducible exact sub2 sub0) | kcj_all) (by first | assumption | exact lt_all (by assumption) | ((with_reducible rename _ ∧ AllLt _ _ => q9); exact lt_all q9.2) | ((with_reducible rename _ ∧ _ ∧ AllLt _ _ => q9); exact lt_all q9.2.2)) ?_)
    | (refine mbad (s := s) hbad (by assumption) (by k_asm) (by assumption) (by first | (with_reducible exact sub0) | (with_reducible exact sub1 sub0) | (with_reducible exact sub1 (sub1 sub0)) | (with_reducible exact sub2 sub0) | kcj_all) ?_)
    | (refine mbadS (s := s) hbad (by assumption) (by k_asm) (by assumption) (by first | (with_reducible exact sub0) | (with_reducible exact sub1 sub0) | (with_reducible exact sub1 (sub1 sub0)) | (with_reducible exact sub2 sub0) | kcj_all) ?_)
    | skip
  all_goals first
    | (have q1 : m + 1 ≤ 3 := by assumption
       have q2 : (365 + if leapG y = true then 1 else 0) < truncZ (306 * (m + 1 + 12)) 10 + d - 122 + 59 + if leapG y = true then 1 else 0 := by with_reducible assumption
       exact ord_ok (ord_a q1 q2))
    | (have q1 : m + 1 ≤ 3 := by assumption
       have q2 : ¬ (365 + if leapG y = true then 1 else 0) < truncZ (306 * (m + 1 + 12)) 10 + d - 122 + 59 + if leapG y = true then 1 else 0 := by with_reducible assumption
       exact ord_ok (ord_b q1 q2))
    | (have q1 : ¬ m + 1 ≤ 3 := by assumption
       have q2 : (365 + if leapG y = true then 1 else 0) < truncZ (306 * (m + 1)) 10 + d - 122 + 59 + if leapG y = true then 1 else 0 := by with_reducible assumption
       exact ord_ok (ord_c q1 q2))
    | (have q1 : ¬ m + 1 ≤ 3 := by assumption
       have q2 : ¬ (365 + if leapG y = true then 1 else 0) < truncZ (306 * (m + 1)) 10 + d - 122 + 59 + if leapG y = true then 1 else 0 := by with_reducible assumption
       exact ord_ok (ord_d q1 q2))
local macro_rules | `(tactic| walk_at "call ref") => `(tactic| (k_here; (with_reducible show wpAny _ _ (call (Value.ref 267) _) _ _ _); k_dflt (focus (refine' CtT.use (ct_ordG _ _ _ _ _ _) ?k1 ?k2 ?k3 ?k4 ?k5 ?kK ?kd ?ku (fun D9 c9 xs9 h9 tk9 ok9 F9 N9 l9 => ?_) (fun _ _ _ _ hb9 => False.elim hb9); (case k1 => k_asm); (case k2 => k_asm); (case k3 => k_asm); (case k4 => k_asm); (case k5 => k_asm); (case kK => first | exact rfl | assumption); (case kd => ktr_room); (case ku => ktr_units); ((obtain ⟨t9, t8, e9⟩ := ok9); subst e9; (try k_lt l9); (try dsimp only); (try k_fold))))))
def togM (y n : Int) : Int := truncZ ((n - 1 + (if n < 59 + bI y then 0 else if leapG y then 1 else 2)) * 12 + 373) 367
theorem tog_a {y n : Int} (h : n < 59 + if leapG y = true then 1 else 0) : truncZ ((n - 1 + 0) * 12 + 373) 367 = togM y n := by
  have h' : n < 59 + bI y := h
  rw [togM, if_pos h']
theorem tog_b {y n : Int} (h : ¬ n < 59 + if leapG y = true then 1 else 0) (l : leapG y = true) : truncZ ((n - 1 + 1) * 12 + 373) 367 = togM y n := by
  have h' : ¬ n < 59 + bI y := h
  rw [togM, if_neg h', if_pos l]
theorem tog_c {y n : Int} (h : ¬ n < 59 + if leapG y = true then 1 else 0) (l : leapG y = false) : truncZ ((n - 1 + 2) * 12 + 373) 367 = togM y n := by
  have h' : ¬ n < 59 + bI y := h
  rw [togM, if_neg h', if_neg (by rw [l]; decide)]
theorem tog_ok {y n v w : Int} {t1 t2 t3 : Tok} (h : v = w) : ∃ t4 t5 t6, [Value.int y t1, Value.int v t2, Value.int (n - ordG y v 1 + 1) t3] = [Value.int y t4, Value.int w t5, Value.int (n - ordG y w 1 + 1) t6] := ⟨t1, t2, t3, by rw [h]⟩
theorem ct_togO (y n : Int) (t1 t2 : Tok) : CtT 3 274 [.int y t1, .int n t2] (fun xs => ∃ t2 t3 t4, xs = [.int y t2, .int (togM y n) t3, .int (n - ordG y (togM y n) 1 + 1) t4]) False := by
  unfold CtT
  w_top off
  k_fill
  intro w loose mean mg mb dp un gd cn cs a ccd cl outer A₀ base h₀ L mm news s Q E B F X N T hk hdp hu hret hbad
  have hDk : KtsDicts [] h₀ := ktsDicts_nil
  refine wpAny_call ?_
  k_dflt cell_enter
  k_steps
  all_goals first
    | (refine mretT (Q := Q) (s := s) hret (by k_asm) (by k_asm) (by k_mem) (by first | (with_reducible exact sub0) | (with_reducible exact sub1 sub0) | (with_reducible exact sub1 (sub1 sub0)) | (with_reducible exact sub2 sub0) | kcj_all) (by first | assumption | exact lt_all (by assumption) | ((with_reducible rename _ ∧ AllLt _ _ => q9); exact lt_all q9.2) | ((with_reducible rename _ ∧ _ ∧ AllLt _ _ => q9); exact lt_all q9.2.2)) ?_)
    | (refine mbad (s := s) hbad (by assumption) (by k_asm) (by assumption) (by first | (with_reducible exact sub0) | (with_reducible exact sub1 sub0) | (with_reducible exact sub1 (sub1 sub0)) | (with_reducible exact sub2 sub0) | kcj_all) ?_)
    | (refine mbadS (s := s) hbad (by assumption) (by k_asm) (by assumption) (by first | (with_reducible exact sub0) | (with_reducible exact sub1 sub0) | (with_reducible exact sub1 (sub1 sub0)) | (with_reducible exact sub2 sub0) | kcj_all) ?_)
    | skip
  all_goals first
    | (have q2 : n < 59 + if leapG y = true then 1 else 0 := by with_reducible assumption
       exact tog_ok (tog_a q2))
    | (have q2 : ¬ n < 59 + if leapG y = true then 1 else 0 := by with_reducible assumption
       have q1 : leapG y = true := by assumption
       exact tog_ok (tog_b q2 q1))
    | (have q2 : ¬ n < 59 + if leapG y = true then 1 else 0 := by with_reducible assumption
       have q1 : leapG y = false := by assumption
       exact tog_ok (tog_c q2 q1))
local macro_rules | `(tactic| walk_at "call ref") => `(tactic| (k_here; (with_reducible show wpAny _ _ (call (Value.ref 274) _) _ _ _); k_dflt (focus (refine' CtT.use (ct_togO _ _ _ _) ?k1 ?k2 ?k3 ?k4 ?k5 ?kK ?kd ?ku (fun D9 c9 xs9 h9 tk9 ok9 F9 N9 l9 => ?_) (fun _ _ _ _ hb9 => False.elim hb9); (case k1 => k_asm); (case k2 => k_asm); (case k3 => k_asm); (case k4 => k_asm); (case k5 => k_asm); (case kK => first | exact rfl | assumption); (case kd => ktr_room); (case ku => ktr_units); ((obtain ⟨t9, t8, t7, e9⟩ := ok9); subst e9; (try k_lt l9); (try dsimp only); (try k_fold))))))
theorem cum_val {y m : Int} (l : Bool) (hl : leapG y = l) : cumG y m = (367 * m - 362) / 12 + (if m ≤ 2 then 0 else if l then -1 else -2) := by rw [cumG, hl]
theorem ord_is {y m : Int} (h1 : 1 ≤ m) (h2 : m ≤ 12) : ordG y m 1 = cumG y m + 1 := by
  have key : ∀ l : Bool, leapG y = l → ordG y m 1 = cumG y m + 1 := by
    intro l hl
    have hb : bI y = if l then 1 else 0 := by rw [bI, hl]
    rw [cum_val l hl]
    simp only [ordG, hb, truncZ]
    rcases twelve h1 h2 with rfl | rfl | rfl | rfl | rfl | rfl | rfl | rfl | rfl | rfl | rfl | rfl <;> cases l <;> decide
  exact key _ rfl
theorem tog_is {y m n : Int} (h1 : 1 ≤ m) (h2 : m ≤ 12) (hn : n = cumG y m + 1) : togM y n = m := by
  have key : ∀ l : Bool, leapG y = l → togM y n = m := by
    intro l hl
    have hb : bI y = if l then 1 else 0 := by rw [bI, hl]
    rw [cum_val l hl] at hn
    subst hn
    simp only [togM, hb, hl, truncZ]
    rcases twelve h1 h2 with rfl | rfl | rfl | rfl | rfl | rfl | rfl | rfl | rfl | rfl | rfl | rfl <;> cases l <;> decide
  exact key _ rfl
theorem ct_fGJ (y m d : Int) (t1 t2 t3 : Tok) (hd0 : -2000000000 < d) (hd1 : d < 2000000000) (hm : -2000000000 < m ∧ m < 2000000000) : Ct 5 148 [.int y t1, .int m t2, .int d t3] (fun _ => 0 < d ∧ d ≤ dimG y m) (¬ (0 < d ∧ d ≤ dimG y m)) := by
  unfold Ct
  w_top off
  k_fill
  intro w loose mean mg mb dp un gd cn cs a ccd cl outer A₀ base h₀ L mm news s Q E B F X N T hk hdp hu hret hbad
  have hDk : KtsDicts [] h₀ := ktsDicts_nil
  refine wpAny_call ?_
  k_dflt cell_enter
  k_steps
  all_goals first
    | (refine mret (Q := Q) (s := s) hret (by k_asm) (by k_asm) (by first | (with_reducible exact sub0) | (with_reducible exact sub1 sub0) | (with_reducible exact sub1 (sub1 sub0)) | (with_reducible exact sub2 sub0) | kcj_all) ?_)
    | (refine mbad (s := s) hbad (by assumption) (by k_asm) (by assumption) (by first | (with_reducible exact sub0) | (with_reducible exact sub1 sub0) | (with_reducible exact sub1 (sub1 sub0)) | (with_reducible exact sub2 sub0) | kcj_all) ?_)
    | (refine mbadS (s := s) hbad (by assumption) (by k_asm) (by assumption) (by first | (with_reducible exact sub0) | (with_reducible exact sub1 sub0) | (with_reducible exact sub1 (sub1 sub0)) | (with_reducible exact sub2 sub0) | kcj_all) ?_)
    | skip
  all_goals first
    | assumption
local macro_rules | `(tactic| walk_at "call ref") => `(tactic| (k_here; (with_reducible show wpAny _ _ (call (Value.ref 148) _) _ _ _); k_dflt (focus (refine' Ct.use (ct_fGJ _ _ _ _ _ _ (by omega) (by omega) (by omega)) ?k1 ?k2 ?k3 ?k4 ?k5 ?kK ?kd ?ku (fun v9 h9 tk9 ok9 F9 N9 => ?_) (fun e9 h9 tk9 G9 hb9 F9 R9 U9 => ?_); (case k1 => k_asm); (case k2 => k_asm); (case k3 => k_asm); (case k4 => k_asm); (case k5 => k_asm); (case kK => first | exact rfl | assumption); (case kd => ktr_room); (case ku => ktr_units); all_goals first | ((have R8 := RaisedSN.toN R9); first | (exfalso; omega) | ((try dsimp only); (try k_fold))) | ((try dsimp only); (try k_fold))))))
theorem ct_tGJ (y m d : Int) (t1 t2 t3 : Tok) (hd0 : -2000000000 < d) (hd1 : d < 2000000000) (hm : -2000000000 < m ∧ m < 2000000000) : Ct 8 155 [.int y t1, .int m t2, .int d t3] (fun _ => 0 < d ∧ d ≤ dimJ y m) (¬ (0 < d ∧ d ≤ dimJ y m)) := by
  unfold Ct
  w_top off
  k_fill
  intro w loose mean mg mb dp un gd cn cs a ccd cl outer A₀ base h₀ L mm news s Q E B F X N T hk hdp hu hret hbad
  have hDk : KtsDicts [] h₀ := ktsDicts_nil
  refine wpAny_call ?_
  k_dflt cell_enter
  k_steps
  all_goals first
    | (refine mret (Q := Q) (s := s) hret (by k_asm) (by k_asm) (by first | (with_reducible exact sub0) | (with_reducible exact sub1 sub0) | (with_reducible exact sub1 (sub1 sub0)) | (with_reducible exact sub2 sub0) | kcj_all) ?_)
    | (refine mbad (s := s) hbad (by assumption) (by k_asm) (by assumption) (by first | (with_reducible exact sub0) | (with_reducible exact sub1 sub0) | (with_reducible exact sub1 (sub1 sub0)) | (with_reducible exact sub2 sub0) | kcj_all) ?_)
    | (refine mbadS (s := s) hbad (by assumption) (by k_asm) (by assumption) (by first | (with_reducible exact sub0) | (with_reducible exact sub1 sub0) | (with_reducible exact sub1 (sub1 sub0)) | (with_reducible exact sub2 sub0) | kcj_all) ?_)
    | skip
  all_goals first
    | assumption
local macro_rules | `(tactic| walk_at "call ref") => `(tactic| (k_here; (with_reducible show wpAny _ _ (call (Value.ref 155) _) _ _ _); k_dflt (focus (refine' Ct.use (ct_tGJ _ _ _ _ _ _ (by omega) (by omega) (by omega)) ?k1 ?k2 ?k3 ?k4 ?k5 ?kK ?kd ?ku (fun v9 h9 tk9 ok9 F9 N9 => ?_) (fun e9 h9 tk9 G9 hb9 F9 R9 U9 => ?_); (case k1 => k_asm); (case k2 => k_asm); (case k3 => k_asm); (case k4 => k_asm); (case k5 => k_asm); (case kK => first | exact rfl | assumption); (case kd => ktr_room); (case ku => ktr_units); all_goals first | ((have R8 := RaisedSN.toN R9); first | (exfalso; omega) | ((try dsimp only); (try k_fold))) | ((try dsimp only); (try k_fold))))))
theorem ct_fGD (y m d : Int) (t1 t2 t3 : Tok) (hd0 : -2000000000 < d) (hd1 : d < 2000000000) (hm : -2000000000 < m ∧ m < 2000000000) : Ct 5 239 [.int y t1, .int m t2, .int d t3] (fun _ => 0 < d ∧ d ≤ dimG y m) (¬ (0 < d ∧ d ≤ dimG y m)) := by
  unfold Ct
  w_top off
  k_fill
  intro w loose mean mg mb dp un gd cn cs a ccd cl outer A₀ base h₀ L mm news s Q E B F X N T hk hdp hu hret hbad
  have hDk : KtsDicts [] h₀ := ktsDicts_nil
  refine wpAny_call ?_
  k_dflt cell_enter
  k_steps
  all_goals first
    | (refine mret (Q := Q) (s := s) hret (by k_asm) (by k_asm) (by first | (with_reducible exact sub0) | (with_reducible exact sub1 sub0) | (with_reducible exact sub1 (sub1 sub0)) | (with_reducible exact sub2 sub0) | kcj_all) ?_)
    | (refine mbad (s := s) hbad (by assumption) (by k_asm) (by assumption) (by first | (with_reducible exact sub0) | (with_reducible exact sub1 sub0) | (with_reducible exact sub1 (sub1 sub0)) | (with_reducible exact sub2 sub0) | kcj_all) ?_)
    | (refine mbadS (s := s) hbad (by assumption) (by k_asm) (by assumption) (by first | (with_reducible exact sub0) | (with_reducible exact sub1 sub0) | (with_reducible exact sub1 (sub1 sub0)) | (with_reducible exact sub2 sub0) | kcj_all) ?_)
    | skip
  all_goals first
    | assumption
local macro_rules | `(tactic| walk_at "call ref") => `(tactic| (k_here; (with_reducible show wpAny _ _ (call (Value.ref 239) _) _ _ _); k_dflt (focus (refine' Ct.use (ct_fGD _ _ _ _ _ _ (by omega) (by omega) (by omega)) ?k1 ?k2 ?k3 ?k4 ?k5 ?kK ?kd ?ku (fun v9 h9 tk9 ok9 F9 N9 => ?_) (fun e9 h9 tk9 G9 hb9 F9 R9 U9 => ?_); (case k1 => k_asm); (case k2 => k_asm); (case k3 => k_asm); (case k4 => k_asm); (case k5 => k_asm); (case kK => first | exact rfl | assumption); (case kd => ktr_room); (case ku => ktr_units); all_goals first | ((have R8 := RaisedSN.toN R9); first | (exfalso; omega) | ((try dsimp only); (try k_fold))) | ((try dsimp only); (try k_fold))))))
theorem ct_fJD (y m d : Int) (t1 t2 t3 : Tok) (hd0 : -2000000000 < d) (hd1 : d < 2000000000) (hm : -2000000000 < m ∧ m < 2000000000) : Ct 6 246 [.int y t1, .int m t2, .int d t3] (fun _ => 0 < d ∧ d ≤ dimJ y m) (¬ (0 < d ∧ d ≤ dimJ y m)) := by
  unfold Ct
  w_top off
  k_fill
  intro w loose mean mg mb dp un gd cn cs a ccd cl outer A₀ base h₀ L mm news s Q E B F X N T hk hdp hu hret hbad
  have hDk : KtsDicts [] h₀ := ktsDicts_nil
  refine wpAny_call ?_
  k_dflt cell_enter
  k_steps
  all_goals first
    | (refine mret (Q := Q) (s := s) hret (by k_asm) (by k_asm) (by first | (with_reducible exact sub0) | (with_reducible exact sub1 sub0) | (with_reducible exact sub1 (sub1 sub0)) | (with_reducible exact sub2 sub0) | kcj_all) ?_)
    | (refine mbad (s := s) hbad (by assumption) (by k_asm) (by assumption) (by first | (with_reducible exact sub0) | (with_reducible exact sub1 sub0) | (with_reducible exact sub1 (sub1 sub0)) | (with_reducible exact sub2 sub0) | kcj_all) ?_)
    | (refine mbadS (s := s) hbad (by assumption) (by k_asm) (by assumption) (by first | (with_reducible exact sub0) | (with_reducible exact sub1 sub0) | (with_reducible exact sub1 (sub1 sub0)) | (with_reducible exact sub2 sub0) | kcj_all) ?_)
    | skip
  all_goals first
    | assumption
local macro_rules | `(tactic| walk_at "call ref") => `(tactic| (k_here; (with_reducible show wpAny _ _ (call (Value.ref 246) _) _ _ _); k_dflt (focus (refine' Ct.use (ct_fJD _ _ _ _ _ _ (by omega) (by omega) (by omega)) ?k1 ?k2 ?k3 ?k4 ?k5 ?kK ?kd ?ku (fun v9 h9 tk9 ok9 F9 N9 => ?_) (fun e9 h9 tk9 G9 hb9 F9 R9 U9 => ?_); (case k1 => k_asm); (case k2 => k_asm); (case k3 => k_asm); (case k4 => k_asm); (case k5 => k_asm); (case kK => first | exact rfl | assumption); (case kd => ktr_room); (case ku => ktr_units); all_goals first | ((have R8 := RaisedSN.toN R9); first | (exfalso; omega) | ((try dsimp only); (try k_fold))) | ((try dsimp only); (try k_fold))))))
theorem ct_wide (y : Int) (t : Tok) : Ct 1 288 [.int y t] (fun v => v = .bool (leapG y)) False := by
  unfold Ct
  w_top off
  k_fill
  intro w loose mean mg mb dp un gd cn cs a ccd cl outer A₀ base h₀ L mm news s Q E B F X N T hk hdp hu hret hbad
  have hDk : KtsDicts [] h₀ := ktsDicts_nil
  refine wpAny_call ?_
  k_dflt cell_enter
  k_steps
  all_goals first
    | (refine mret (Q := Q) (s := s) hret (by k_asm) (by k_asm) (by first | (with_reducible exact sub0) | (with_reducible exact sub1 sub0) | (with_reducible exact sub1 (sub1 sub0)) | (with_reducible exact sub2 sub0) | kcj_all) ?_)
    | (refine mbad (s := s) hbad (by assumption) (by k_asm) (by assumption) (by first | (with_reducible exact sub0) | (with_reducible exact sub1 sub0) | (with_reducible exact sub1 (sub1 sub0)) | (with_reducible exact sub2 sub0) | kcj_all) ?_)
    | (refine mbadS (s := s) hbad (by assumption) (by k_asm) (by assumption) (by first | (with_reducible exact sub0) | (with_reducible exact sub1 sub0) | (with_reducible exact sub1 (sub1 sub0)) | (with_reducible exact sub2 sub0) | kcj_all) ?_)
    | skip
  all_goals ((try law_fm); clear hret hbad; refine congrArg Value.bool ?_; first | (simp_all [leapG]; done) | (rw [Bool.eq_iff_iff, leap_iff]; simp; omega))
local macro_rules | `(tactic| walk_at "call ref") => `(tactic| (k_here; (with_reducible show wpAny _ _ (call (Value.ref 288) _) _ _ _); k_dflt (focus (refine' Ct.use (ct_wide _ _) ?k1 ?k2 ?k3 ?k4 ?k5 ?kK ?kd ?ku (fun v9 h9 tk9 ok9 F9 N9 => ?_) (fun _ _ _ _ hb9 => False.elim hb9); (case k1 => k_asm); (case k2 => k_asm); (case k3 => k_asm); (case k4 => k_asm); (case k5 => k_asm); (case kK => first | exact rfl | assumption); (case kd => ktr_room); (case ku => ktr_units); (subst ok9; (try dsimp only); (try k_fold))))))
theorem ct_num (y m d : Int) (t1 t2 t3 : Tok) (hd0 : -2000000000 < d) (hd1 : d < 2000000000) (hm : -2000000000 < m ∧ m < 2000000000) : CtL 6 316 [.int y t1, .int m t2, .int d t3] (fun v => ((0 < d ∧ d ≤ dimG y m) ∧ ∃ t, v = .int (jdG y m d) t) ∨ (¬ (0 < d ∧ d ≤ dimG y m) ∧ ∃ t, v = .str (Str.ofString "refused") t)) := by
  unfold CtL
  w_top off
  k_fill
  intro w loose mean mg mb dp un gd cn cs a ccd A₀ h₀ L mm news s Q E B F X N T hk hdp hu hret
  refine wpAny_call ?_
  k_dflt (refine' code_defS0 ?k1 ?k2 ?k3 ?k4 ?k5 ?kA ?k6 ?k7 ?k8 ?k9 ?kB ?_ ?cK ?c2 ?c3 ?c4 ?c5; (case kA => exact rfl); (case k2 => k_asm); (case k1 => k_asm); (case k3 => k_asm); (case k4 => k_asm); (case k5 => k_asm); (case k6 => k_is); (case k7 => k_is); (case k8 => ktr_room); (case k9 => exact BindsTo.of_eq rfl); (case kB => exact locs rfl); (case cK => assumption); (case c2 => exact rfl); (case c3 => exact rfl); (case c4 => exact rfl); (case c5 => decide); k_whole; intro g' L' h' FG' F' N' B' X' T' D'; (try dsimp only); (try k_lift B'); (try k_fold))
  k_steps
  all_goals first
    | (refine mret (Q := Q) (s := s) hret (by k_asm) (by k_asm) (by first | (with_reducible exact sub0) | (with_reducible exact sub1 sub0) | (with_reducible exact sub1 (sub1 sub0)) | (with_reducible exact sub2 sub0) | kcj_all) ?_)
    | skip
  all_goals first
    | exact .inl ⟨by assumption, _, rfl⟩
    | exact .inr ⟨by assumption, _, rfl⟩
local macro_rules | `(tactic| walk_at "call ref") => `(tactic| (k_here; (with_reducible show wpAny _ _ (call (Value.ref 316) _) _ _ _); k_dflt (focus (refine' CtL.use (ct_num _ _ _ _ _ _ (by omega) (by omega) (by omega)) ?k1 ?k2 ?k3 ?k4 ?k5 ?kK ?kd ?ku (fun v9 h9 tk9 ok9 F9 N9 => ?_); (case k1 => k_asm); (case k2 => k_asm); (case k3 => k_asm); (case k4 => k_asm); (case k5 => k_asm); (case kK => first | exact rfl | assumption); (case kd => ktr_room); (case ku => ktr_units); (rcases ok9 with ⟨ok8, t9, e9⟩ | ⟨ok8, t9, e9⟩ <;> (subst e9; first | (exfalso; omega) | ((try dsimp only); (try k_fold))))))))
theorem ct_numJ (y m d : Int) (t1 t2 t3 : Tok) (hd0 : -2000000000 < d) (hd1 : d < 2000000000) (hm : -2000000000 < m ∧ m < 2000000000) : CtL 8 323 [.int y t1, .int m t2, .int d t3] (fun v => ((0 < d ∧ d ≤ dimJ y m) ∧ ∃ t, v = .int (jdJ y m d) t) ∨ (¬ (0 < d ∧ d ≤ dimJ y m) ∧ ∃ t, v = .str (Str.ofString "refused") t)) := by
  unfold CtL
  w_top off
  k_fill
  intro w loose mean mg mb dp un gd cn cs a ccd A₀ h₀ L mm news s Q E B F X N T hk hdp hu hret
  refine wpAny_call ?_
  k_dflt (refine' code_defS0 ?k1 ?k2 ?k3 ?k4 ?k5 ?kA ?k6 ?k7 ?k8 ?k9 ?kB ?_ ?cK ?c2 ?c3 ?c4 ?c5; (case kA => exact rfl); (case k2 => k_asm); (case k1 => k_asm); (case k3 => k_asm); (case k4 => k_asm); (case k5 => k_asm); (case k6 => k_is); (case k7 => k_is); (case k8 => ktr_room); (case k9 => exact BindsTo.of_eq rfl); (case kB => exact locs rfl); (case cK => assumption); (case c2 => exact rfl); (case c3 => exact rfl); (case c4 => exact rfl); (case c5 => decide); k_whole; intro g' L' h' FG' F' N' B' X' T' D'; (try dsimp only); (try k_lift B'); (try k_fold))
  k_steps
  all_goals first
    | (refine mret (Q := Q) (s := s) hret (by k_asm) (by k_asm) (by first | (with_reducible exact sub0) | (with_reducible exact sub1 sub0) | (with_reducible exact sub1 (sub1 sub0)) | (with_reducible exact sub2 sub0) | kcj_all) ?_)
    | skip
  all_goals first
    | exact .inl ⟨by assumption, _, rfl⟩
    | exact .inr ⟨by assumption, _, rfl⟩
local macro_rules | `(tactic| walk_at "call ref") => `(tactic| (k_here; (with_reducible show wpAny _ _ (call (Value.ref 323) _) _ _ _); k_dflt (focus (refine' CtL.use (ct_numJ _ _ _ _ _ _ (by omega) (by omega) (by omega)) ?k1 ?k2 ?k3 ?k4 ?k5 ?kK ?kd ?ku (fun v9 h9 tk9 ok9 F9 N9 => ?_); (case k1 => k_asm); (case k2 => k_asm); (case k3 => k_asm); (case k4 => k_asm); (case k5 => k_asm); (case kK => first | exact rfl | assumption); (case kd => ktr_room); (case ku => ktr_units); (rcases ok9 with ⟨ok8, t9, e9⟩ | ⟨ok8, t9, e9⟩ <;> (subst e9; first | (exfalso; omega) | ((try dsimp only); (try k_fold))))))))
theorem ct_side (x b : Int) (t1 t2 : Tok) : Ct 1 344 [.int x t1, .int b t2] (fun v => ∃ t, v = .int (if x = b then 0 else if x < b then 1 else -1) t) False := by
  unfold Ct
  w_top off
  k_fill
  intro w loose mean mg mb dp un gd cn cs a ccd cl outer A₀ base h₀ L mm news s Q E B F X N T hk hdp hu hret hbad
  have hDk : KtsDicts [] h₀ := ktsDicts_nil
  refine wpAny_call ?_
  k_dflt cell_enter
  k_steps
  all_goals first
    | (refine mret (Q := Q) (s := s) hret (by k_asm) (by k_asm) (by first | (with_reducible exact sub0) | (with_reducible exact sub1 sub0) | (with_reducible exact sub1 (sub1 sub0)) | (with_reducible exact sub2 sub0) | kcj_all) ?_)
    | (refine mbad (s := s) hbad (by assumption) (by k_asm) (by assumption) (by first | (with_reducible exact sub0) | (with_reducible exact sub1 sub0) | (with_reducible exact sub1 (sub1 sub0)) | (with_reducible exact sub2 sub0) | kcj_all) ?_)
    | (refine mbadS (s := s) hbad (by assumption) (by k_asm) (by assumption) (by first | (with_reducible exact sub0) | (with_reducible exact sub1 sub0) | (with_reducible exact sub1 (sub1 sub0)) | (with_reducible exact sub2 sub0) | kcj_all) ?_)
    | skip
  all_goals first
    | (have q1 : x = b := by assumption
       exact int_ok (if_pos q1).symm)
    | (have q1 : ¬ x = b := by assumption
       have q2 : x < b := by assumption
       exact int_ok ((if_neg q1).trans (if_pos q2)).symm)
    | (have q1 : ¬ x = b := by assumption
       have q2 : ¬ x < b := by assumption
       exact int_ok ((if_neg q1).trans (if_neg q2)).symm)
local macro_rules | `(tactic| walk_at "call ref") => `(tactic| (k_here; (with_reducible show wpAny _ _ (call (Value.ref 344) _) _ _ _); k_dflt (focus (refine' Ct.use (ct_side _ _ _ _) ?k1 ?k2 ?k3 ?k4 ?k5 ?kK ?kd ?ku (fun v9 h9 tk9 ok9 F9 N9 => ?_) (fun _ _ _ _ hb9 => False.elim hb9); (case k1 => k_asm); (case k2 => k_asm); (case k3 => k_asm); (case k4 => k_asm); (case k5 => k_asm); (case kK => first | exact rfl | assumption); (case kd => ktr_room); (case ku => ktr_units); ((obtain ⟨t9, e9⟩ := ok9); subst e9; (try dsimp only); (try k_fold))))))
theorem ct_part (x b c : Int) (t1 t2 t3 : Tok) : Ct 1 351 [.int x t1, .int b t2, .int c t3] (fun v => ∃ t, v = .int (if x < b then -1 else if x < c then 0 else 1) t) False := by
  unfold Ct
  w_top off
  k_fill
  intro w loose mean mg mb dp un gd cn cs a ccd cl outer A₀ base h₀ L mm news s Q E B F X N T hk hdp hu hret hbad
  have hDk : KtsDicts [] h₀ := ktsDicts_nil
  refine wpAny_call ?_
  k_dflt cell_enter
  k_steps
  all_goals first
    | (refine mret (Q := Q) (s := s) hret (by k_asm) (by k_asm) (by first | (with_reducible exact sub0) | (with_reducible exact sub1 sub0) | (with_reducible exact sub1 (sub1 sub0)) | (with_reducible exact sub2 sub0) | kcj_all) ?_)
    | (refine mbad (s := s) hbad (by assumption) (by k_asm) (by assumption) (by first | (with_reducible exact sub0) | (with_reducible exact sub1 sub0) | (with_reducible exact sub1 (sub1 sub0)) | (with_reducible exact sub2 sub0) | kcj_all) ?_)
    | (refine mbadS (s := s) hbad (by assumption) (by k_asm) (by assumption) (by first | (with_reducible exact sub0) | (with_reducible exact sub1 sub0) | (with_reducible exact sub1 (sub1 sub0)) | (with_reducible exact sub2 sub0) | kcj_all) ?_)
    | skip
  all_goals first
    | (have q1 : x < b := by assumption
       exact int_ok (if_pos q1).symm)
    | (have q1 : ¬ x < b := by assumption
       have q2 : x < c := by assumption
       exact int_ok ((if_neg q1).trans (if_pos q2)).symm)
    | (have q1 : ¬ x < b := by assumption
       have q2 : ¬ x < c := by assumption
       exact int_ok ((if_neg q1).trans (if_neg q2)).symm)
local macro_rules | `(tactic| walk_at "call ref") => `(tactic| (k_here; (with_reducible show wpAny _ _ (call (Value.ref 351) _) _ _ _); k_dflt (focus (refine' Ct.use (ct_part _ _ _ _ _ _) ?k1 ?k2 ?k3 ?k4 ?k5 ?kK ?kd ?ku (fun v9 h9 tk9 ok9 F9 N9 => ?_) (fun _ _ _ _ hb9 => False.elim hb9); (case k1 => k_asm); (case k2 => k_asm); (case k3 => k_asm); (case k4 => k_asm); (case k5 => k_asm); (case kK => first | exact rfl | assumption); (case kd => ktr_room); (case ku => ktr_units); ((obtain ⟨t9, e9⟩ := ok9); subst e9; (try dsimp only); (try k_fold))))))
/-- the days counted from the first day of a round of four years, the years gone as the list's length -/
def invO (y number : Int) (k : Nat) : Prop := number = 2451558 + 1461 * (y - 2000).fdiv 4 + (if k = 0 then 0 else 365 * k + 1)
theorem invO_0 (y : Int) : invO y (2451558 + 1461 * (y - 2000).fdiv 4) 0 := by simp [invO]
theorem invO_a {y n g : Int} {pre : List Int} (h : invO y n pre.length) (hg : g = 0 + (pre.length : Int)) (e : g = 0) : invO y (n + 366) (pre ++ [g]).length := by
  unfold invO at *
  have : pre.length = 0 := by omega
  rw [this] at h
  rw [List.length_append, this]
  simp at h ⊢
  omega
theorem invO_b {y n g : Int} {pre : List Int} (h : invO y n pre.length) (hg : g = 0 + (pre.length : Int)) (e : ¬ g = 0) : invO y (n + 365) (pre ++ [g]).length := by
  unfold invO at *
  have : ¬ pre.length = 0 := by omega
  rw [if_neg this] at h
  rw [List.length_append, List.length_singleton, if_neg (by omega)]
  omega
theorem invO_end {y n : Int} (h : invO y n (rangeKs 0 ((y - 2000).fmod 4 - 0).toNat).length) : n = nyJ y := by
  rw [rangeKs_length, fme (by decide)] at h
  unfold invO at h
  rw [h, fde (by decide), nyJ]
  split <;> omega
theorem ct_ony (y : Int) (t1 : Tok) : Ct 1 309 [.int y t1] (fun v => ∃ t, v = .int (nyJ y) t) False := by
  unfold Ct
  w_top off
  k_fill
  intro w loose mean mg mb dp un gd cn cs a ccd cl outer A₀ base h₀ L mm news s Q E B F X N T hk hdp hu hret hbad
  have hDk : KtsDicts [] h₀ := ktsDicts_nil
  refine wpAny_call ?_
  k_dflt cell_enter
  k_with "pyIter ref" => k_state (fun pre number => invO y number pre.length) "number"
  k_with "state" => first | exact invO_0 y | exact invO_a kInv (by assumption) (by assumption) | exact invO_b kInv (by assumption) (by assumption)
  k_steps
  k_with_none
  all_goals first
    | (refine mret (Q := Q) (s := s) hret (by k_asm) (by k_asm) (by first | (with_reducible exact sub0) | (with_reducible exact sub1 sub0) | (with_reducible exact sub1 (sub1 sub0)) | (with_reducible exact sub2 sub0) | kcj_all) ?_)
    | (refine mbad (s := s) hbad (by assumption) (by k_asm) (by assumption) (by first | (with_reducible exact sub0) | (with_reducible exact sub1 sub0) | (with_reducible exact sub1 (sub1 sub0)) | (with_reducible exact sub2 sub0) | kcj_all) ?_)
    | (refine mbadS (s := s) hbad (by assumption) (by k_asm) (by assumption) (by first | (with_reducible exact sub0) | (with_reducible exact sub1 sub0) | (with_reducible exact sub1 (sub1 sub0)) | (with_reducible exact sub2 sub0) | kcj_all) ?_)
    | skip
  all_goals exact int_ok (invO_end kInv)
local macro_rules | `(tactic| walk_at "call ref") => `(tactic| (k_here; (with_reducible show wpAny _ _ (call (Value.ref 309) _) _ _ _); k_dflt (focus (refine' Ct.use (ct_ony _ _) ?k1 ?k2 ?k3 ?k4 ?k5 ?kK ?kd ?ku (fun v9 h9 tk9 ok9 F9 N9 => ?_) (fun _ _ _ _ hb9 => False.elim hb9); (case k1 => k_asm); (case k2 => k_asm); (case k3 => k_asm); (case k4 => k_asm); (case k5 => k_asm); (case kK => first | exact rfl | assumption); (case kd => ktr_room); (case ku => ktr_units); ((obtain ⟨t9, e9⟩ := ok9); subst e9; (try dsimp only); (try k_fold))))))
/-- the count behind the years that are gone -/
def cnt (y gone : Int) : Int := 2451545 + 146097 * (y - 2000).fdiv 400 + 365 * gone + (gone + 3) / 4 - (gone + 99) / 100 + (gone + 399) / 400
def inv1 (y gone number : Int) : Prop := 0 ≤ gone ∧ gone ≤ (y - 2000).fmod 400 ∧ gone % 100 = 0 ∧ number = cnt y gone
def inv2 (y gone number : Int) : Prop := 0 ≤ gone ∧ gone ≤ (y - 2000).fmod 400 ∧ (y - 2000).fmod 400 < gone + 100 ∧ gone % 4 = 0 ∧ number = cnt y gone
def inv3 (y gone number : Int) : Prop := 0 ≤ gone ∧ gone ≤ (y - 2000).fmod 400 ∧ (y - 2000).fmod 400 < gone + 4 ∧ number = cnt y gone
theorem fm_400 (y : Int) : 0 ≤ (y - 2000).fmod 400 ∧ (y - 2000).fmod 400 < 400 := by
  rw [fme (by decide)]; omega
theorem inv1_0 (y : Int) : inv1 y 0 (2451545 + 146097 * (y - 2000).fdiv 400) := by
  have := fm_400 y
  refine ⟨by decide, this.1, by decide, ?_⟩
  simp only [cnt]; omega
theorem inv1_a {y g n : Int} (h : inv1 y g n) (t : g + 100 ≤ (y - 2000).fmod 400) (e : g = 0) : inv1 y (g + 100) (n + 36525) := by
  have := fm_400 y
  unfold inv1 cnt at *
  omega
theorem inv1_b {y g n : Int} (h : inv1 y g n) (t : g + 100 ≤ (y - 2000).fmod 400) (e : ¬ g = 0) : inv1 y (g + 100) (n + 36524) := by
  have := fm_400 y
  unfold inv1 cnt at *
  omega
theorem inv2_0 {y g n : Int} (h : inv1 y g n) (t : ¬ g + 100 ≤ (y - 2000).fmod 400) : inv2 y g n := by
  unfold inv1 at h; unfold inv2
  omega
theorem inv2_a {y g n : Int} (h : inv2 y g n) (t : g + 4 ≤ (y - 2000).fmod 400) (w : leapG g = true) : inv2 y (g + 4) (n + 1461) := by
  have := fm_400 y
  rw [leap_iff] at w
  unfold inv2 cnt at *
  omega
theorem inv2_b {y g n : Int} (h : inv2 y g n) (t : g + 4 ≤ (y - 2000).fmod 400) (w : leapG g = false) : inv2 y (g + 4) (n + 1460) := by
  have := fm_400 y
  have w' : ¬ (g % 4 = 0 ∧ (g % 100 ≠ 0 ∨ g % 400 = 0)) := by rw [← leap_iff, w]; decide
  unfold inv2 cnt at *
  omega
theorem inv3_0 {y g n : Int} (h : inv2 y g n) (t : ¬ g + 4 ≤ (y - 2000).fmod 400) : inv3 y g n := by
  unfold inv2 at h; unfold inv3
  omega
theorem inv3_a {y g n : Int} (h : inv3 y g n) (t : g < (y - 2000).fmod 400) (w : leapG g = true) : inv3 y (g + 1) (n + 366) := by
  have := fm_400 y
  rw [leap_iff] at w
  unfold inv3 cnt at *
  omega
theorem inv3_b {y g n : Int} (h : inv3 y g n) (t : g < (y - 2000).fmod 400) (w : leapG g = false) : inv3 y (g + 1) (n + 365) := by
  have := fm_400 y
  have w' : ¬ (g % 4 = 0 ∧ (g % 100 ≠ 0 ∨ g % 400 = 0)) := by rw [← leap_iff, w]; decide
  unfold inv3 cnt at *
  omega
theorem inv3_end {y g n : Int} (h : inv3 y g n) (t : ¬ g < (y - 2000).fmod 400) : n = nyG y := by
  have e : g = (y - 2000).fmod 400 := by unfold inv3 at h; omega
  obtain ⟨_, _, _, hn⟩ := h
  rw [hn, e, cnt, fme (by decide), fde (by decide), nyG]
  omega
theorem ct_ny (y : Int) (t1 : Tok) : Ct 2 302 [.int y t1] (fun v => ∃ t, v = .int (nyG y) t) False := by
  unfold Ct
  w_top off
  k_fill
  intro w loose mean mg mb dp un gd cn cs a ccd cl outer A₀ base h₀ L mm news s Q E B F X N T hk hdp hu hret hbad
  have hDk : KtsDicts [] h₀ := ktsDicts_nil
  refine wpAny_call ?_
  k_dflt cell_enter
  k_with "exec While Compare cons nil" => k_while (fun _ gone number => inv1 y gone number) (fun _ gone number => ((y - 2000).fmod 400 - gone).toNat) "gone" "number"
  k_with "exec While Compare cons nil" => k_while (fun _ gone number => inv2 y gone number) (fun _ gone number => ((y - 2000).fmod 400 - gone).toNat) "gone" "number"
  k_with "exec While Compare cons nil" => k_while (fun _ gone number => inv3 y gone number) (fun _ gone number => ((y - 2000).fmod 400 - gone).toNat) "gone" "number"
  k_with "state" => first | exact inv1_0 y | exact inv1_a kInv (by assumption) (by assumption) | exact inv1_b kInv (by assumption) (by assumption) | exact inv2_0 kInv (by omega) | exact inv2_a kInv (by assumption) (by assumption) | exact inv2_b kInv (by assumption) (by assumption) | exact inv3_0 kInv (by omega) | exact inv3_a kInv (by assumption) (by assumption) | exact inv3_b kInv (by assumption) (by assumption)
  k_steps
  k_with_none
  all_goals first
    | (refine mret (Q := Q) (s := s) hret (by k_asm) (by k_asm) (by first | (with_reducible exact sub0) | (with_reducible exact sub1 sub0) | (with_reducible exact sub1 (sub1 sub0)) | (with_reducible exact sub2 sub0) | kcj_all) ?_)
    | (refine mbad (s := s) hbad (by assumption) (by k_asm) (by assumption) (by first | (with_reducible exact sub0) | (with_reducible exact sub1 sub0) | (with_reducible exact sub1 (sub1 sub0)) | (with_reducible exact sub2 sub0) | kcj_all) ?_)
    | (refine mbadS (s := s) hbad (by assumption) (by k_asm) (by assumption) (by first | (with_reducible exact sub0) | (with_reducible exact sub1 sub0) | (with_reducible exact sub1 (sub1 sub0)) | (with_reducible exact sub2 sub0) | kcj_all) ?_)
    | skip
  all_goals exact int_ok (inv3_end kInv (by assumption))
local macro_rules | `(tactic| walk_at "call ref") => `(tactic| (k_here; (with_reducible show wpAny _ _ (call (Value.ref 302) _) _ _ _); k_dflt (focus (refine' Ct.use (ct_ny _ _) ?k1 ?k2 ?k3 ?k4 ?k5 ?kK ?kd ?ku (fun v9 h9 tk9 ok9 F9 N9 => ?_) (fun _ _ _ _ hb9 => False.elim hb9); (case k1 => k_asm); (case k2 => k_asm); (case k3 => k_asm); (case k4 => k_asm); (case k5 => k_asm); (case kK => first | exact rfl | assumption); (case kd => ktr_room); (case ku => ktr_units); ((obtain ⟨t9, e9⟩ := ok9); subst e9; (try dsimp only); (try k_fold))))))
/-- a call that hands back a new list -/
def CtQ (dN : Nat) (f : Addr) (vs : List Value) (Ok : List Value → Prop) : Prop :=
  ∀ (w : World) (loose : List Str) (mean : ExcName → Option Value) (mg mb : Str → Option Value) (dp un : Nat) (gd : Option (List Code)) (cn : Str) (cs : Scope) (a : Addr) (ccd : Value) (cl : List (Str × Addr)) (outer : List Env) (A₀ : Around) (base h₀ : Heap) (L : Addr) (m : Str → Option Value) (news : Led) (s : Shared) (Q E : Value → Shared → Prop),
    Below A₀ base outer h₀ → Fr h₀ L s.heap m → (hd.heap_39 w.params).In h₀ → News h₀ L s.heap news → Top hd.view_39 loose mean mg mb h₀ → cs.kind = .function → dp + dN < recursionLimit → un + 8 * dN < cLine →
    (∀ D c xs h' tk', Ok xs → Fr h₀ L h' m → News h₀ L h' ((D, listOf xs.toArray c) :: news) → (∀ p ∈ news, p.1 < D) → Q (.ref D) { s with heap := h', toks := tk' }) →
    wpAny (model PySem.Challenge.rw_bn0010_01.row.prog w) (ktrTop dp un gd cn cs L a ccd cl outer) (call (.ref f) vs) Q E s
theorem CtQ.use {dN : Nat} {f : Addr} {vs : List Value} {Ok : List Value → Prop} {w : World} {loose : List Str} {mean : ExcName → Option Value} {mg mb : Str → Option Value} {dp un : Nat} {gd : Option (List Code)} {cn : Str} {cs : Scope} {a : Addr} {ccd : Value} {cl : List (Str × Addr)} {outer : List Env} {A₀ : Around} {base h₀ : Heap} {L : Addr} {m : Str → Option Value} {news : Led} {s : Shared} {Q E : Value → Shared → Prop}
    (C : CtQ dN f vs Ok) (B : Below A₀ base outer h₀) (F : Fr h₀ L s.heap m) (X : (hd.heap_39 w.params).In h₀) (N : News h₀ L s.heap news) (T : Top hd.view_39 loose mean mg mb h₀) (hk : cs.kind = .function) (hdp : dp + dN < recursionLimit) (hu : un + 8 * dN < cLine)
    (ret : ∀ D c xs h' tk', Ok xs → Fr h₀ L h' m → News h₀ L h' ((D, listOf xs.toArray c) :: news) → (∀ p ∈ news, p.1 < D) → Q (.ref D) { s with heap := h', toks := tk' }) :
    wpAny (model PySem.Challenge.rw_bn0010_01.row.prog w) (ktrTop dp un gd cn cs L a ccd cl outer) (call (.ref f) vs) Q E s :=
  C w loose mean mg mb dp un gd cn cs a ccd cl outer A₀ base h₀ L m news s Q E B F X N T hk hdp hu ret
theorem mretQ {Ok : List Value → Prop} {h₀ h' : Heap} {L D : Addr} {m : Str → Option Value} {news news' : Led} {s : Shared} {Q : Value → Shared → Prop} {xs : List Value} {c tk' : Nat}
    (hret : ∀ D c xs h' tk', Ok xs → Fr h₀ L h' m → News h₀ L h' ((D, listOf xs.toArray c) :: news) → (∀ p ∈ news, p.1 < D) → Q (.ref D) { s with heap := h', toks := tk' }) (F : Fr h₀ L h' m) (N : News h₀ L h' news')
    (hm : (D, listOf xs.toArray c) ∈ news') (hs : ∀ p ∈ news, p ∈ news') (hlt : ∀ p ∈ news, p.1 < D) (ok : Ok xs) : Q (.ref D) { s with heap := h', toks := tk' } :=
  hret D c xs h' tk' ok F (fun p hp => (List.mem_cons.mp hp).elim (fun e => e ▸ N _ hm) fun hp => N p (hs p hp)) hlt
theorem ct_lens (b : Bool) : CtQ 1 295 [.bool b] (fun xs => ∃ t1 t2 t3 t4 t5 t6 t7 t8 t9 t10 t11 t12, xs = [.int 31 t1, .int (if b = true then 29 else 28) t2, .int 31 t3, .int 30 t4, .int 31 t5, .int 30 t6, .int 31 t7, .int 31 t8, .int 30 t9, .int 31 t10, .int 30 t11, .int 31 t12]) := by
  unfold CtQ
  w_top off
  k_fill
  intro w loose mean mg mb dp un gd cn cs a ccd cl outer A₀ base h₀ L mm news s Q E B F X N T hk hdp hu hret
  have hDk : KtsDicts [] h₀ := ktsDicts_nil
  refine wpAny_call ?_
  k_dflt cell_enter
  k_steps
  all_goals (refine mretQ (Q := Q) (s := s) hret (by k_asm) (by k_asm) (by k_mem) (by first | (with_reducible exact sub0) | (with_reducible exact sub1 sub0) | kcj_all) (by first | assumption | exact lt_all (by assumption)) ?_)
  all_goals (subst_vars; exact ⟨_, _, _, _, _, _, _, _, _, _, _, _, rfl⟩)
local macro_rules | `(tactic| walk_at "call ref") => `(tactic| (k_here; (with_reducible show wpAny _ _ (call (Value.ref 295) _) _ _ _); k_dflt (focus (refine' CtQ.use (ct_lens _) ?k1 ?k2 ?k3 ?k4 ?k5 ?kK ?kd ?ku (fun D9 c9 xs9 h9 tk9 ok9 F9 N9 l9 => ?_); (case k1 => k_asm); (case k2 => k_asm); (case k3 => k_asm); (case k4 => k_asm); (case k5 => k_asm); (case kK => first | exact rfl | assumption); (case kd => ktr_room); (case ku => ktr_units); ((obtain ⟨t1, t2, t3, t4, t5, t6, t7, t8, t9, ta, tb, tc, e9⟩ := ok9); subst e9; (try k_lt l9); (try dsimp only); (try k_fold))))))
section
variable {prog : Program} {w : World} {A : Around} {E : Value → Shared → Prop} {s : Shared} {h₀ : Heap} {L : Addr} {m : Str → Option Value} {news : Led}
theorem rep_len (n : Nat) (v : Value) : (List.foldl (fun x1 x2 => x1 ++ x2) #[] (List.replicate n #[v]) : Array Value) = (List.replicate n v).toArray := by
  have key : ∀ (n : Nat) (acc : Array Value), List.foldl (fun x1 x2 => x1 ++ x2) acc (List.replicate n #[v]) = acc ++ (List.replicate n v).toArray := by
    intro n
    induction n with
    | zero => intro acc; simp
    | succ n ih => intro acc; rw [List.replicate_succ, List.foldl_cons, ih, List.replicate_succ]; apply Array.ext'; simp
  rw [key]; simp
theorem rep_car {v : Value} {d : PyData} (hv : Carried v d) : ∀ n : Nat, CarriedAll (List.replicate n v) (List.replicate n d)
  | 0 => .nil
  | n + 1 => .cons hv (rep_car hv n)
/-- one item, so many times: the length is told -/
theorem mul_one {l : Addr} {v : Value} {d : PyData} {k : Nat} {x : Int} {u : Tok} {Q : Value → Shared → Prop} (F : Fr h₀ L s.heap m) (N : News h₀ L s.heap news) (hl : (l, listOf [v].toArray k) ∈ news) (h0 : 0 ≤ x) (h1 : x < 100) (hv : Carried v d)
    (h : ∀ D xs h', CarriedAll xs (List.replicate x.toNat d) → Fr h₀ L h' m → News h₀ L h' ((D, listOf (List.toArray xs) 0) :: news) → (∀ p ∈ news, p.1 < D) → Q (.ref D) { s with heap := h' }) : wpAny (model prog w) A (binaryOp .Mult (.ref l) (.int x u)) Q E s :=
  mul_list F N (N _ hl).1 (by omega) (by omega) (by show 1 * x.toNat ≤ _; omega) fun h' F' N' => by
    have e : (if (#[v] : Array Value).isEmpty = true then 0 else x.toNat) = x.toNat := rfl
    rw [show ([v].toArray : Array Value) = #[v] from rfl, e, rep_len] at N'
    exact h _ _ h' (rep_car hv _) F' N' fun p hp => Heap.lt_size (N p hp).1
theorem mul_one_r {l : Addr} {v : Value} {d : PyData} {k : Nat} {x : Int} {u : Tok} {Q : Value → Shared → Prop} (F : Fr h₀ L s.heap m) (N : News h₀ L s.heap news) (hl : (l, listOf [v].toArray k) ∈ news) (h0 : 0 ≤ x) (h1 : x < 100) (hv : Carried v d)
    (h : ∀ D xs h', CarriedAll xs (List.replicate x.toNat d) → Fr h₀ L h' m → News h₀ L h' ((D, listOf (List.toArray xs) 0) :: news) → (∀ p ∈ news, p.1 < D) → Q (.ref D) { s with heap := h' }) : wpAny (model prog w) A (binaryOp .Mult (.int x u) (.ref l)) Q E s :=
  mul_list_r F N (N _ hl).1 (by omega) (by omega) (by show 1 * x.toNat ≤ _; omega) fun h' F' N' => by
    have e : (if (#[v] : Array Value).isEmpty = true then 0 else x.toNat) = x.toNat := rfl
    rw [show ([v].toArray : Array Value) = #[v] from rfl, e, rep_len] at N'
    exact h _ _ h' (rep_car hv _) F' N' fun p hp => Heap.lt_size (N p hp).1
theorem add_two {l b : Addr} {xs ys : List Value} {ds es : List PyData} {k k2 : Nat} {Q : Value → Shared → Prop} (F : Fr h₀ L s.heap m) (N : News h₀ L s.heap news) (hl : (l, listOf xs.toArray k) ∈ news) (hb : (b, listOf ys.toArray k2) ∈ news) (hx : CarriedAll xs ds) (hy : CarriedAll ys es)
    (h : ∀ D zs h', CarriedAll zs (ds ++ es) → Fr h₀ L h' m → News h₀ L h' ((D, listOf (List.toArray zs) 0) :: news) → (∀ p ∈ news, p.1 < D) → Q (.ref D) { s with heap := h' }) (hsz : ds.length + es.length ≤ 1000) : wpAny (model prog w) A (binaryOp .Add (.ref l) (.ref b)) Q E s :=
  add_arrays F N ⟨_, (N _ hl).1, rfl, k, rfl⟩ ⟨_, (N _ hb).1, rfl, k2, rfl⟩ (fun h' F' N' => h _ _ h' (hx.appendLM hy) F' N' fun p hp => Heap.lt_size (N p hp).1) (by have := hx.length_eq; have := hy.length_eq; show xs.toArray.size + ys.toArray.size ≤ _; rw [List.size_toArray, List.size_toArray, sizeLine_eq]; omega)
end
local macro_rules | `(tactic| walk_at "binaryOp Mult ref int") => `(tactic| (k_here; k_dflt (refine' mul_one ?F ?N ?l ?a ?b .none ?_; (case F => k_asm); (case N => k_asm); (case l => k_mem); (case a => omega); (case b => omega)); intro D' xs' h' el' F' N' l1; (try k_lt l1)))
local macro_rules | `(tactic| walk_at "binaryOp Mult int ref") => `(tactic| (k_here; k_dflt (refine' mul_one_r ?F ?N ?l ?a ?b .none ?_; (case F => k_asm); (case N => k_asm); (case l => k_mem); (case a => omega); (case b => omega)); intro D' xs' h' el' F' N' l1; (try k_lt l1)))
local macro_rules | `(tactic| walk_at "binaryOp Add ref ref") => `(tactic| (k_here; k_dflt (refine' add_two ?F ?N ?l ?a ?x ?y ?_ ?z; (case F => k_asm); (case N => k_asm); (case l => k_mem); (case a => k_mem); (case x => assumption); (case y => first | assumption | exact lm_carried_ints (by assumption)); (case z => ((simp only [List.length_append, List.length_replicate, List.length_map, rangeKs_length]); omega))); intro D' xs' h' el' F' N' l1; (try k_lt l1)))
theorem car_of : ∀ {ys : List Value}, (∀ v ∈ ys, ∃ d, Carried v d) → ∃ es, CarriedAll ys es
  | [], _ => ⟨[], .nil⟩
  | v :: r, h => by
    obtain ⟨d, hd⟩ := h v (List.mem_cons_self ..)
    obtain ⟨es, he⟩ := car_of fun w hw => h w (List.mem_cons_of_mem _ hw)
    exact ⟨d :: es, .cons hd he⟩
theorem car_mem : ∀ {xs : List Value} {ds : List PyData}, CarriedAll xs ds → ∀ v ∈ xs, ∃ d, Carried v d
  | _, _, .nil, v, h => nomatch h
  | _, _, .cons hd hr, v, h => by
    rcases List.mem_cons.mp h with e | h
    · exact ⟨_, e ▸ hd⟩
    · exact car_mem hr v h
theorem car_pick {xs : List Value} {ds : List PyData} (h : CarriedAll xs ds) (lo hi st : Option Int) : ∃ es, CarriedAll (slicePick xs.toArray lo hi st).toList es := by
  refine car_of fun v hv => car_mem h v ?_
  unfold slicePick at hv
  rw [List.toList_toArray] at hv
  obtain ⟨i, _, hi⟩ := List.mem_filterMap.mp hv
  have := Array.mem_of_getElem? hi
  simpa using this
open Classical in
noncomputable def carSel (xs : List Value) (i : Int) : List PyData :=
  if h : ∃ es, CarriedAll (slicePick xs.toArray (some i) (some (i + 7)) none).toList es then Classical.choose h else []
theorem carSel_ok {xs : List Value} {ds : List PyData} (h : CarriedAll xs ds) (i : Int) : CarriedAll (slicePick xs.toArray (some i) (some (i + 7)) none).toList (carSel xs i) := by
  have h' := car_pick h (some i) (some (i + 7)) none
  unfold carSel
  rw [dif_pos h']
  exact Classical.choose_spec h'
abbrev frH {h₀ h : Heap} {L : Addr} {m : Str → Option Value} (_ : Fr h₀ L h m) : Heap := h₀
abbrev frL {h₀ h : Heap} {L : Addr} {m : Str → Option Value} (_ : Fr h₀ L h m) : Addr := L
abbrev frM {h₀ h : Heap} {L : Addr} {m : Str → Option Value} (_ : Fr h₀ L h m) : Str → Option Value := m
abbrev carX {xs : List Value} {ds : List PyData} (_ : CarriedAll xs ds) : List Value := xs
local macro_rules | `(tactic| walk_at "eval ListComp") => `(tactic| (k_here; (with_reducible rename CarriedAll _ (_ ++ _) => cA); (with_reducible rename Fr _ _ _ _ => fF); k_dflt (refine' ListComp_DCrO (h₀ := frH fF) (L := frL fF) (m := frM fF) (pz := fun _ => true) (d := carSel (carX cA)) ?zh ?zc ?zl ?zk ?zn ?zx ?_ ?zs; (case zh => exact rfl); (case zc => exact rfl); (case zl => decide); (case zk => exact rfl); (case zn => decide); (case zx => exact rfl); (case zs => intro _; exact rfl)); (dsimp only [frH, frL, frM, carX]); (try k_fold)))
theorem keeps_self (s : Shared) : Keeps s s := ⟨s.heap, s.toks, rfl, fun _ _ e => e⟩
theorem elt_end {s₂ : Shared} {tk : Nat} {vl vu : Value} {xs : List Value} {ds : List PyData} {i : Int} (hI : CarriedAll xs ds) :
    (∃ T its, Value.ref (s₂.heap.objs.size + 1) = Value.ref T ∧ s₂.heap.get? T = none ∧
      ((s₂.heap.push { cls := .type "slice", data := .fields #[vl, vu, .none] }).push { cls := .type "list", data := .seq (slicePick xs.toArray (some i) (some (i + 7)) none) }).IsList T its ∧
      CarriedAll its.toList (carSel xs i)) ∧
    Keeps s₂ { s₂ with heap := (s₂.heap.push { cls := .type "slice", data := .fields #[vl, vu, .none] }).push { cls := .type "list", data := .seq (slicePick xs.toArray (some i) (some (i + 7)) none) }, toks := tk } :=
  ⟨⟨_, _, rfl, fresh_above _ 1, isList_pushed2 _ _ _, carSel_ok hI i⟩, _, _, rfl, fun _ _ e => Heap.get?_push_of_some _ (Heap.get?_push_of_some _ e)⟩
local macro_rules | `(tactic| walk_at "Exists") => `(tactic| (k_here; k_dflt (k_extra "comp post")))
local macro_rules | `(tactic| walk_at "eval Name") => `(tactic| (k_here; (with_reducible show wpAny _ _ (eval (Expr.Name _ _) (compEnvC _ _ _ _)) _ _ _); k_dflt (k_extra "comp name")))
local macro_rules | `(tactic| walk_at "subscriptTail Name Slice ref ref") => `(tactic| (k_here; k_dflt (k_extra "comp slice")))
theorem ct_mch (a1 b1 : Int) (t1 t2 : Tok) (h1 : 0 ≤ a1 ∧ a1 ≤ 6) (h2 : 28 ≤ b1 ∧ b1 ≤ 31) : Ct 2 55 [.int a1 t1, .int b1 t2] (fun _ => True) False := by
  unfold Ct
  w_top off
  k_fill
  intro w loose mean mg mb dp un gd cn cs a ccd cl outer A₀ base h₀ L mm news s Q E B F X N T hk hdp hu hret hbad
  have hDk : KtsDicts [] h₀ := ktsDicts_nil
  refine wpAny_call ?_
  k_dflt (refine' code_defC ?k1 ?k2 ?k3 ?k4 ?k5 ?kA ?kF ?kK ?k6 ?k7 ?k8 ?k9 ?kB ?kD ?_ ?c2 ?c3 ?c4; (case kA => exact rfl); (case kF => exact rfl); (case kK => assumption); (case k1 => k_asm); (case k2 => k_asm); (case k3 => k_asm); (case k4 => k_asm); (case k5 => k_asm); (case k6 => k_is); (case k7 => k_is); (case k8 => ktr_room); (case k9 => exact BindsTo.of_eq rfl); (case kB => exact rfl); (case kD => decide +kernel); (case c2 => exact rfl); (case c3 => exact rfl); (case c4 => exact rfl); k_whole; intro g' L' h' tk' cells' FG' F' N' Y' B' X' T' l1; (try k_lt l1); k_cells Y'; (try simp only [List.cons_append, List.nil_append] at N'); (try dsimp only); (try k_lift B'); (try k_fold))
  have hf : 0 ≤ (a1 + 1).fmod 7 ∧ (a1 + 1).fmod 7 < 7 := by rw [fme (by decide)]; omega
  k_with "comp post" => ((rename CarriedAll _ (_ ++ _) => cA); (refine' ⟨_, _, _, _, _, _, _, _, _, rfl, ?zr, rangeSize_toNat _ _ _, ?zz, ?zF, ?zN, (fun _ _ _ _ _ _ _ _ _ _ _ _ => wpAny_pure ⟨rfl, keeps_self _⟩), (fun C9 i9 v9 s9 m9 E9 hC9 ha9 hi9 hp9 hns9 hmx9 hk9 => ?_), (fun D9 ys9 Ts9 h9 tk9 F9 N9 _ _ _ _ => ?_)⟩; (case zr => assumption); (case zz => (refine Nat.le_trans (rangeSize_toNat_le _ _ _) ?_; rw [sizeLine_eq]; omega)); (case zF => k_asm); (case zN => k_asm)); all_goals first | ((obtain ⟨ti9, e9⟩ := ItemKind.int_is hi9); subst e9; skip) | ((try dsimp only); (try k_fold)))
  k_with "comp slice" => ((rename CarriedAll _ (_ ++ _) => cA); (refine' slice_listK ?cl (.int _ _) (.int _ _) ?_ ?cs ?ct ?cz; (case cl => exact ⟨_, hk9 _ _ (News.get (by assumption) (by k_mem)), rfl, _, rfl⟩); (case cs => with_unfolding_all rfl); (case ct => (intro _; with_unfolding_all rfl)); (case cz => (have q8 := cA.length_eq; (simp only [List.length_append, List.length_replicate, List.length_map, rangeKs_length] at q8); (rw [List.size_toArray, q8, sizeLine_eq]; omega)))); first | exact elt_end cA | (k_unfold; exact elt_end cA) | (k_unfold; (dsimp only); exact elt_end cA))
  k_with "comp name" => first | refine ldVarK (by assumption) (by assumption) ?_ | refine ldCellK rfl ⟨_, hk9 _ _ (News.get (by assumption) (by k_mem)), by assumption⟩ ?_
  k_steps
  k_with_none
  all_goals first
    | (refine mret (Q := Q) (s := s) hret (by k_asm) (by k_asm) (by first | (with_reducible exact sub0) | (with_reducible exact sub1 sub0) | (with_reducible exact sub1 (sub1 sub0)) | (with_reducible exact sub2 sub0) | kcj_all) ?_)
    | (refine mbad (s := s) hbad (by assumption) (by k_asm) (by assumption) (by first | (with_reducible exact sub0) | (with_reducible exact sub1 sub0) | (with_reducible exact sub1 (sub1 sub0)) | (with_reducible exact sub2 sub0) | kcj_all) ?_)
    | (refine mbadS (s := s) hbad (by assumption) (by k_asm) (by assumption) (by first | (with_reducible exact sub0) | (with_reducible exact sub1 sub0) | (with_reducible exact sub1 (sub1 sub0)) | (with_reducible exact sub2 sub0) | kcj_all) ?_)
    | skip
  all_goals trivial
local macro_rules | `(tactic| walk_at "call ref") => `(tactic| (k_here; (with_reducible show wpAny _ _ (call (Value.ref 55) _) _ _ _); k_dflt (focus (refine' Ct.use (ct_mch _ _ _ _ (by omega) (by omega)) ?k1 ?k2 ?k3 ?k4 ?k5 ?kK ?kd ?ku (fun v9 h9 tk9 ok9 F9 N9 => ?_) (fun _ _ _ _ hb9 => False.elim hb9); (case k1 => k_asm); (case k2 => k_asm); (case k3 => k_asm); (case k4 => k_asm); (case k5 => k_asm); (case kK => first | exact rfl | assumption); (case kd => ktr_room); (case ku => ktr_units); ((try dsimp only); (try k_fold))))))
theorem ct_mc (y m : Int) (t1 t2 : Tok) : Ct 6 105 [.int y t1, .int m t2] (fun _ => 1 ≤ m ∧ m ≤ 12) (¬ (1 ≤ m ∧ m ≤ 12)) := by
  unfold Ct
  w_top off
  k_fill
  intro w loose mean mg mb dp un gd cn cs a ccd cl outer A₀ base h₀ L mm news s Q E B F X N T hk hdp hu hret hbad
  have hDk : KtsDicts [] h₀ := ktsDicts_nil
  refine wpAny_call ?_
  k_dflt cell_enter
  have hdim := dim_bd y m
  k_steps
  all_goals first
    | (refine mret (Q := Q) (s := s) hret (by k_asm) (by k_asm) (by first | (with_reducible exact sub0) | (with_reducible exact sub1 sub0) | (with_reducible exact sub1 (sub1 sub0)) | (with_reducible exact sub2 sub0) | kcj_all) ?_)
    | (refine mbad (s := s) hbad (by assumption) (by k_asm) (by assumption) (by first | (with_reducible exact sub0) | (with_reducible exact sub1 sub0) | (with_reducible exact sub1 (sub1 sub0)) | (with_reducible exact sub2 sub0) | kcj_all) ?_)
    | (refine mbadS (s := s) hbad (by assumption) (by k_asm) (by assumption) (by first | (with_reducible exact sub0) | (with_reducible exact sub1 sub0) | (with_reducible exact sub1 (sub1 sub0)) | (with_reducible exact sub2 sub0) | kcj_all) ?_)
    | skip
  all_goals first
    | assumption
local macro_rules | `(tactic| walk_at "call ref") => `(tactic| (k_here; (with_reducible show wpAny _ _ (call (Value.ref 105) _) _ _ _); k_dflt (focus (refine' Ct.use (ct_mc _ _ _ _) ?k1 ?k2 ?k3 ?k4 ?k5 ?kK ?kd ?ku (fun v9 h9 tk9 ok9 F9 N9 => ?_) (fun e9 h9 tk9 G9 hb9 F9 R9 U9 => ?_); (case k1 => k_asm); (case k2 => k_asm); (case k3 => k_asm); (case k4 => k_asm); (case k5 => k_asm); (case kK => first | exact rfl | assumption); (case kd => ktr_room); (case ku => ktr_units); all_goals first | ((have R8 := RaisedSN.toN R9); first | (exfalso; omega) | ((try dsimp only); (try k_fold))) | ((try dsimp only); (try k_fold))))))
section Roads
/-- what a road of _law_refusals tells -/
def refG (y m d : Int) : Bool := !decide (0 < d ∧ d ≤ dimG y m)
def refJ (y m d : Int) : Bool := !decide (0 < d ∧ d ≤ dimJ y m)
def refI (y m d : Int) : Bool := !decide ((1 ≤ y ∧ y ≤ 9999) ∧ 0 < d ∧ d ≤ dimG y m)
def refs (y m d : Int) : List Bool := [refG y m d, refG y m d, refG y m d, refG y m d, refG y m d, refG y m d, refI y m d, refJ y m d, refJ y m d, refJ y m d, refJ y m d, refJ y m d]
/-- the contract of _law_refusals: the counter is an object of the ledger -/
def CtR (y m d : Int) (t1 t2 t3 : Tok) : Prop :=
  ∀ (w : World) (loose : List Str) (mean : ExcName → Option Value) (mg mb : Str → Option Value) (dp un : Nat) (gd : Option (List Code)) (cn : Str) (cs : Scope) (a : Addr) (ccd : Value) (A₀ : Around) (h₀ : Heap) (L : Addr) (mm : Str → Option Value) (x dx : Addr) (hsh : Int) (tk0 te : Tok) (ep : Int) (nn : Nat) (news : Led) (s : Shared) (Q E : Value → Shared → Prop),
    Below A₀ h₀ [] h₀ → Fr h₀ L s.heap mm → (hd.heap_39 w.params).In h₀ → News h₀ L s.heap ((x, instObj 214 dx) :: (dx, dictOf [⟨hsh, .str (Str.ofString "epoch") tk0, .int ep te⟩] nn) :: news) → AllLt dx news → dx < x → Top hd.view_39 loose mean mg mb h₀ → cs.kind = .function → dp + 20 < recursionLimit → un + 160 < cLine →
    (∀ D xs c h' tk', xs = (refs y m d).map .bool → Fr h₀ L h' mm → News h₀ L h' ((D, listOf (List.toArray xs) c) :: (x, instObj 214 dx) :: (dx, dictOf [⟨hsh, .str (Str.ofString "epoch") tk0, .int ep te⟩] nn) :: news) → x < D → Q (.ref D) { s with heap := h', toks := tk' }) →
    wpAny (model PySem.Challenge.rw_bn0010_01.row.prog w) (ktrTop dp un gd cn cs L a ccd [] []) (call (.ref 330) [.ref x, .int y t1, .int m t2, .int d t3]) Q E s
section
variable {prog : Program} {w : World} {A : Around} {E : Value → Shared → Prop} {s : Shared} {env : Env} {g : Heap} {x : Str} {body : List Stmt} {Q : Flow → Shared → Prop}
theorem gr_none {g g2 : Heap} {fs : List Addr} (T : KtsTurn fs g g2) {b : Addr} (e : g2.get? b = none) : g.get? b = none := by
  cases q : g.get? b with
  | none => rfl
  | some o => obtain ⟨sl, h⟩ := T.up q; rw [h] at e; cases e
/-- the ground without the caller's frame; the frame's object goes onto the ledger -/
theorem gr_down {g g2 h : Heap} {L L' : Addr} {oL : Obj} {m : Str → Option Value} {news : Led} (hgL : g.get? L = some oL) (T : KtsTurn [L] g g2) (F : Fr g2 L' h m) (N : News g2 L' h news) :
    ∃ sl, Fr (hideAll g [L]) L' h m ∧ News (hideAll g [L]) L' h ((L, { oL with slots := sl }) :: news) := by
  obtain ⟨sl, hs⟩ := T.frame L oL hgL (List.mem_singleton_self _)
  refine ⟨sl, ⟨F.ns, fun b o e => ?_, by rw [hideAll_size, ← T.size]; exact F.above⟩, fun p hp => ?_⟩
  · by_cases hb : b ∈ [L]
    · rw [hideAll_none _ hb] at e; cases e
    · exact F.keep b o (T.other b o (of_hideAll _ e) hb)
  · rcases List.mem_cons.mp hp with rfl | hp
    · refine ⟨F.keep _ _ hs, fun q => ?_, hideAll_none _ (List.mem_singleton_self _)⟩
      have h1 := Heap.lt_size hs
      have h2 := F.above
      have q' : L = L' := q
      rw [← q'] at h2
      exact absurd (Nat.lt_of_lt_of_le h1 h2) (Nat.lt_irrefl _)
    · refine ⟨(N p hp).1, (N p hp).2.1, ?_⟩
      cases q : (hideAll g [L]).get? p.1 with
      | none => rfl
      | some o =>
        have := gr_none T (N p hp).2.2
        rw [of_hideAll _ q] at this; cases this
theorem gr_up {g h : Heap} {L L' : Addr} {oL : Obj} {sl : Array (Option Value)} {m : Str → Option Value} {news all : Led} (hgL : g.get? L = some oL) (hab : g.objs.size ≤ L') (F : Fr (hideAll g [L]) L' h m) (N : News (hideAll g [L]) L' h all)
    (hL : (L, { oL with slots := sl }) ∈ all) (hn : ∀ p ∈ news, p ∈ all ∧ p.1 ≠ L) : ∃ g2, KtsTurn [L] g g2 ∧ Fr g2 L' h m ∧ News g2 L' h news := by
  obtain ⟨T, S⟩ := kts_turn_at (h := h) (fs := [L]) (g := g) (fun b hb => ⟨oL, by rw [List.mem_singleton.mp hb]; exact hgL⟩)
    (fun b o e nm => F.keep b o (hideAll_get _ e nm))
    (fun b o e hm => by
      have e1 : b = L := List.mem_singleton.mp hm
      subst e1
      rw [hgL] at e
      cases e
      exact ⟨sl, (N _ hL).1⟩)
  refine ⟨_, T, ⟨F.ns, S, by rw [T.size]; exact hab⟩, fun p hp => ?_⟩
  obtain ⟨h1, h2⟩ := hn p hp
  refine ⟨(N p h1).1, (N p h1).2.1, T.none_ _ ?_⟩
  cases q : g.get? p.1 with
  | none => rfl
  | some o =>
    have h3 := (N p h1).2.2
    rw [hideAll_get _ q (fun hm => h2 (List.mem_singleton.mp hm))] at h3
    cases h3
theorem gr_below {A₀ : Around} {base g g2 : Heap} {outer : List Env} (B : Below A₀ base outer g) (T : KtsTurn (outer.filterMap (·.frame)) g g2) : Below A₀ base outer g2 :=
  ⟨B.stack, fun b o e => T.other b o (B.stays b o e) (fun hm => by rw [(B.frames.mem hm).1] at e; cases e), B.frames.of_keeps fun b o e _ => by obtain ⟨sl', hs'⟩ := T.up e; exact ⟨_, hs', rfl⟩⟩
/-- a turn's end: the list has one item more, no name is stored; the caller's frame may bear other slots -/
def RoadEnd (R : List Bool) (i : Nat) (g : Heap) (L L' : Addr) (x : Str) (m₀ : Str → Option Value) (D : Addr) (rest : Led) (s : Shared) (f : Flow) (s₂ : Shared) : Prop :=
  f = .next ∧ ∃ h' tk m' c' g3, s₂ = { s with heap := h', toks := tk } ∧ KtsTurn [L] g g3 ∧ Fr g3 L' h' m' ∧ News g3 L' h' ((D, listOf (List.toArray ((R.take (i + 1)).map .bool)) c') :: rest) ∧ ∀ z, z ≠ x → m' z = m₀ z
theorem road_end {R : List Bool} {i : Nat} {L L' : Addr} {m₀ m' : Str → Option Value} {D : Addr} {rest news' : Led} {s : Shared} {g3 h' : Heap} {tk c' : Nat} {vs : List Value} (T : KtsTurn [L] g g3) (F : Fr g3 L' h' m') (N : News g3 L' h' news') (hD : (D, listOf (List.toArray vs) c') ∈ news') (hr : ∀ p ∈ rest, p ∈ news')
    (hm : ∀ z, z ≠ x → m' z = m₀ z) (hv : vs = (R.take (i + 1)).map .bool) : RoadEnd R i g L L' x m₀ D rest s .next { s with heap := h', toks := tk } :=
  ⟨rfl, h', tk, m', c', g3, rfl, T, F, fun p hp => (List.mem_cons.mp hp).elim (fun e => e ▸ hv ▸ N _ hD) fun hp => N p (hr p hp), hm⟩
theorem road_push {R : List Bool} {i : Nat} {L L' : Addr} {m₀ m' : Str → Option Value} {D : Addr} {rest news' : Led} {s : Shared} {g3 h' : Heap} {tk c' : Nat} {b : Bool} (T : KtsTurn [L] g g3) (F : Fr g3 L' h' m') (N : News g3 L' h' news') (hD : (D, listOf ((List.toArray ((R.take i).map Value.bool)).push (.bool b)) c') ∈ news') (hr : ∀ p ∈ rest, p ∈ news')
    (hm : ∀ z, z ≠ x → m' z = m₀ z) (hv : R[i]? = some b) : RoadEnd R i g L L' x m₀ D rest s .next { s with heap := h', toks := tk } := by
  refine road_end (vs := (R.take i).map Value.bool ++ [.bool b]) (c' := c') T F N ?_ hr hm ?_
  · rw [← List.push_toArray]; exact hD
  · rw [List.take_add_one, hv]; simp
theorem iter_roads (R : List Bool) {r D L : Addr} {oL : Obj} {b : Int} {t₀ u₀ v₀ : Tok} {c₀ : Nat} {rest : Led} {m₀ : Str → Option Value} (hgL : g.get? L = some oL)
    (hh : A.handled = none) (hr : IsRange s.heap r 0 b 1 t₀ u₀ v₀) (hb : b = (R.length : Int)) (hR : R.length < 1000) (F : Fr g env.locals s.heap m₀) (N : News g env.locals s.heap ((D, listOf (List.toArray []) c₀) :: rest)) (hne : ∀ p ∈ rest, p.1 ≠ D)
    (turn : ∀ (i : Nat) (k : Int) t c h tk own g2, k = (i : Int) → i < R.length → (∀ p ∈ rest ++ own, p.1 ≠ D) → KtsTurn [L] g g2 →
      Fr g2 env.locals h (fun y => if y = x then some (.int k t) else m₀ y) → News g2 env.locals h ((D, listOf (List.toArray ((R.take i).map .bool)) c) :: (rest ++ own)) →
      wpAny (model prog w) A (execs body env) (RoadEnd R i g L env.locals x m₀ D (rest ++ own) { s with heap := h, toks := tk }) E { s with heap := h, toks := tk })
    (done : ∀ c (u : Str → Option Value) h tk g2, KtsTurn [L] g g2 → Fr g2 env.locals h (fun y => if y = x then u y else m₀ y) → News g2 env.locals h ((D, listOf (List.toArray (R.map .bool)) c) :: rest) → Q .next { s with heap := h, toks := tk }) :
    wpAny (model prog w) A (pyIter (.ref r)) (fun it s₂ => LoopAtV prog w A (hideAll g [L]) env x body Q E it s₂) E s := by
  subst hb
  obtain ⟨sl0, F0, N0⟩ := gr_down hgL KtsTurn.refl F N
  have hab := F.above
  have hDL : D ≠ L := fun e => by have := (N _ (List.mem_cons_self ..)).2.2; rw [show (D, listOf (List.toArray []) c₀).1 = L from e, hgL] at this; cases this
  have hrL : ∀ p ∈ rest, p.1 ≠ L := fun p hp e => by have := (N p (List.mem_cons_of_mem _ hp)).2.2; rw [e, hgL] at this; cases this
  refine kst_range (σ := List Value × Nat × Array (Option Value)) (n := R.length) (fun c => (D, listOf (List.toArray c.1) c.2.1) :: (L, { oL with slots := c.2.2 }) :: rest) (fun _ => []) (fun _ => True) [] (fun pre c => c.1 = (R.take pre.length).map .bool) ([], c₀, sl0) hh hr (small_one (by decide) (by decide) (by omega) (by omega)) (by rw [rangeSize_one]; split <;> omega) F0 ?_ trivial (fun _ h => nomatch h) rfl ?_ ?_
  · intro p hp
    rcases List.mem_cons.mp hp with e | hp
    · rw [e]; exact N0 _ (List.mem_cons_of_mem _ (List.mem_cons_self ..))
    · rcases List.mem_cons.mp hp with e | hp
      · rw [e]; exact N0 _ (List.mem_cons_self ..)
      · exact N0 _ (List.mem_cons_of_mem _ (List.mem_cons_of_mem _ hp))
  · rintro ⟨vs, c, sl⟩ pre k t u h tk own hk hlt hoff _ hv F₁ N₁
    have hv' : vs = (R.take pre.length).map .bool := hv
    subst hv'
    have F₂ : Fr (hideAll g [L]) env.locals h (fun y => if y = x then some (.int k t) else m₀ y) := by
      have e : (fun y => if y = x then some (Value.int k t) else kstB (fun z => if ([] : List Str).contains z then u z else m₀ z) [] y) = fun y => if y = x then some (Value.int k t) else m₀ y := by
        funext y; simp [kstB]
      rw [e] at F₁; exact F₁
    have hoffD : ∀ p ∈ rest ++ own, p.1 ≠ D := fun p hp => by
      rcases List.mem_append.mp hp with q | q
      · exact hne p q
      · exact hoff.ne (List.mem_cons_self ..) p q
    have hoffL : ∀ p ∈ own, p.1 ≠ L := hoff.ne (List.mem_cons_of_mem _ (List.mem_cons_self ..))
    obtain ⟨g2, T2, Fg, Ng⟩ := gr_up (sl := sl) (news := (D, listOf (List.toArray ((R.take pre.length).map .bool)) c) :: (rest ++ own)) hgL hab F₂ N₁ (List.mem_append_left _ (List.mem_cons_of_mem _ (List.mem_cons_self ..))) (fun p hp => by
      rcases List.mem_cons.mp hp with e | hp
      · rw [e]; exact ⟨List.mem_append_left _ (List.mem_cons_self ..), hDL⟩
      · rcases List.mem_append.mp hp with q | q
        · exact ⟨List.mem_append_left _ (List.mem_cons_of_mem _ (List.mem_cons_of_mem _ q)), hrL p q⟩
        · exact ⟨List.mem_append_right _ q, hoffL p q⟩)
    refine wpAny_mono (turn pre.length k t c h tk own g2 (by omega) hlt hoffD T2 Fg Ng) (fun f s₂ p => ?_) fun _ _ e => e
    obtain ⟨rfl, h', tk', m', c', g3, rfl, T3, F', N', hm⟩ := p
    obtain ⟨sl', F3, N3⟩ := gr_down hgL T3 F' N'
    refine ⟨h', tk', m', _, (D, listOf (List.toArray ((R.take (pre.length + 1)).map .bool)) c') :: (L, { oL with slots := sl' }) :: rest, rfl, F3, N3, ?_, fun q hq => List.mem_cons_of_mem _ (List.mem_cons_of_mem _ (List.mem_append_right _ hq)), rfl, ⟨(_, c', sl'), rfl, trivial, (fun _ h => nomatch h), fun z hz _ _ => hm z hz, by show _ = (R.take (pre ++ [k]).length).map Value.bool; rw [List.length_append, List.length_singleton]⟩⟩
    intro q hq
    rcases List.mem_cons.mp hq with e | e
    · rw [e]; exact List.mem_cons_of_mem _ (List.mem_cons_self ..)
    · rcases List.mem_cons.mp e with e | e
      · rw [e]; exact List.mem_cons_self ..
      · exact List.mem_cons_of_mem _ (List.mem_cons_of_mem _ (List.mem_append_left _ e))
  · rintro ⟨vs, c, sl⟩ u h tk _ hv F₁ N₁
    have hv' : vs = (R.take (rangeKs 0 R.length).length).map .bool := hv
    rw [rangeKs_length, List.take_length] at hv'
    subst hv'
    have e : (fun y => if y = x then u y else kstB (fun z => if ([] : List Str).contains z then u z else m₀ z) [] y) = fun y => if y = x then u y else m₀ y := by
      funext y; simp [kstB]
    rw [e] at F₁
    obtain ⟨g2, T2, Fg, Ng⟩ := gr_up (sl := sl) (news := (D, listOf (List.toArray (R.map .bool)) c) :: rest) hgL hab F₁ N₁ (List.mem_cons_of_mem _ (List.mem_cons_self ..)) (fun p hp => by
      rcases List.mem_cons.mp hp with e | hp
      · rw [e]; exact ⟨List.mem_cons_self .., hDL⟩
      · exact ⟨List.mem_cons_of_mem _ (List.mem_cons_of_mem _ hp), hrL p hp⟩)
    exact done c u h tk g2 T2 Fg Ng
end
theorem roads_len {R : List Bool} {i : Nat} (h : R.length < 1000) : (List.toArray ((R.take i).map Value.bool)).size ≤ sizeLine := by
  rw [List.size_toArray, List.length_map, List.length_take, sizeLine_eq]; omega
local macro_rules | `(tactic| walk_at "call builtin:list.append") => `(tactic| (k_here; (with_reducible show wpAny _ _ (call (Value.builtin _) [Value.ref _, Value.bool _]) _ _ _); k_dflt (refine' append_K ?k1 ?k2 ?k3 ?_ ?z; (case k1 => k_asm); (case k2 => k_asm); (case k3 => (refine' Upd.head ?a; (case a => assumption))); (case z => first | exact roads_len (by show 12 < 1000; decide) | exact roads_len (by show 4 < 1000; decide))); intro h' F' N'; (try k_sweep)))
-- own_enter: a method of the counter
local macro_rules | `(tactic| walk_at "call ref") => `(tactic| (k_here; (with_reducible (first | show wpAny _ _ (call (Value.ref 183) _) _ _ _ | show wpAny _ _ (call (Value.ref 197) _) _ _ _ | show wpAny _ _ (call (Value.ref 204) _) _ _ _)); k_dflt (refine wpAny_call ?_; (refine' code_def ?k1 ?k2 ?k3 ?k4 ?k5 ?kA ?kF ?kK ?k6 ?k7 ?k8 ?k9 ?kB ?_ ?c2 ?c3 ?c4 ?c5; (case kA => exact rfl); (case kF => exact rfl); (case kK => first | exact rfl | assumption); (case k1 => k_asm); (case k2 => k_asm); (case k3 => k_asm); (case k4 => k_asm); (case k5 => k_asm); (case k6 => k_is); (case k7 => k_is); (case k8 => ktr_room); (case k9 => exact BindsTo.of_eq rfl); (case c5 => decide); (case kB => exact locs rfl); (case c2 => exact rfl); (case c3 => exact rfl); (case c4 => exact rfl); k_whole; intro g' L' h' FG' F' N' B' X' T'; (try dsimp only); (try k_lift B'); (try k_fold)))))
local macro_rules | `(tactic| walk_at "exec If") => `(tactic| (k_here; refine wpAny_If ?_))
local macro_rules | `(tactic| walk_at "exec For Name Call cons nil") => `(tactic| (k_here; k_dflt (k_extra "roads for")))
local macro_rules | `(tactic| walk_at "pyIter ref") => `(tactic| (k_here; (with_reducible show wpAny _ _ (pyIter (Value.ref _)) (fun it s₂ => LoopAtV _ _ _ _ _ _ _ _ _ it s₂) _ _); (rename IsRange _ _ _ _ _ _ _ _ => rgX); k_dflt (k_extra "roads")))
theorem refs_len (y m d : Int) : (refs y m d).length = 12 := rfl
theorem six {i : Nat} (h : i ≤ 5) : i = 0 ∨ i = 1 ∨ i = 2 ∨ i = 3 ∨ i = 4 ∨ i = 5 := by omega
theorem refs_G {y m d k : Int} {i : Nat} {b : Bool} (hk : k = (i : Int)) (h : 0 ≤ k ∧ k ≤ 5) (l : refG y m d = b) : (refs y m d)[i]? = some b := by
  subst l
  rcases six (i := i) (by omega) with e | e | e | e | e | e <;> (subst e; rfl)
theorem refs_I {y m d k : Int} {i : Nat} {b : Bool} (hk : k = (i : Int)) (h : 6 ≤ k ∧ k ≤ 6) (l : refI y m d = b) : (refs y m d)[i]? = some b := by
  subst l
  have e : i = 6 := by omega
  subst e; rfl
theorem refs_J {y m d k : Int} {i : Nat} {b : Bool} (hk : k = (i : Int)) (h : 7 ≤ k ∧ k ≤ 11) (l : refJ y m d = b) : (refs y m d)[i]? = some b := by
  subst l
  have e : i = 7 ∨ i = 8 ∨ i = 9 ∨ i = 10 ∨ i = 11 := by omega
  rcases e with e | e | e | e | e <;> (subst e; rfl)
theorem refG_f {y m d : Int} (h : 0 < d ∧ d ≤ dimG y m) : refG y m d = false := by simp [refG, h]
theorem refG_t {y m d : Int} (h : ¬ (0 < d ∧ d ≤ dimG y m)) : refG y m d = true := by simp only [refG, decide_eq_false h]; rfl
theorem refJ_f {y m d : Int} (h : 0 < d ∧ d ≤ dimJ y m) : refJ y m d = false := by simp [refJ, h]
theorem refJ_t {y m d : Int} (h : ¬ (0 < d ∧ d ≤ dimJ y m)) : refJ y m d = true := by simp only [refJ, decide_eq_false h]; rfl
theorem refI_f {y m d : Int} (h : (1 ≤ y ∧ y ≤ 9999) ∧ (1 ≤ m ∧ m ≤ 12) ∧ 0 < d ∧ d ≤ dimG y m) : refI y m d = false := by
  have h' : (1 ≤ y ∧ y ≤ 9999) ∧ 0 < d ∧ d ≤ dimG y m := ⟨h.1, h.2.2⟩
  simp only [refI, decide_eq_true h']; rfl
theorem refI_t {y m d : Int} (hm : 1 ≤ m ∧ m ≤ 12) (h : ¬ ((1 ≤ y ∧ y ≤ 9999) ∧ (1 ≤ m ∧ m ≤ 12) ∧ 0 < d ∧ d ≤ dimG y m)) : refI y m d = true := by
  have h' : ¬ ((1 ≤ y ∧ y ≤ 9999) ∧ 0 < d ∧ d ≤ dimG y m) := fun q => h ⟨q.1, hm, q.2⟩
  simp only [refI, decide_eq_false h']; rfl
theorem ct_refs (y m d : Int) (t1 t2 t3 : Tok) (hd0 : -2000000000 < d) (hd1 : d < 2000000000) (hm : 1 ≤ m ∧ m ≤ 12) : CtR y m d t1 t2 t3 := by
  unfold CtR
  w_top off
  k_fill
  intro w loose mean mg mb dp un gd cn cs a ccd A₀ h₀ L mm x dx hsh tk0 te ep nn news s Q E B F X N hl1 hl2 T hk hdp hu hret
  refine wpAny_call ?_
  k_dflt (refine' code_defS0 ?k1 ?k2 ?k3 ?k4 ?k5 ?kA ?k6 ?k7 ?k8 ?k9 ?kB ?_ ?cK ?c2 ?c3 ?c4 ?c5; (case kA => exact rfl); (case k2 => k_asm); (case k1 => k_asm); (case k3 => k_asm); (case k4 => k_asm); (case k5 => k_asm); (case k6 => k_is); (case k7 => k_is); (case k8 => ktr_room); (case k9 => exact BindsTo.of_eq rfl); (case kB => exact locs rfl); (case cK => assumption); (case c2 => exact rfl); (case c3 => exact rfl); (case c4 => exact rfl); (case c5 => decide); k_whole; intro g' L' h' FG' F' N' B' X' T' D'; (try dsimp only); (try k_lift B'); (try k_fold))
  have hgL : ∃ oL, g'.get? L = some oL := by
    obtain ⟨oL, _, _, hL, _⟩ := FG'.ns
    exact ⟨oL, hL⟩
  obtain ⟨oL, hgL⟩ := hgL
  k_with "roads for" => (refine' For_invV (hideAll g' [L]) ?k1 ?k2 ?_; (case k1 => exact rfl); (case k2 => exact rfl))
  k_with "roads" => (refine' iter_roads (refs y m d) hgL ?hh (by assumption) ?hb ?hR ?F ?N ?ne (fun i' k' t' c' h' tk' own' g2' hk' hi' hne' T2' F' N' => ?_) (fun c' u' h' tk' g2' T2' F' N' => ?_); (case hh => exact rfl); (case F => k_asm); (case N => k_asm); (case hb => exact rfl); (case hR => (show 12 < 1000; decide)); (case ne => k_all); all_goals ((have T2 : KtsTurn ([envOf cn cs L a ccd].filterMap (·.frame)) g' g2' := T2'); (have B2' := gr_below B' T2); (have X2' : (hd.heap_39 w.params).In g2' := Frag.In.keeps X B2'.stays); (have P2' := Top.keeps T B2'.stays); (have D2' := KtsDicts.turn D' T2); (try simp only [List.cons_append, List.nil_append] at N' hne'); clear T2'; (try k_sweep); (try k_fold)))
  k_steps
  k_with_none
  all_goals try (refine' road_push (R := refs y m d) ?rT ?rF ?rN (List.mem_cons_self ..) ?rr ?rm ?_; (case rT => assumption); (case rF => k_asm); (case rN => k_asm); (case rr => exact fun p hp => List.mem_cons_of_mem _ hp); (case rm => intro z hz; simp only [hz, if_false]); (rw [refs_len] at hi'); first
    | exact refs_G hk' (by omega) (refG_f (by assumption))
    | exact refs_G hk' (by omega) (refG_t (by assumption))
    | exact refs_I hk' (by omega) (refI_f (by assumption))
    | exact refs_I hk' (by omega) (refI_t hm (by assumption))
    | exact refs_J hk' (by omega) (refJ_f (by assumption))
    | exact refs_J hk' (by omega) (refJ_t (by assumption)))
  all_goals ((with_reducible rename _ < _ ∧ _ < _ ∧ AllLt _ _ => q9); exact hret _ _ _ _ _ rfl (by k_asm) (by k_asm) q9.1)
def mB (m : Int) : Bool := !decide (1 ≤ m ∧ m ≤ 12)
def mBI (y m : Int) : Bool := !decide ((1 ≤ y ∧ y ≤ 9999) ∧ 1 ≤ m ∧ m ≤ 12)
def refsM (y m : Int) : List Bool := [mB m, mB m, mB m, mBI y m]
theorem mB_f {m : Int} (h : 1 ≤ m ∧ m ≤ 12) : mB m = false := by simp [mB, h]
theorem mB_t {m : Int} (h : ¬ (1 ≤ m ∧ m ≤ 12)) : mB m = true := by simp only [mB, decide_eq_false h]; rfl
theorem mBI_f {y m : Int} (h : (1 ≤ y ∧ y ≤ 9999) ∧ (1 ≤ m ∧ m ≤ 12) ∧ (0 : Int) < 1 ∧ 1 ≤ dimG y m) : mBI y m = false := by
  have h' : (1 ≤ y ∧ y ≤ 9999) ∧ 1 ≤ m ∧ m ≤ 12 := ⟨h.1, h.2.1⟩
  simp only [mBI, decide_eq_true h']; rfl
theorem mBI_t {y m : Int} (h : ¬ ((1 ≤ y ∧ y ≤ 9999) ∧ (1 ≤ m ∧ m ≤ 12) ∧ (0 : Int) < 1 ∧ 1 ≤ dimG y m)) : mBI y m = true := by
  have h' : ¬ ((1 ≤ y ∧ y ≤ 9999) ∧ 1 ≤ m ∧ m ≤ 12) := fun q => h ⟨q.1, q.2, one_legal y m⟩
  simp only [mBI, decide_eq_false h']; rfl
theorem refsM_len (y m : Int) : (refsM y m).length = 4 := rfl
theorem refsM_B {y m k : Int} {i : Nat} {b : Bool} (hk : k = (i : Int)) (h : 0 ≤ k ∧ k ≤ 2) (l : mB m = b) : (refsM y m)[i]? = some b := by
  subst l
  have e : i = 0 ∨ i = 1 ∨ i = 2 := by omega
  rcases e with e | e | e <;> (subst e; rfl)
theorem refsM_I {y m k : Int} {i : Nat} {b : Bool} (hk : k = (i : Int)) (h : 3 ≤ k ∧ k ≤ 3) (l : mBI y m = b) : (refsM y m)[i]? = some b := by
  subst l
  have e : i = 3 := by omega
  subst e; rfl
/-- the contract of _law_month_refusals -/
def CtM (y m : Int) (t1 t2 : Tok) : Prop :=
  ∀ (w : World) (loose : List Str) (mean : ExcName → Option Value) (mg mb : Str → Option Value) (dp un : Nat) (gd : Option (List Code)) (cn : Str) (cs : Scope) (a : Addr) (ccd : Value) (A₀ : Around) (h₀ : Heap) (L : Addr) (mm : Str → Option Value) (news : Led) (s : Shared) (Q E : Value → Shared → Prop),
    Below A₀ h₀ [] h₀ → Fr h₀ L s.heap mm → (hd.heap_39 w.params).In h₀ → News h₀ L s.heap news → Top hd.view_39 loose mean mg mb h₀ → cs.kind = .function → dp + 20 < recursionLimit → un + 160 < cLine →
    (∀ D xs c h' tk', xs = (refsM y m).map .bool → Fr h₀ L h' mm → News h₀ L h' ((D, listOf (List.toArray xs) c) :: news) → (∀ p ∈ news, p.1 < D) → Q (.ref D) { s with heap := h', toks := tk' }) →
    wpAny (model PySem.Challenge.rw_bn0010_01.row.prog w) (ktrTop dp un gd cn cs L a ccd [] []) (call (.ref 337) [.int y t1, .int m t2]) Q E s
theorem ct_refsM (y m : Int) (t1 t2 : Tok) : CtM y m t1 t2 := by
  unfold CtM
  w_top off
  k_fill
  intro w loose mean mg mb dp un gd cn cs a ccd A₀ h₀ L mm news s Q E B F X N T hk hdp hu hret
  refine wpAny_call ?_
  k_dflt (refine' code_defS0 ?k1 ?k2 ?k3 ?k4 ?k5 ?kA ?k6 ?k7 ?k8 ?k9 ?kB ?_ ?cK ?c2 ?c3 ?c4 ?c5; (case kA => exact rfl); (case k2 => k_asm); (case k1 => k_asm); (case k3 => k_asm); (case k4 => k_asm); (case k5 => k_asm); (case k6 => k_is); (case k7 => k_is); (case k8 => ktr_room); (case k9 => exact BindsTo.of_eq rfl); (case kB => exact locs rfl); (case cK => assumption); (case c2 => exact rfl); (case c3 => exact rfl); (case c4 => exact rfl); (case c5 => decide); k_whole; intro g' L' h' FG' F' N' B' X' T' D'; (try dsimp only); (try k_lift B'); (try k_fold))
  have hgL : ∃ oL, g'.get? L = some oL := by
    obtain ⟨oL, _, _, hL, _⟩ := FG'.ns
    exact ⟨oL, hL⟩
  obtain ⟨oL, hgL⟩ := hgL
  k_with "roads for" => (refine' For_invV (hideAll g' [L]) ?k1 ?k2 ?_; (case k1 => exact rfl); (case k2 => exact rfl))
  k_with "roads" => (refine' iter_roads (refsM y m) hgL ?hh (by assumption) ?hb ?hR ?F ?N ?ne (fun i' k' t' c' h' tk' own' g2' hk' hi' hne' T2' F' N' => ?_) (fun c' u' h' tk' g2' T2' F' N' => ?_); (case hh => exact rfl); (case F => k_asm); (case N => k_asm); (case hb => exact rfl); (case hR => (show 4 < 1000; decide)); (case ne => first | k_all | exact ne_all_lt (by assumption) (Nat.le_refl _)); all_goals ((have T2 : KtsTurn ([envOf cn cs L a ccd].filterMap (·.frame)) g' g2' := T2'); (have B2' := gr_below B' T2); (have X2' : (hd.heap_39 w.params).In g2' := Frag.In.keeps X B2'.stays); (have P2' := Top.keeps T B2'.stays); (have D2' := KtsDicts.turn D' T2); (try simp only [List.cons_append, List.nil_append] at N' hne'); clear T2'; (try k_sweep); (try k_fold)))
  k_steps
  k_with_none
  all_goals try (refine' road_push (R := refsM y m) ?rT ?rF ?rN (List.mem_cons_self ..) ?rr ?rm ?_; (case rT => assumption); (case rF => k_asm); (case rN => k_asm); (case rr => exact fun p hp => List.mem_cons_of_mem _ hp); (case rm => intro z hz; simp only [hz, if_false]); (rw [refsM_len] at hi'); first
    | exact refsM_B hk' (by omega) (mB_f (by assumption))
    | exact refsM_B hk' (by omega) (mB_t (by assumption))
    | exact refsM_B hk' (by omega) (mB_f (And.right (by assumption)))
    | exact refsM_I hk' (by omega) (mBI_f (by assumption))
    | exact refsM_I hk' (by omega) (mBI_t (by assumption)))
  all_goals first
    | exact hret _ _ _ _ _ rfl (by k_asm) (by k_asm) (by first | assumption | exact lt_all (by assumption))
end Roads
/-- a goal laid by, out of the walk's sight -/
def Hid (P : Prop) : Prop := P
theorem Hid.out {P : Prop} (h : P) : Hid P := h
theorem CtR.use {y m d : Int} {t1 t2 t3 : Tok} {w : World} {loose : List Str} {mean : ExcName → Option Value} {mg mb : Str → Option Value} {dp un : Nat} {gd : Option (List Code)} {cn : Str} {cs : Scope} {a : Addr} {ccd : Value} {A₀ : Around} {h₀ : Heap} {L : Addr} {mm : Str → Option Value} {x dx : Addr} {hsh : Int} {tk0 te : Tok} {ep : Int} {nn : Nat} {news : Led} {s : Shared} {Q E : Value → Shared → Prop}
    (C : CtR y m d t1 t2 t3) (B : Below A₀ h₀ [] h₀) (F : Fr h₀ L s.heap mm) (X : (hd.heap_39 w.params).In h₀) (N : News h₀ L s.heap ((x, instObj 214 dx) :: (dx, dictOf [⟨hsh, .str (Str.ofString "epoch") tk0, .int ep te⟩] nn) :: news)) (hl : AllLt dx news) (hx : dx < x) (T : Top hd.view_39 loose mean mg mb h₀) (hk : cs.kind = .function) (hdp : dp + 20 < recursionLimit) (hu : un + 160 < cLine)
    (ret : ∀ D xs c h' tk', xs = (refs y m d).map .bool → Fr h₀ L h' mm → News h₀ L h' ((D, listOf (List.toArray xs) c) :: (x, instObj 214 dx) :: (dx, dictOf [⟨hsh, .str (Str.ofString "epoch") tk0, .int ep te⟩] nn) :: news) → x < D → Q (.ref D) { s with heap := h', toks := tk' }) :
    wpAny (model PySem.Challenge.rw_bn0010_01.row.prog w) (ktrTop dp un gd cn cs L a ccd [] []) (call (.ref 330) [.ref x, .int y t1, .int m t2, .int d t3]) Q E s :=
  C w loose mean mg mb dp un gd cn cs a ccd A₀ h₀ L mm x dx hsh tk0 te ep nn news s Q E B F X N hl hx T hk hdp hu ret
theorem CtM.use {y m : Int} {t1 t2 : Tok} {w : World} {loose : List Str} {mean : ExcName → Option Value} {mg mb : Str → Option Value} {dp un : Nat} {gd : Option (List Code)} {cn : Str} {cs : Scope} {a : Addr} {ccd : Value} {A₀ : Around} {h₀ : Heap} {L : Addr} {mm : Str → Option Value} {news : Led} {s : Shared} {Q E : Value → Shared → Prop}
    (C : CtM y m t1 t2) (B : Below A₀ h₀ [] h₀) (F : Fr h₀ L s.heap mm) (X : (hd.heap_39 w.params).In h₀) (N : News h₀ L s.heap news) (T : Top hd.view_39 loose mean mg mb h₀) (hk : cs.kind = .function) (hdp : dp + 20 < recursionLimit) (hu : un + 160 < cLine)
    (ret : ∀ D xs c h' tk', xs = (refsM y m).map .bool → Fr h₀ L h' mm → News h₀ L h' ((D, listOf (List.toArray xs) c) :: news) → (∀ p ∈ news, p.1 < D) → Q (.ref D) { s with heap := h', toks := tk' }) :
    wpAny (model PySem.Challenge.rw_bn0010_01.row.prog w) (ktrTop dp un gd cn cs L a ccd [] []) (call (.ref 337) [.int y t1, .int m t2]) Q E s :=
  C w loose mean mg mb dp un gd cn cs a ccd A₀ h₀ L mm news s Q E B F X N T hk hdp hu ret
/-- behind the law's one plain if the day is an int within bounds -/
def DayAt (h₀ : Heap) (L : Addr) (m : Str → Option Value) (news : Led) (s : Shared) (f : Flow) (s₂ : Shared) : Prop :=
  f = .next ∧ ∃ h' tk d t, s₂ = { s with heap := h', toks := tk } ∧ (-2000000000 < d ∧ d < 2000000000) ∧ Fr h₀ L h' (fun z => if z = Str.ofString "day" then some (.int d t) else m z) ∧ News h₀ L h' news
theorem day_join {M : Model} {A : Around} {E : Value → Shared → Prop} {s : Shared} {h₀ : Heap} {L : Addr} {m : Str → Option Value} {news : Led} {c : Sem Flow} {Q : Flow → Shared → Prop} (_F : Fr h₀ L s.heap m) (_N : News h₀ L s.heap news)
    (hc : wpAny M A c (DayAt h₀ L m news s) E s)
    (hk : ∀ h' tk d t, (-2000000000 < d ∧ d < 2000000000) → Fr h₀ L h' (fun z => if z = Str.ofString "day" then some (.int d t) else m z) → News h₀ L h' news → Q .next { s with heap := h', toks := tk }) : wpAny M A c Q E s := by
  refine wpAny_mono hc (fun f s₂ p => ?_) fun _ _ e => e
  obtain ⟨rfl, h', tk, d, t, rfl, hd, F, N⟩ := p
  exact hk h' tk d t hd F N
theorem day_same {h₀ h' : Heap} {L : Addr} {m : Str → Option Value} {news : Led} {s : Shared} {tk : Nat} {d : Int} {t : Tok} (F : Fr h₀ L h' m) (N : News h₀ L h' news) (hm : m (Str.ofString "day") = some (.int d t)) (hd : -2000000000 < d ∧ d < 2000000000) : DayAt h₀ L m news s .next { s with heap := h', toks := tk } := by
  refine ⟨rfl, h', tk, d, t, rfl, hd, ?_, N⟩
  have e : (fun z => if z = Str.ofString "day" then some (Value.int d t) else m z) = m := by
    funext z
    by_cases h : z = Str.ofString "day"
    · rw [if_pos h, h, hm]
    · rw [if_neg h]
  rw [e]; exact F
theorem day_new {h₀ h' : Heap} {L : Addr} {m : Str → Option Value} {news : Led} {s : Shared} {tk : Nat} {d : Int} {t : Tok} (F : Fr h₀ L h' (fun z => if z = Str.ofString "day" then some (.int (d.fmod 1000) t) else m z)) (N : News h₀ L h' news) : DayAt h₀ L m news s .next { s with heap := h', toks := tk } := by
  refine ⟨rfl, h', tk, _, t, rfl, ?_, F, N⟩
  rw [fme (by decide)]; omega
/-- the days of a julian year ahead of a month -/
def cumJ (y m : Int) : Int := (367 * m - 362) / 12 + (if m ≤ 2 then 0 else if leapJ y then -1 else -2)
theorem cumJ_val {y m : Int} (l : Bool) (hl : leapJ y = l) : cumJ y m = (367 * m - 362) / 12 + (if m ≤ 2 then 0 else if l then -1 else -2) := by rw [cumJ, hl]
theorem jdG_is (y m d : Int) : jdG y m d = nyG y + cumG y m + d - 1 := by simp only [jdG]; omega
theorem leapJ_iff (y : Int) : leapJ y = true ↔ y % 4 = 0 := by simp [leapJ]
theorem leapJ_not {y : Int} (h : leapJ y = false) : ¬ y % 4 = 0 := by rw [← leapJ_iff, h]; decide
theorem q4 (z : Int) : 1461 * z / 4 = 365 * z + z / 4 := by omega
theorem nyJ_is (y : Int) : nyJ y = 365 * y + (y - 1) / 4 + 1721059 := by
  unfold nyJ; rw [q4]; omega
theorem back4 (y : Int) (l : Bool) (h : if l then y % 4 = 0 else ¬ y % 4 = 0) : (y - 1) / 4 = y / 4 - (if l then 1 else 0) := by
  cases l <;> simp at h ⊢ <;> omega
theorem leapJ_if {y : Int} {l : Bool} (hl : leapJ y = l) : if l then y % 4 = 0 else ¬ y % 4 = 0 := by
  cases l
  · exact leapJ_not hl
  · exact (leapJ_iff y).mp hl
theorem jdJ_is {y m : Int} (h1 : 1 ≤ m) (h2 : m ≤ 12) (d : Int) : jdJ y m d = nyJ y + cumJ y m + d - 1 := by
  have key : ∀ l : Bool, leapJ y = l → jdJ y m d = nyJ y + cumJ y m + d - 1 := by
    intro l hl
    have e4 := back4 y l (leapJ_if hl)
    have e5 : (y + 4716) / 4 = y / 4 + 1179 := by omega
    have e6 : (y - 1 + 4716) / 4 = (y - 1) / 4 + 1179 := by omega
    rw [cumJ_val l hl, nyJ_is]
    simp only [jdJ, q4]
    rcases twelve h1 h2 with rfl | rfl | rfl | rfl | rfl | rfl | rfl | rfl | rfl | rfl | rfl | rfl <;> cases l <;> simp at e4 ⊢ <;> omega
  exact key _ rfl
theorem cum_step {y m : Int} (h1 : 1 ≤ m) (h2 : m ≤ 12) : cumG y m + dimG y m = cumG y (m + 1) := by
  have key : ∀ l : Bool, leapG y = l → cumG y m + dimG y m = cumG y (m + 1) := by
    intro l hl
    rw [cum_val l hl, cum_val l hl, dimG, hl]
    rcases twelve h1 h2 with rfl | rfl | rfl | rfl | rfl | rfl | rfl | rfl | rfl | rfl | rfl | rfl <;> cases l <;> decide
  exact key _ rfl
theorem cumJ_step {y m : Int} (h1 : 1 ≤ m) (h2 : m ≤ 12) : cumJ y m + dimJ y m = cumJ y (m + 1) := by
  have key : ∀ l : Bool, leapJ y = l → cumJ y m + dimJ y m = cumJ y (m + 1) := by
    intro l hl
    rw [cumJ_val l hl, cumJ_val l hl, dimJ, hl]
    rcases twelve h1 h2 with rfl | rfl | rfl | rfl | rfl | rfl | rfl | rfl | rfl | rfl | rfl | rfl <;> cases l <;> decide
  exact key _ rfl
theorem cum_1 (y : Int) : cumG y 1 = 0 := by simp [cumG]
theorem cumJ_1 (y : Int) : cumJ y 1 = 0 := by simp [cumJ]
theorem cum_13 (y : Int) : nyG y + cumG y 13 = nyG (y + 1) := by
  cases h : leapG y
  · rw [ny_f h, cum_val _ h]; rfl
  · rw [ny_t h, cum_val _ h]; rfl
theorem cumJ_13 (y : Int) : nyJ y + cumJ y 13 = nyJ (y + 1) := by
  have key : ∀ l : Bool, leapJ y = l → nyJ y + cumJ y 13 = nyJ (y + 1) := by
    intro l hl
    have e4 := back4 y l (leapJ_if hl)
    have e5 : y + 1 - 1 = y := by omega
    rw [cumJ_val l hl, nyJ_is, nyJ_is, e5]
    cases l <;> simp at e4 ⊢ <;> omega
  exact key _ rfl
theorem leapG_if {y : Int} {l : Bool} (hl : leapG y = l) : if l then (y % 4 = 0 ∧ (y % 100 ≠ 0 ∨ y % 400 = 0)) else ¬ (y % 4 = 0 ∧ (y % 100 ≠ 0 ∨ y % 400 = 0)) := by
  cases l
  · show ¬ _
    rw [← leap_iff, hl]; decide
  · exact (leap_iff y).mp hl
/-- the leap days ahead of a year -/
def lpG (y : Int) : Int := y / 4 - y / 100 + y / 400
theorem backG (y : Int) (l : Bool) (h : leapG y = l) : lpG (y - 1) = lpG y - (if l then 1 else 0) := by
  have h := leapG_if h
  unfold lpG
  cases l <;> simp at h ⊢ <;> omega
theorem nyG_is (y : Int) : nyG y = 365 * y + lpG (y - 1) + 1721061 := by
  unfold nyG lpG; omega
theorem jd2_is {y m : Int} (h1 : 1 ≤ m) (h2 : m ≤ 12) (d : Int) : jd2G y m d = jdG y m d := by
  have key : ∀ l : Bool, leapG y = l → jd2G y m d = jdG y m d := by
    intro l hl
    have e4 := backG y l hl
    have e5 : (y + 4716) / 4 = y / 4 + 1179 := by omega
    have e6 : (y - 1 + 4716) / 4 = (y - 1) / 4 + 1179 := by omega
    have e7 : lpG y = y / 4 - y / 100 + y / 100 / 4 := by unfold lpG; omega
    have e8 : lpG (y - 1) = (y - 1) / 4 - (y - 1) / 100 + (y - 1) / 100 / 4 := by unfold lpG; omega
    rw [jdG_is, cum_val l hl, nyG_is]
    simp only [jd2G, q4]
    rcases twelve h1 h2 with rfl | rfl | rfl | rfl | rfl | rfl | rfl | rfl | rfl | rfl | rfl | rfl <;> cases l <;> simp at e4 ⊢ <;> omega
  exact key _ rfl
def lens (b : Bool) : List Int := [31, if b = true then 29 else 28, 31, 30, 31, 30, 31, 31, 30, 31, 30, 31]
theorem lens_G {y m : Int} (h1 : 1 ≤ m) (h2 : m ≤ 12) : (lens (leapG y)).getD (m - 1).toNat 0 = dimG y m := by
  rw [dimG]
  generalize leapG y = l
  rcases twelve h1 h2 with rfl | rfl | rfl | rfl | rfl | rfl | rfl | rfl | rfl | rfl | rfl | rfl <;> cases l <;> decide
theorem lens_J {y m : Int} (h1 : 1 ≤ m) (h2 : m ≤ 12) : (lens (leapJ y)).getD (m - 1).toNat 0 = dimJ y m := by
  rw [dimJ]
  generalize leapJ y = l
  rcases twelve h1 h2 with rfl | rfl | rfl | rfl | rfl | rfl | rfl | rfl | rfl | rfl | rfl | rfl <;> cases l <;> decide
theorem ny_mono {y z : Int} (h : y < z) : nyG (y + 1) ≤ nyG z := by
  unfold nyG; omega
theorem nyJ_mono {y z : Int} (h : y < z) : nyJ (y + 1) ≤ nyJ z := by
  unfold nyJ; omega
theorem ny_lt {y z : Int} (h : y ≤ z) : nyG y ≤ nyG z := by
  unfold nyG; omega
theorem nyJ_lt {y z : Int} (h : y ≤ z) : nyJ y ≤ nyJ z := by
  unfold nyJ; omega
/-- the side on which a day's year lies is the part of the year in which the day lies -/
theorem side_G {y x j : Int} (h : inY j x) : (if y = x then (0 : Int) else if y < x then 1 else -1) = if j < nyG y then -1 else if j < nyG (y + 1) then 0 else 1 := by
  obtain ⟨h1, h2⟩ := h
  rcases Int.lt_trichotomy y x with c | c | c
  · have := ny_mono c
    have := ny_lt (y := y) (z := y + 1) (by omega)
    rw [if_neg (by omega), if_pos c, if_neg (by omega), if_neg (by omega)]
  · subst c
    rw [if_pos rfl, if_neg (by omega), if_pos h2]
  · have := ny_mono c
    rw [if_neg (by omega), if_neg (by omega), if_pos (by omega)]
theorem side_J (y j : Int) : (if y = yJ j then (0 : Int) else if y < yJ j then 1 else -1) = if j < nyJ y then -1 else if j < nyJ (y + 1) then 0 else 1 := by
  obtain ⟨h1, h2⟩ := yJ_in j
  generalize yJ j = x at h1 h2
  rcases Int.lt_trichotomy y x with c | c | c
  · have := nyJ_mono c
    have := nyJ_lt (y := y) (z := y + 1) (by omega)
    rw [if_neg (by omega), if_pos c, if_neg (by omega), if_neg (by omega)]
  · subst c
    rw [if_pos rfl, if_neg (by omega), if_pos h2]
  · have := nyJ_mono c
    rw [if_neg (by omega), if_neg (by omega), if_pos (by omega)]
/-- between the months: the days told of each calendar -/
def MW (Y : Int) (pre : List Int) (a b : Int) : Prop := a = nyG Y + cumG Y ((pre.length : Int) + 1) ∧ b = nyJ Y + cumJ Y ((pre.length : Int) + 1)
theorem MW_0 (Y : Int) : MW Y [] (nyG Y) (nyJ Y) := by
  constructor
  · show _ = _ + cumG Y 1
    rw [cum_1]; omega
  · show _ = _ + cumJ Y 1
    rw [cumJ_1]; omega
theorem MW_k {Y k a b : Int} {pre : List Int} (h : MW Y pre a b) (hk : k = 1 + (pre.length : Int)) : a = nyG Y + cumG Y k ∧ b = nyJ Y + cumJ Y k := by
  have e : (pre.length : Int) + 1 = k := by omega
  obtain ⟨h1, h2⟩ := h
  rw [e] at h1 h2
  exact ⟨h1, h2⟩
theorem MW_step {Y k a b g g' : Int} {pre : List Int} (h : MW Y pre a b) (hk : k = 1 + (pre.length : Int)) (hm : 1 ≤ k ∧ k ≤ 12) (f1 : g = dimG Y k) (f2 : g' = dimJ Y k) : MW Y (pre ++ [k]) (a + g) (b + g') := by
  obtain ⟨h1, h2⟩ := MW_k h hk
  have e : ((pre ++ [k]).length : Int) + 1 = k + 1 := by
    rw [List.length_append, List.length_singleton]; omega
  unfold MW
  rw [e, ← cum_step hm.1 hm.2, ← cumJ_step hm.1 hm.2, f1, f2]
  constructor <;> omega
theorem MW_end {Y a b : Int} {pre : List Int} (h : MW Y pre a b) (hl : pre.length = 12) : a = nyG (Y + 1) ∧ b = nyJ (Y + 1) := by
  obtain ⟨h1, h2⟩ := h
  rw [hl] at h1 h2
  exact ⟨h1.trans (cum_13 Y), h2.trans (cumJ_13 Y)⟩
theorem fm4 (Y : Int) : (Y.fmod 4 == 0) = leapJ Y := by
  rw [fme (by decide), leapJ, Bool.eq_iff_iff]; simp
theorem turn_facts {Y k a b d : Int} (_hd : -2000000000 < d ∧ d < 2000000000) (hm : 1 ≤ k ∧ k ≤ 12) (ea : a = nyG Y + cumG Y k) (eb : b = nyJ Y + cumJ Y k) :
    ([31, if leapG Y = true then 29 else 28, 31, 30, 31, 30, 31, 31, 30, 31, 30, 31] : List Int).getD (k - 1).toNat 0 = dimG Y k ∧
    ([31, if (Y.fmod 4 == 0) = true then 29 else 28, 31, 30, 31, 30, 31, 31, 30, 31, 30, 31] : List Int).getD (k - 1).toNat 0 = dimJ Y k ∧
    (28 ≤ dimG Y k ∧ dimG Y k ≤ 31) ∧ (28 ≤ dimJ Y k ∧ dimJ Y k ≤ 31) ∧
    jdG Y k 1 = a ∧ jdJ Y k 1 = b ∧ jdG Y k d = a + d - 1 ∧ jdJ Y k d = b + d - 1 ∧ jd2G Y k d = a + d - 1 ∧
    togM Y (a - nyG Y + 1) = k ∧ ordG Y (togM Y (a - nyG Y + 1)) 1 = a - nyG Y + 1 ∧ ordG Y k 1 = a - nyG Y + 1 := by
  have t : togM Y (a - nyG Y + 1) = k := tog_is hm.1 hm.2 (by omega)
  have o : ordG Y k 1 = a - nyG Y + 1 := by rw [ord_is hm.1 hm.2]; omega
  refine ⟨lens_G hm.1 hm.2, ?_, dim_bd Y k, dimJ_bd Y k, ?_, ?_, ?_, ?_, ?_, t, by rw [t]; exact o, o⟩
  · rw [fm4]; exact lens_J hm.1 hm.2
  · rw [jdG_is]; omega
  · rw [jdJ_is hm.1 hm.2]; omega
  · rw [jdG_is]; omega
  · rw [jdJ_is hm.1 hm.2]; omega
  · rw [jd2_is hm.1 hm.2, jdG_is]; omega
theorem fm12 (x : Int) : 1 ≤ x.fmod 12 + 1 ∧ x.fmod 12 + 1 ≤ 12 := by
  rw [fme (by decide)]; omega
theorem end_facts {Y P a b : Int} (hp : 1 ≤ P ∧ P ≤ 12) (ea : a = nyG (Y + 1)) (eb : b = nyJ (Y + 1)) :
    ([31, if leapG Y = true then 29 else 28, 31, 30, 31, 30, 31, 31, 30, 31, 30, 31] : List Int).getD (P - 1).toNat 0 = dimG Y P ∧
    ([31, if (Y.fmod 4 == 0) = true then 29 else 28, 31, 30, 31, 30, 31, 31, 30, 31, 30, 31] : List Int).getD (P - 1).toNat 0 = dimJ Y P ∧
    1 ≤ dimG (Y + 1) 1 ∧ 1 ≤ dimJ (Y + 1) 1 ∧ jdG Y 1 1 = nyG Y ∧ jdG (Y + 1) 1 1 = a ∧ jdJ (Y + 1) 1 1 = b := by
  refine ⟨lens_G hp.1 hp.2, ?_, Int.le_trans (by decide) (dim_bd (Y + 1) 1).1, Int.le_trans (by decide) (dimJ_bd (Y + 1) 1).1, jd11 Y, ?_, ?_⟩
  · rw [fm4]; exact lens_J hp.1 hp.2
  · rw [jd11, ea]
  · rw [ny_jdJ, eb]
/-- outside of the bounds -/
def outB (lo x hi : Int) : Bool := !decide (lo ≤ x ∧ x ≤ hi)
theorem ob_a {lo x hi hi' : Int} (h : lo ≤ x) (e : hi' = hi) : (!decide (x ≤ hi')) = outB lo x hi := by
  subst e; simp [outB, h]
theorem ob_b {lo x hi : Int} (h : ¬ lo ≤ x) : (!decide (lo ≤ x)) = outB lo x hi := by
  simp [outB, h]
theorem refs_val (y m d : Int) : (refs y m d).map Value.bool = [.bool (outB 1 d (dimG y m)), .bool (outB 1 d (dimG y m)), .bool (outB 1 d (dimG y m)), .bool (outB 1 d (dimG y m)), .bool (outB 1 d (dimG y m)), .bool (outB 1 d (dimG y m)), .bool (outB 1 d (dimG y m) || outB 1 y 9999), .bool (outB 1 d (dimJ y m)), .bool (outB 1 d (dimJ y m)), .bool (outB 1 d (dimJ y m)), .bool (outB 1 d (dimJ y m)), .bool (outB 1 d (dimJ y m))] := by
  have e1 : refG y m d = outB 1 d (dimG y m) := by
    rw [refG, outB, Bool.eq_iff_iff]; simp; omega
  have e2 : refJ y m d = outB 1 d (dimJ y m) := by
    rw [refJ, outB, Bool.eq_iff_iff]; simp; omega
  have e3 : refI y m d = (outB 1 d (dimG y m) || outB 1 y 9999) := by
    rw [refI, outB, outB, Bool.eq_iff_iff]; simp; omega
  simp only [refs, e1, e2, e3, List.map_cons, List.map_nil]
theorem refsM_val (y m : Int) : (refsM y m).map Value.bool = [.bool (outB 1 m 12), .bool (outB 1 m 12), .bool (outB 1 m 12), .bool (outB 1 m 12 || outB 1 y 9999)] := by
  have e1 : mB m = outB 1 m 12 := rfl
  have e3 : mBI y m = (outB 1 m 12 || outB 1 y 9999) := by
    rw [mBI, outB, outB, Bool.eq_iff_iff]; simp; omega
  simp only [refsM, e1, e3, List.map_cons, List.map_nil]
/-- behind a statement that names a bool -/
def BoolAt (nm : Str) (B : Bool) (h₀ : Heap) (L : Addr) (m : Str → Option Value) (news : Led) (s : Shared) (f : Flow) (s₂ : Shared) : Prop :=
  f = .next ∧ ∃ h' tk, s₂ = { s with heap := h', toks := tk } ∧ Fr h₀ L h' (fun z => if z = nm then some (.bool B) else m z) ∧ News h₀ L h' news
theorem bool_join {M : Model} {A : Around} {E : Value → Shared → Prop} {s : Shared} {h₀ : Heap} {L : Addr} {m : Str → Option Value} {news : Led} {c : Sem Flow} {Q : Flow → Shared → Prop} (nm : Str) (B : Bool) (_F : Fr h₀ L s.heap m) (_N : News h₀ L s.heap news)
    (hc : wpAny M A c (BoolAt nm B h₀ L m news s) E s)
    (hk : ∀ h' tk, Fr h₀ L h' (fun z => if z = nm then some (.bool B) else m z) → News h₀ L h' news → Q .next { s with heap := h', toks := tk }) : wpAny M A c Q E s := by
  refine wpAny_mono hc (fun f s₂ p => ?_) fun _ _ e => e
  obtain ⟨rfl, h', tk, rfl, F, N⟩ := p
  exact hk h' tk F N
theorem bool_end {nm : Str} {B X : Bool} {h₀ h' : Heap} {L : Addr} {m : Str → Option Value} {news : Led} {s : Shared} {tk : Nat} (F : Fr h₀ L h' (fun z => if z = nm then some (.bool X) else m z)) (N : News h₀ L h' news) (e : X = B) : BoolAt nm B h₀ L m news s .next { s with heap := h', toks := tk } :=
  ⟨rfl, h', tk, rfl, e ▸ F, N⟩
/-- behind a statement that leaves the frame and the ledger as they stood -/
def KeepAt (h₀ : Heap) (L : Addr) (m : Str → Option Value) (news : Led) (s : Shared) (f : Flow) (s₂ : Shared) : Prop :=
  f = .next ∧ ∃ h' tk, s₂ = { s with heap := h', toks := tk } ∧ Fr h₀ L h' m ∧ News h₀ L h' news
theorem keep_join {M : Model} {A : Around} {E : Value → Shared → Prop} {s : Shared} {h₀ : Heap} {L : Addr} {m : Str → Option Value} {news : Led} {c : Sem Flow} {Q : Flow → Shared → Prop} (_F : Fr h₀ L s.heap m) (_N : News h₀ L s.heap news)
    (hc : wpAny M A c (KeepAt h₀ L m news s) E s)
    (hk : ∀ h' tk, Fr h₀ L h' m → News h₀ L h' news → Q .next { s with heap := h', toks := tk }) : wpAny M A c Q E s := by
  refine wpAny_mono hc (fun f s₂ p => ?_) fun _ _ e => e
  obtain ⟨rfl, h', tk, rfl, F, N⟩ := p
  exact hk h' tk F N
theorem keep_end {h₀ h' : Heap} {L : Addr} {m : Str → Option Value} {news news' : Led} {s : Shared} {tk : Nat} (F : Fr h₀ L h' m) (N : News h₀ L h' news') (hs : ∀ p ∈ news, p ∈ news') : KeepAt h₀ L m news s .next { s with heap := h', toks := tk } :=
  ⟨rfl, h', tk, rfl, F, fun p hp => N p (hs p hp)⟩
theorem Hid.un {P : Prop} (h : Hid P) : P := h
theorem or_t {B C : Bool} (q : ((B || C) == B) = false) (h : B = true) : False := by
  subst h; simp at q
theorem or_f {B C : Bool} (q : ((B || C) == C) = false) (h : B = false) : False := by
  subst h; simp at q
theorem isG_in {j a b c : Int} (h : IsG j a b c) : inY j a := h.2.2.2
theorem side_G' {y x j b : Int} (h : inY j x) (e : b = nyG (y + 1)) : (if y = x then (0 : Int) else if y < x then 1 else -1) = if j < nyG y then -1 else if j < b then 0 else 1 := by
  subst e; exact side_G h
theorem side_J' {y b : Int} (j : Int) (e : b = nyJ (y + 1)) : (if y = yJ j then (0 : Int) else if y < yJ j then 1 else -1) = if j < nyJ y then -1 else if j < b then 0 else 1 := by
  subst e; exact side_J y j
def sideZ (x b : Int) : Int := if x = b then 0 else if x < b then 1 else -1
def partZ (x b c : Int) : Int := if x < b then -1 else if x < c then 0 else 1
theorem ct_sideZ (x b : Int) (t1 t2 : Tok) : Ct 1 344 [.int x t1, .int b t2] (fun v => ∃ t, v = .int (sideZ x b) t) False := ct_side x b t1 t2
theorem ct_partZ (x b c : Int) (t1 t2 t3 : Tok) : Ct 1 351 [.int x t1, .int b t2, .int c t3] (fun v => ∃ t, v = .int (partZ x b c) t) False := ct_part x b c t1 t2 t3
theorem dues {Y b c : Int} (j : Int) (e1 : b = nyG (Y + 1)) (e2 : c = nyJ (Y + 1)) :
    ∃ D E, Hid (partZ j (nyG Y) b = D) ∧ Hid (∀ x, inY j x → sideZ Y x = D) ∧ Hid (partZ j (nyJ Y) c = E) ∧ Hid (sideZ Y (yJ j) = E) :=
  ⟨_, _, rfl, fun _ h => side_G' h e1, rfl, side_J' j e2⟩
local macro_rules | `(tactic| walk_at "exec If") => `(tactic| (k_here; (with_reducible show wpAny _ _ (exec (Stmt.If (Expr.UnaryOp _ _ _) [Stmt.AugAssign _ _ _ _] [] _) _) _ _ _); (fail_if_success (with_reducible show wpAny _ _ _ (DayAt _ _ _ _ _) _ _)); k_dflt (refine' day_join ?jF ?jN ?_ (fun h' tk' d' t' hd' F' N' => ?_); (case jF => k_asm); (case jN => k_asm)); all_goals ((try k_sweep); (try k_fold))))
local macro_rules | `(tactic| walk_at "DayAt") => `(tactic| (k_here; k_dflt (first | exact day_new (by k_asm) (by k_asm) | exact day_same (by k_asm) (by k_asm) rfl ⟨by omega, by omega⟩)))
local macro_rules | `(tactic| walk_at "pyIter ref") => `(tactic| (k_here; k_dflt (k_extra "months")))
local macro_rules | `(tactic| walk_at "exec For Name Call cons nil") => `(tactic| (k_here; (rename Fr _ _ _ _ => lF'); (with_unfolding_all refine' For_invVF lF' ?k1 ?k2 ?_; (case k1 => exact rfl); (case k2 => exact rfl); k_whole)))
local macro_rules | `(tactic| walk_at "InvEndN") => `(tactic| (k_here; k_dflt ((rename Fr _ _ _ _ => lF); (rename News _ _ _ _ => lN); (refine' kst_end (_, _, _, _) lF lN ?ki ?ko ?km trivial ?ka ?ks ?kp); (case km => exact rfl); (case ka => kst_all); (case kp => k_extra "state"); (case ko => (intro p hp; kst_mem)); (case ki => kst_in); (case ks => kst_same))))
local macro_rules | `(tactic| walk_at "call ref") => `(tactic| (k_here; (with_reducible show wpAny _ _ (call (Value.ref 330) _) _ _ _); k_dflt (focus (refine' CtR.use (ct_refs _ _ _ _ _ _ ?h0 ?h1 ?h2) ?k1 ?k2 ?k3 ?k4 ?k6 ?k7 ?k5 ?kK ?kd ?ku (fun D9 xs9 c9 h9 tk9 e9 F9 N9 l9 => ?_); (case h0 => omega); (case h1 => omega); (case h2 => assumption); (case k1 => k_asm); (case k2 => k_asm); (case k3 => k_asm); (case k4 => k_asm); (case k5 => k_asm); (case k6 => (simp only [AllLt, and_true]; assumption)); (case k7 => omega); (case kK => first | exact rfl | assumption); (case kd => ktr_room); (case ku => ktr_units); (rw [refs_val] at e9); subst e9; (try dsimp only); (try k_fold)))))
local macro_rules | `(tactic| walk_at "call ref") => `(tactic| (k_here; (with_reducible show wpAny _ _ (call (Value.ref 337) _) _ _ _); k_dflt (focus (refine' CtM.use (ct_refsM _ _ _ _) ?k1 ?k2 ?k3 ?k4 ?k5 ?kK ?kd ?ku (fun D9 xs9 c9 h9 tk9 e9 F9 N9 l9 => ?_); (case k1 => k_asm); (case k2 => k_asm); (case k3 => k_asm); (case k4 => k_asm); (case k5 => k_asm); (case kK => first | exact rfl | assumption); (case kd => ktr_room); (case ku => ktr_units); (rw [refsM_val] at e9); subst e9; (try k_lt l9); (try dsimp only); (try k_fold)))))
local macro_rules | `(tactic| walk_at "exec Assign cons UnaryOp") => `(tactic| (k_here; (with_reducible show wpAny _ _ (exec (Stmt.Assign [Expr.Name (Str.ofString "bad") _] (Expr.UnaryOp _ (Expr.Compare _ _ [Expr.Name _ _, Expr.Subscript _ _ _] _) _) _) _) _ _ _); (fail_if_success (with_reducible show wpAny _ _ _ (BoolAt _ _ _ _ _ _ _) _ _)); k_dflt (k_extra "bad")))
local macro_rules | `(tactic| walk_at "exec Assign cons UnaryOp") => `(tactic| (k_here; (with_reducible show wpAny _ _ (exec (Stmt.Assign [Expr.Name (Str.ofString "bad") _] (Expr.UnaryOp _ (Expr.Compare _ _ [Expr.Name _ _, Expr.Constant _ _ _] _) _) _) _) _ _ _); (fail_if_success (with_reducible show wpAny _ _ _ (BoolAt _ _ _ _ _ _ _) _ _)); k_dflt (k_extra "bad again")))
local macro_rules | `(tactic| walk_at "exec Assign cons UnaryOp") => `(tactic| (k_here; (with_reducible show wpAny _ _ (exec (Stmt.Assign [Expr.Name (Str.ofString "old_bad") _] _ _) _) _ _ _); (fail_if_success (with_reducible show wpAny _ _ _ (BoolAt _ _ _ _ _ _ _) _ _)); k_dflt (k_extra "old bad")))
local macro_rules | `(tactic| walk_at "exec Assign cons UnaryOp") => `(tactic| (k_here; (with_reducible show wpAny _ _ (exec (Stmt.Assign [Expr.Name (Str.ofString "outside") _] _ _) _) _ _ _); (fail_if_success (with_reducible show wpAny _ _ _ (BoolAt _ _ _ _ _ _ _) _ _)); k_dflt (k_extra "outside")))
local macro_rules | `(tactic| walk_at "BoolAt") => `(tactic| (k_here; k_dflt (first | exact bool_end (by k_asm) (by k_asm) (ob_a (by assumption) (by first | assumption | rfl)) | exact bool_end (by k_asm) (by k_asm) (ob_b (by assumption)))))
local macro_rules | `(tactic| walk_at "exec If Compare cons nil") => `(tactic| (k_here; (with_reducible (first | show wpAny _ _ (exec (Stmt.If (Expr.Compare (Expr.Call (Expr.Name (Str.ofString "_law_refusals") _) _ _ _) _ _ _) _ _ _) _) _ _ _ | show wpAny _ _ (exec (Stmt.If (Expr.Compare (Expr.Call (Expr.Name (Str.ofString "_law_month_refusals") _) _ _ _) _ _ _) _ _ _) _) _ _ _)); (fail_if_success (with_reducible show wpAny _ _ _ (KeepAt _ _ _ _ _) _ _)); k_dflt (refine' keep_join ?jF ?jN ?_ (fun h' tk' F' N' => ?_); (case jF => k_asm); (case jN => k_asm)); all_goals ((try k_sweep); (try k_fold))))
local macro_rules | `(tactic| walk_at "exec If Compare cons nil") => `(tactic| (k_here; (with_reducible (first | show wpAny _ _ (exec (Stmt.If (Expr.Compare (Expr.Call (Expr.Name (Str.ofString "_law_number") _) [_, _, Expr.Name _ _] _ _) _ _ _) _ _ _) _) _ _ _ | show wpAny _ _ (exec (Stmt.If (Expr.Compare (Expr.Call (Expr.Name (Str.ofString "_law_old_number") _) [_, _, Expr.Name _ _] _ _) _ _ _) _ _ _) _) _ _ _)); (fail_if_success (with_reducible show wpAny _ _ _ (KeepAt _ _ _ _ _) _ _)); k_dflt (refine' keep_join ?jF ?jN ?_ (fun h' tk' F' N' => ?_); (case jF => k_asm); (case jN => k_asm)); all_goals ((try k_sweep); (try k_fold))))
local macro_rules | `(tactic| walk_at "exec If BoolOp cons nil") => `(tactic| (k_here; (with_reducible show wpAny _ _ (exec (Stmt.If (Expr.BoolOp BoolOp.And _ _) _ _ _) _) _ _ _); (fail_if_success (with_reducible show wpAny _ _ _ (KeepAt _ _ _ _ _) _ _)); k_dflt (refine' keep_join ?jF ?jN ?_ (fun h' tk' F' N' => ?_); (case jF => k_asm); (case jN => k_asm)); all_goals ((try k_sweep); (try k_fold))))
local macro_rules | `(tactic| walk_at "KeepAt") => `(tactic| (k_here; k_dflt (first | exact keep_end (by k_asm) (by k_asm) (by intro p hp; kst_mem) | (exfalso; omega) | exact False.elim (or_t (by assumption) (by assumption)) | exact False.elim (or_f (by assumption) (by assumption)))))
local macro_rules | `(tactic| walk_at "call ref") => `(tactic| (k_here; (with_reducible show wpAny _ _ (call (Value.ref 91) _) _ _ _); k_dflt (focus (refine' CtT.use (ct_fromG _ _) ?k1 ?k2 ?k3 ?k4 ?k5 ?kK ?kd ?ku (fun D9 c9 xs9 h9 tk9 ok9 F9 N9 l9 => ?_) (fun _ _ _ _ hb9 => False.elim hb9); (case k1 => k_asm); (case k2 => k_asm); (case k3 => k_asm); (case k4 => k_asm); (case k5 => k_asm); (case kK => first | exact rfl | assumption); (case kd => ktr_room); (case ku => ktr_units); (obtain ⟨x9, y9, z9, t9, t8, t7, e9, ok8⟩ := ok9); subst e9; (have q8 := isG_in ok8); clear ok8; (try k_lt l9); (try dsimp only); (try k_fold)))))
local macro_rules | `(tactic| walk_at "call ref") => `(tactic| (k_here; (with_reducible show wpAny _ _ (call (Value.ref 260) _) _ _ _); k_dflt (focus (refine' CtT.use (ct_fromO _ _) ?k1 ?k2 ?k3 ?k4 ?k5 ?kK ?kd ?ku (fun D9 c9 xs9 h9 tk9 ok9 F9 N9 l9 => ?_) (fun _ _ _ _ hb9 => False.elim hb9); (case k1 => k_asm); (case k2 => k_asm); (case k3 => k_asm); (case k4 => k_asm); (case k5 => k_asm); (case kK => first | exact rfl | assumption); (case kd => ktr_room); (case ku => ktr_units); (obtain ⟨y9, z9, t9, t8, e9, q8⟩ := ok9); subst e9; (try k_lt l9); (try dsimp only); (try k_fold)))))
local macro_rules | `(tactic| walk_at "call ref") => `(tactic| (k_here; (with_reducible show wpAny _ _ (call (Value.ref 134) _) _ _ _); k_dflt (focus (refine' CtT.use (ct_fromJ _ _) ?k1 ?k2 ?k3 ?k4 ?k5 ?kK ?kd ?ku (fun D9 c9 xs9 h9 tk9 ok9 F9 N9 l9 => ?_) (fun _ _ _ _ hb9 => False.elim hb9); (case k1 => k_asm); (case k2 => k_asm); (case k3 => k_asm); (case k4 => k_asm); (case k5 => k_asm); (case kK => first | exact rfl | assumption); (case kd => ktr_room); (case ku => ktr_units); (obtain ⟨y9, z9, t9, t8, t7, e9⟩ := ok9); subst e9; (try k_lt l9); (try dsimp only); (try k_fold)))))
local macro_rules | `(tactic| walk_at "call ref") => `(tactic| (k_here; (with_reducible show wpAny _ _ (call (Value.ref 344) _) _ _ _); k_dflt (focus (refine' Ct.use (ct_sideZ _ _ _ _) ?k1 ?k2 ?k3 ?k4 ?k5 ?kK ?kd ?ku (fun v9 h9 tk9 ok9 F9 N9 => ?_) (fun _ _ _ _ hb9 => False.elim hb9); (case k1 => k_asm); (case k2 => k_asm); (case k3 => k_asm); (case k4 => k_asm); (case k5 => k_asm); (case kK => first | exact rfl | assumption); (case kd => ktr_room); (case ku => ktr_units); (obtain ⟨t9, e9⟩ := ok9); (k_extra "side"); (try dsimp only); (try k_fold)))))
local macro_rules | `(tactic| walk_at "call ref") => `(tactic| (k_here; (with_reducible show wpAny _ _ (call (Value.ref 351) _) _ _ _); k_dflt (focus (refine' Ct.use (ct_partZ _ _ _ _ _ _) ?k1 ?k2 ?k3 ?k4 ?k5 ?kK ?kd ?ku (fun v9 h9 tk9 ok9 F9 N9 => ?_) (fun _ _ _ _ hb9 => False.elim hb9); (case k1 => k_asm); (case k2 => k_asm); (case k3 => k_asm); (case k4 => k_asm); (case k5 => k_asm); (case kK => first | exact rfl | assumption); (case kd => ktr_room); (case ku => ktr_units); (obtain ⟨t9, e9⟩ := ok9); (k_extra "part"); (try dsimp only); (try k_fold)))))
theorem law_holds : PySem.Challenge.rw_bn0010_01.Holds := hd (by
  w_top off
  k_go0
  (all_goals try k_fold)
  k_with "months" => (refine Hid.un ?_)
  k_steps
  k_with_none
  refine Hid.out ?_
  repeat (rename Value → Shared → Prop => z9; clear z9)
  repeat (rename Unit → Shared → Prop => z9; clear z9)
  repeat (rename Flow → Shared → Prop => z9; clear z9)
  repeat (rename List Value → Shared → Prop => z9; clear z9)
  repeat (rename Value → Shared → Prop => z9; clear z9)
  rename List Int => ns
  rename Int => d
  generalize hY : 2000 + cellAt ns 0 0 + 100 * cellAt ns 1 0 = Y at *
  have hP9 := fm12 (cellAt ns 3 0)
  generalize hP : (cellAt ns 3 0).fmod 12 + 1 = P at *
  k_with "state" => first | exact MW_0 _ | exact MW_step kW kEq hm f1 f2
  k_state (fun pre a b => MW Y pre a b) "at" "old_at"
  · rename MW _ _ _ _ => kW
    have hm : 1 ≤ kN ∧ kN ≤ 12 := by omega
    obtain ⟨e1, e2⟩ := MW_k kW kEq
    rename -2000000000 < _ ∧ _ < 2000000000 => hd9
    obtain ⟨f1, f2, f3, f4, f5, f6, f7, f8, f9, fa, fb, fc⟩ := turn_facts hd9 hm e1 e2
    k_steps
  · rename MW _ _ _ _ => kW
    obtain ⟨e1, e2⟩ := MW_end kW rfl
    rename -2000000000 < _ ∧ _ < 2000000000 => hd9
    clear kW
    obtain ⟨f1, f2, f3, f4, f5, f6, f7⟩ := end_facts hP9 e1 e2
    obtain ⟨D, E, hD, hS, hE, hT⟩ := dues (nyG Y + cellAt ns 4 0) e1 e2
    k_with "side" => ((with_reducible rename _ = Value.int (sideZ _ _) _ => e7); (first | rw [Hid.un hS _ (by assumption)] at e7 | rw [Hid.un hT] at e7); subst e7)
    k_with "part" => ((with_reducible rename _ = Value.int (partZ _ _ _) _ => e7); (first | rw [Hid.un hD] at e7 | rw [Hid.un hE] at e7); subst e7)
    k_with "bad" => ((refine' bool_join (Str.ofString "bad") (outB 1 d (dimG Y P)) ?jF ?jN ?_ (fun h' tk' F' N' => ?_)); (case jF => k_asm); (case jN => k_asm); all_goals ((try k_sweep); (try k_fold)))
    k_with "old bad" => ((refine' bool_join (Str.ofString "old_bad") (outB 1 d (dimJ Y P)) ?jF ?jN ?_ (fun h' tk' F' N' => ?_)); (case jF => k_asm); (case jN => k_asm); all_goals ((try k_sweep); (try k_fold)))
    k_with "outside" => ((refine' bool_join (Str.ofString "outside") (outB 1 Y 9999) ?jF ?jN ?_ (fun h' tk' F' N' => ?_)); (case jF => k_asm); (case jN => k_asm); all_goals ((try k_sweep); (try k_fold)))
    k_with "bad again" => ((refine' bool_join (Str.ofString "bad") (outB 1 (cellAt ns 3 0) 12) ?jF ?jN ?_ (fun h' tk' F' N' => ?_)); (case jF => k_asm); (case jN => k_asm); all_goals ((try k_sweep); (try k_fold)))
    k_steps)
end Mine
theorem PySem.Challenge.cw_bn0010_01_holds : PySem.Challenge.rw_bn0010_01.Holds := by
  exact Mine.law_holds
