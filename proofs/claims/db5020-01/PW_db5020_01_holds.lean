import PyProof.Rows.All
import Wide.All
import OpenK.AllK
import Wide.FinOn
import Lean
import PySem.Challenge.RW_db5020_01
open PySem PySem.W PySem.W.X PyProof.Rows
set_option Elab.async false
set_option maxRecDepth 100000
set_option maxHeartbeats 8000000
namespace Mine
section
local macro_rules | `(tactic| k_head) => `(tactic| x_head)
open_top hd for PySem.Challenge.rw_db5020_01
end
theorem fill : PySem.Challenge.rw_db5020_01.foot = 3 ∧ Mine.hd.heap_39 = Mine.hd.heap_39 := ⟨rfl, rfl⟩
end Mine

namespace Mine
section
open PySem PySem.W PySem.W.X PyProof.Rows
abbrev prg := PySem.Challenge.rw_db5020_01.row.prog
def AL : Around := { handled := none, depth := 800, frames := none, guards := none, units := 1000 }
theorem of_AL {α : Type} {M : Model} {A : Around} {t : Sem α} {Q : α → Shared → Prop} {E : Value → Shared → Prop} {s : Shared} (h1 : A.handled = none) (h2 : A.depth ≤ 800) (h3 : A.units ≤ 1000) (h : wpAny M AL t Q E s) : wpAny M A t Q E s :=
  fun Γ p hΓ => h Γ p ⟨hΓ.1.trans h1, Nat.le_trans hΓ.2.1 h2, fun _ e => (nomatch e), fun _ e => (nomatch e), Nat.le_trans hΓ.2.2.2.2 h3⟩
structure Row where
  x : Str
  y : Str
  i : Int
  j : Int
structure T4 where
  a : Tok
  b : Tok
  c : Tok
  d : Tok
abbrev vals (r : Row) (t : T4) : List Value := [.str r.x t.a, .str r.y t.b, .int r.i t.c, .int r.j t.d]
abbrev compObj (dx : Addr) (r : Row) (t : T4) : Obj := { cls := .ref 149, dict := some dx, data := .seq #[.str r.x t.a, .str r.y t.b, .int r.i t.c, .int r.j t.d] }
abbrev emptyDict : Obj := { cls := .type "dict", data := .dict #[] 0 }
def Kept (h h' : Heap) : Prop := ∀ b o, h.get? b = some o → h'.get? b = some o
theorem mem_keeps {h h' : Heap} {news : List (Addr × Obj)} (D : Mem h h' [] news) : Kept h h' := fun b o e => D.keep b o e (by simp [away])
theorem mem_new {h h' : Heap} {a : Addr} {o : Obj} {news : List (Addr × Obj)} (D : Mem h h' [] ((a, o) :: news)) : h'.get? a = some o ∧ h.get? a = none := D.nw _ (.head _)
/-- what a call that makes a composition hands on -/
def OnNew (s : Shared) (r : Row) (t : T4) (Q : Value → Shared → Prop) : Prop :=
  ∀ ad dx h' tk, Kept s.heap h' → h'.get? ad = some (compObj dx r t) → h'.get? dx = some emptyDict → s.heap.get? ad = none → s.heap.get? dx = none → dx < ad → Q (.ref ad) ⟨h', #[], s.drawn, tk, s.os⟩
theorem OnNew.use {s : Shared} {r : Row} {t : T4} {Q : Value → Shared → Prop} {a dx : Addr} {h' : Heap} {tk : Nat} {news : List (Addr × Obj)} (h : OnNew s r t Q) (D : Mem s.heap h' [] ((a, compObj dx r t) :: (dx, emptyDict) :: news)) : Q (.ref a) ⟨h', #[], s.drawn, tk, s.os⟩ :=
  h _ _ _ _ (mem_keeps D) (mem_new D).1 (D.nw _ (.tail _ (.head _))).1 (mem_new D).2 (D.nw _ (.tail _ (.head _))).2 (by
    have o := D.ord
    rw [List.map_cons, List.map_cons] at o
    exact List.rel_of_pairwise_cons o (.head _))
section
variable (w : World) (s : Shared) (X : (Mine.hd.heap_39 w.params).In s.heap) (hg : s.gens = #[]) (Q : Value → Shared → Prop) (E : Value → Shared → Prop)
local macro_rules | `(tactic| x_close) => `(tactic| exact OnNew.use (by assumption) (by assumption))
include X hg in
theorem comp_new (x y : Str) (a b : Int) (t1 t2 t3 t4 : Tok) (hQ : OnNew s ⟨x, y, a, b⟩ ⟨t1, t2, t3, t4⟩ Q) :
    wpAny (model prg w) AL (PySem.call (.ref 149) [.str x t1, .str y t2, .int a t3, .int b t4]) Q E s := by
  x_run
include X hg in
theorem comp_nil (hQ : OnNew s ⟨"", "", 0, 0⟩ ⟨268, 270, 272, 274⟩ Q) :
    wpAny (model prg w) AL (PySem.call (.ref 149) []) Q E s := by
  x_run
end
end
end Mine

namespace Mine
section
open PySem PySem.W PySem.W.X PyProof.Rows
/-- two places that differ (a word that omega does not see) -/
def Apart (a b : Addr) : Prop := a ≠ b
theorem Apart.ne {a b : Addr} (h : Apart a b) : a ≠ b := h
theorem Apart.ne' {a b : Addr} (h : Apart a b) : b ≠ a := Ne.symm h
def AllNe (d : Nat) : List (Addr × Obj) → Prop
  | [] => True
  | p :: r => Apart p.1 d ∧ AllNe d r
theorem allNe_of {d : Addr} : ∀ {l : List (Addr × Obj)}, (∀ p ∈ l, Apart p.1 d) → AllNe d l
  | [], _ => trivial
  | p :: _, h => ⟨h p (.head _), allNe_of fun q hq => h q (.tail _ hq)⟩
section
variable {w : World} {s : Shared} {A : Around} {Q : Value → Shared → Prop} {E : Value → Shared → Prop} {h₀ : Heap} {L : Addr} {m : Str → Option Value} {news : List (Addr × Obj)}
theorem Frk (F : Fr h₀ L s.heap m) {h' : Heap} (k : Kept s.heap h') : Fr h₀ L h' m := F.keeps k
theorem Nk (N : News h₀ L s.heap news) {h' : Heap} (k : Kept s.heap h') : News h₀ L h' news := fun p hp => ⟨k _ _ (N p hp).1, (N p hp).2⟩
theorem ne_of_none {h : Heap} {a b : Addr} {o : Obj} (e : h.get? a = some o) (n : h.get? b = none) : a ≠ b := fun z => by rw [z, n] at e; cases e
theorem base_none (F : Fr h₀ L s.heap m) {a : Addr} (n : s.heap.get? a = none) : h₀.get? a = none := by
  cases q : h₀.get? a with
  | none => rfl
  | some o => have := F.keep _ _ q; rw [n] at this; cases this
theorem L_ne (F : Fr h₀ L s.heap m) {a : Addr} (n : s.heap.get? a = none) : a ≠ L := by
  obtain ⟨oL, _, _, hL, _⟩ := F.ns
  exact (ne_of_none hL n).symm
theorem gens_eq {h : Heap} {tk : Nat} (hg : s.gens = #[]) : (⟨h, #[], s.drawn, tk, s.os⟩ : Shared) = { s with heap := h, toks := tk } := by rw [hg]
theorem onNew_K (F : Fr h₀ L s.heap m) (N : News h₀ L s.heap news) (hg : s.gens = #[]) {r : Row} {t : T4}
    (h : ∀ ad dx h' tk, Fr h₀ L h' m → News h₀ L h' ((ad, compObj dx r t) :: (dx, emptyDict) :: news) → (∀ p ∈ news, Apart p.1 ad) → (∀ p ∈ news, Apart p.1 dx) → dx < ad → Q (.ref ad) { s with heap := h', toks := tk }) : OnNew s r t Q := by
  intro ad dx h' tk k h1 h2 n1 n2 lt
  rw [gens_eq hg]
  refine h ad dx h' tk (Frk F k) ?_ (fun p hp => ne_of_none (N p hp).1 n1) (fun p hp => ne_of_none (N p hp).1 n2) lt
  intro p hp
  rcases List.mem_cons.mp hp with rfl | hp
  · exact ⟨h1, L_ne F n1, base_none F n1⟩
  · rcases List.mem_cons.mp hp with rfl | hp
    · exact ⟨h2, L_ne F n2, base_none F n2⟩
    · exact Nk N k p hp
theorem comp_nil_K (hA : A.handled = none) (hd : A.depth ≤ 800) (hu : A.units ≤ 1000) (X₀ : (Mine.hd.heap_39 w.params).In h₀) (F : Fr h₀ L s.heap m) (N : News h₀ L s.heap news) (hg : s.gens = #[])
    (h : ∀ ad dx h' tk, Fr h₀ L h' m → News h₀ L h' ((ad, compObj dx ⟨"", "", 0, 0⟩ ⟨268, 270, 272, 274⟩) :: (dx, emptyDict) :: news) → (∀ p ∈ news, Apart p.1 ad) → (∀ p ∈ news, Apart p.1 dx) → dx < ad → Q (.ref ad) { s with heap := h', toks := tk }) :
    wpAny (model prg w) A (PySem.call (.ref 149) []) Q E s := of_AL hA hd hu (comp_nil w s (Frag.In.keeps X₀ F.keep) hg Q E (onNew_K F N hg h))
end
/-- the rows' own tuple -/
abbrev rowObj (r : Row) (t : T4) : Obj := { cls := .type "tuple", data := .seq #[.str r.x t.a, .str r.y t.b, .int r.i t.c, .int r.j t.d] }
structure St where
  ms : List Value
  mn : Nat
  rs : List Value
  rn : Nat
  ds : List Row
structure Inv1 (L : List (Addr × Obj)) (c : St) : Prop where
  lm : c.ms.length = c.ds.length
  lr : c.rs.length = c.ds.length
  at' : ∀ (i : Nat) (d : Row), c.ds[i]? = some d → ∃ ca dx ct ra rt, c.ms[i]? = some (Value.ref ca) ∧ c.rs[i]? = some (Value.ref ra) ∧ (ca, compObj dx d ct) ∈ L ∧ (dx, emptyDict) ∈ L ∧ (ra, rowObj d rt) ∈ L
/-- a row whose texts are of true signs -/
structure Fine (d : Row) : Prop where
  x : PyData.strOk d.x = true
  y : PyData.strOk d.y = true
theorem strOk_app {x y : Str} (h : PyData.strOk x = true) (k : PyData.strOk y = true) : PyData.strOk (x ++ y) = true := by
  have e : (x ++ y).cps = x.cps ++ y.cps := rfl
  unfold PyData.strOk at *
  rw [e, Array.all_append, h, k]; rfl
def P1 (pre : List Int) (c : St) : Prop := c.ds.length = pre.length + 1 ∧ (∀ d ∈ c.ds, d.x.length ≤ 3 * pre.length ∧ d.y.length ≤ 3 * pre.length) ∧ ∀ d ∈ c.ds, Fine d
def Led1 (am ar : Addr) (c : St) : List (Addr × Obj) := [(am, listOf c.ms.toArray c.mn), (ar, listOf c.rs.toArray c.rn)]
theorem inv1_start {L : List (Addr × Obj)} {ca dx ra : Addr} {mn rn : Nat} {d : Row} {ct rt : T4} (h1 : (ca, compObj dx d ct) ∈ L) (h2 : (dx, emptyDict) ∈ L) (h3 : (ra, rowObj d rt) ∈ L) : Inv1 L ⟨[Value.ref ca], mn, [Value.ref ra], rn, [d]⟩ := by
  refine ⟨rfl, rfl, fun i e he => ?_⟩
  cases i with
  | zero => cases he; exact ⟨ca, dx, ct, ra, rt, rfl, rfl, h1, h2, h3⟩
  | succ i => cases he
abbrev names1 : List Str := ["k", "one", "other", "far", "weight", "row"]
abbrev row0 : Row := ⟨"", "", 0, 0⟩
section
variable {prog : Program} {w : World} {A : Around} {E : Value → Shared → Prop} {s : Shared} {env : Env} {h₀ : Heap} {x : Str} {body : List Stmt} {Q : Flow → Shared → Prop} {m₀ : Str → Option Value} {r : Addr} {t₀ u₀ v₀ : Tok} {oq : Obj} {q ad at' ar ra am ca dx : Addr} {nd nt rn mn : Nat} {b1 b2 b3 b4 c1 c2 c3 c4 : Tok}
theorem loop1 (hh : A.handled = none) (hr : IsRange s.heap r 0 8 1 t₀ u₀ v₀) (F : Fr h₀ env.locals s.heap m₀)
    (N : News h₀ env.locals s.heap [(q, oq), (ad, listOf #[] nd), (at', listOf #[] nt), (ar, listOf #[.ref ra] rn), (ra, rowObj row0 ⟨b1, b2, b3, b4⟩), (am, listOf #[.ref ca] mn), (ca, compObj dx row0 ⟨c1, c2, c3, c4⟩), (dx, emptyDict)])
    (turn : ∀ (c : St) tl (pre : List Int) (k : Int) t (u : Str → Option Value) h tk own, k = 0 + (pre.length : Int) → pre.length < 8 → KdSep own tl [am, ar, ad, at', ra, ca, dx] → OwnOff (tl ++ own) [am, ar, ad, at', ra, ca, dx] → Inv1 ([(ad, listOf #[] nd), (at', listOf #[] nt), (ra, rowObj row0 ⟨b1, b2, b3, b4⟩), (ca, compObj dx row0 ⟨c1, c2, c3, c4⟩), (dx, emptyDict)] ++ tl) c → P1 pre c →
      Fr h₀ env.locals h (fun y => if y = x then some (.int k t) else if names1.contains y then u y else m₀ y) → News h₀ env.locals h (Led1 am ar c ++ ([(ad, listOf #[] nd), (at', listOf #[] nt), (ra, rowObj row0 ⟨b1, b2, b3, b4⟩), (ca, compObj dx row0 ⟨c1, c2, c3, c4⟩), (dx, emptyDict)] ++ (tl ++ own))) →
      wpAny (model prog w) A (execs body env) (InvPostG h₀ env.locals (KdS (Led1 am ar) [(ad, listOf #[] nd), (at', listOf #[] nt), (ra, rowObj row0 ⟨b1, b2, b3, b4⟩), (ca, compObj dx row0 ⟨c1, c2, c3, c4⟩), (dx, emptyDict)] (fun _ => []) Inv1 x names1 m₀ P1 [am, ar, ad, at', ra, ca, dx] (pre ++ [k])) own { s with heap := h, toks := tk } Q) E { s with heap := h, toks := tk })
    (done : ∀ (c : St) tl (u : Str → Option Value) h tk, OwnOff tl [am, ar, ad, at', ra, ca, dx] → Inv1 ([(ad, listOf #[] nd), (at', listOf #[] nt), (ra, rowObj row0 ⟨b1, b2, b3, b4⟩), (ca, compObj dx row0 ⟨c1, c2, c3, c4⟩), (dx, emptyDict)] ++ tl) c → P1 (rangeKs 0 8) c →
      Fr h₀ env.locals h (fun y => if y = x then u y else if names1.contains y then u y else m₀ y) → News h₀ env.locals h (Led1 am ar c ++ ([(ad, listOf #[] nd), (at', listOf #[] nt), (ra, rowObj row0 ⟨b1, b2, b3, b4⟩), (ca, compObj dx row0 ⟨c1, c2, c3, c4⟩), (dx, emptyDict)] ++ tl)) → Q .next { s with heap := h, toks := tk }) :
    wpAny (model prog w) A (pyIter (.ref r)) (fun it s₂ => LoopAtV prog w A h₀ env x body Q E it s₂) E s :=
  kd_range (σ := St) (n := 8) (Led1 am ar) [(ad, listOf #[] nd), (at', listOf #[] nt), (ra, rowObj row0 ⟨b1, b2, b3, b4⟩), (ca, compObj dx row0 ⟨c1, c2, c3, c4⟩), (dx, emptyDict)] (fun _ => []) Inv1 names1 P1 [am, ar, ad, at', ra, ca, dx] ⟨[.ref ca], mn, [.ref ra], rn, [row0]⟩
    hh hr (by decide) (by rfl) F N (by
      intro p hp
      simp only [Led1, List.append_nil, List.cons_append, List.nil_append, List.mem_cons, List.not_mem_nil, or_false] at hp ⊢
      rcases hp with h | h | h | h | h | h | h <;> simp [h])
    (fun _ => rfl) (inv1_start (dx := dx) (ct := ⟨c1, c2, c3, c4⟩) (rt := ⟨b1, b2, b3, b4⟩) (by simp) (by simp) (by simp)) (fun _ hp => (nomatch hp)) ⟨rfl, (fun d hd => by
      rw [List.mem_singleton.mp hd]; exact ⟨by decide, by decide⟩), fun d hd => by
      rw [List.mem_singleton.mp hd]; exact ⟨by decide +kernel, by decide +kernel⟩⟩ turn done
end
/-- a goal at which the walk is to stop -/
def Hold (P : Prop) : Prop := P
theorem hold {P : Prop} (h : Hold P) : P := h
theorem unhold {P : Prop} (h : P) : Hold P := h
end
end Mine

namespace Mine
section
open PySem PySem.W PySem.W.X PyProof.Rows PySem.Spec PySem.Calls
/-- what a call of the reader gives: some int -/
def AtTells (w : World) (p : Program) (loose : List Str) (mean : ExcName → Option Value) (mg mb : Str → Option Value) : Prop :=
  ∀ (dp un : Nat) (gd : Option (List Code)) (cn : Str) (cs : Scope) (a : Addr) (ccd : Value) (cl : List (Str × Addr)) (outer : List Env) (A₀ : Around) (base h₀ : Heap) (L : Addr) (m : Str → Option Value) (news : List (Addr × Obj)) (s : Shared) (l : Addr) (vs : List Value) (ns : List Int) (i : Int) (tk : Tok)
    (Q : Value → Shared → Prop) (E : Value → Shared → Prop),
    Below A₀ base outer h₀ → Fr h₀ L s.heap m → (Mine.hd.heap_39 w.params).In h₀ → News h₀ L s.heap news → Top p loose mean mg mb h₀ → cs.kind = .function → base.IsList l vs.toArray → IntsAre vs ns → ns.length < 2 ^ 62 → 0 ≤ i → i < 64 → dp + 1 < recursionLimit → un + 8 < cLine →
    (∀ z t h' tk', Fr h₀ L h' m → News h₀ L h' news → Q (.int z t) { s with heap := h', toks := tk' }) →
    wpAny (model prg w) (ktrTop dp un gd cn cs L a ccd cl outer) (call (.ref 160) [.ref l, .int i tk]) Q E s
theorem at_tells (w : World) (mean : ExcName → Option Value) (mg mb : Str → Option Value) : AtTells w hd.view_39 (looseW hd.view_39 [Str.ofString "_tuplegetter", Str.ofString "Composition"]) mean mg mb := by
  unfold AtTells
  intro dp un gd cn cs a ccd cl outer A₀ base h₀ L m news s l vs ns i tk Q E B F X N T hk hl hi hfit h0 h64 hd hu hret
  refine wpAny_call ?_
  k_dflt cell_enter
  k_steps
  all_goals (first | exact hret _ _ _ _ (by k_asm) (by k_asm) | trace_state)
theorem at_use {w : World} {mean : ExcName → Option Value} {mg mb : Str → Option Value} {dp un : Nat} {gd : Option (List Code)} {cn : Str} {cs : Scope} {a : Addr} {ccd : Value} {cl : List (Str × Addr)} {outer : List Env} {A₀ : Around} {base h₀ : Heap} {L : Addr} {m : Str → Option Value} {news : List (Addr × Obj)} {s : Shared} {l : Addr} {vs : List Value} {ns : List Int} {i : Int} {tk : Tok}
    {Q : Value → Shared → Prop} {E : Value → Shared → Prop}
    (B : Below A₀ base outer h₀) (F : Fr h₀ L s.heap m) (X : (Mine.hd.heap_39 w.params).In h₀) (N : News h₀ L s.heap news) (T : Top hd.view_39 (looseW hd.view_39 [Str.ofString "_tuplegetter", Str.ofString "Composition"]) mean mg mb h₀) (hk : cs.kind = .function) (hl : base.IsList l vs.toArray) (hi : IntsAre vs ns) (hfit : ns.length < 2 ^ 62) (h0 : 0 ≤ i) (h64 : i < 64) (hd : dp + 1 < recursionLimit) (hu : un + 8 < cLine)
    (ret : ∀ z t h' tk', Fr h₀ L h' m → News h₀ L h' news → Q (.int z t) { s with heap := h', toks := tk' }) :
    wpAny (model prg w) (ktrTop dp un gd cn cs L a ccd cl outer) (call (.ref 160) [.ref l, .int i tk]) Q E s :=
  at_tells w mean mg mb _ _ _ _ _ _ _ _ _ _ _ _ _ _ _ _ _ _ _ _ _ _ _ B F X N T hk hl hi hfit h0 h64 hd hu ret
section
variable {w : World} {s : Shared} {A : Around} {E : Value → Shared → Prop} {h₀ : Heap} {L : Addr} {m : Str → Option Value} {news : List (Addr × Obj)}
theorem len_mine {l : Addr} {us : List Value} {n : Nat} {Q : Value → Shared → Prop} (N : News h₀ L s.heap news) (hm : (l, listOf us.toArray n) ∈ news) (hfit : us.length < 2 ^ 62)
    (h : ∀ tk, Q (.int (us.length : Int) tk) { s with toks := s.toks + 1 + 1 }) : wpAny (model prg w) A (call (.builtin "len") [.ref l]) Q E s := by
  have hl : s.heap.IsList l us.toArray := ⟨_, (N _ hm).1, rfl, n, rfl⟩
  have e : us.toArray.size = us.length := List.size_toArray ..
  exact len_list hl (by rw [e]; omega) (by rw [e]; exact h _)
theorem item_mine {value slice : PySem.Expr} {l : Addr} {us : List Value} {n : Nat} {k : Int} {u : Tok} {v : Value} {Q : Value → Shared → Prop} (N : News h₀ L s.heap news) (hm : (l, listOf us.toArray n) ∈ news)
    (h0 : 0 ≤ k) (hfit : k < 2 ^ 62) (hx : us[k.toNat]? = some v) (h : Q v s)
    (hs : subscripted slice false (.ref l) (.int k u) = operate [.ref l, .int k u] (getItem (.ref l) (.int k u)) := by with_unfolding_all rfl) :
    wpAny (model prg w) A (subscriptTail value slice (.ref l) (.int k u)) Q E s := by
  have hl : s.heap.IsList l us.toArray := ⟨_, (N _ hm).1, rfl, n, rfl⟩
  exact tail_any hl.typeIs slot_list_getitem.lookup (wpAny_getItem_list hl h0 (by omega) (by simpa using hx) h) hs
end
end
end Mine

namespace Mine
section
open PySem PySem.W PySem.W.X PyProof.Rows PySem.Spec PySem.Calls
section
variable {w : World} {s : Shared} {A : Around} {E : Value → Shared → Prop} {h₀ : Heap} {L : Addr} {m : Str → Option Value} {news : List (Addr × Obj)}
theorem mod_mine {a b : Int} {t u : Tok} {Q : Value → Shared → Prop} (hb : 0 < b) (h : ∀ r tk, 0 ≤ r → r < b → Q (.int r tk) { s with toks := s.toks + 1 }) : wpAny (model prg w) A (binaryOp .Mod (.int a t) (.int b u)) Q E s :=
  mod_int (by omega) (h _ _ (Int.fmod_nonneg_of_pos _ hb) (Int.fmod_lt_of_pos _ hb))
theorem add_mine {x y : Str} {t u : Tok} {Q : Value → Shared → Prop} (hsz : x.length + y.length ≤ 1000) (h : ∀ t' tk, Q (.str (x ++ y) t') { s with toks := tk }) : wpAny (model prg w) A (binaryOp .Add (.str x t) (.str y u)) Q E s :=
  add_str h (by rw [sizeLine_eq]; omega)
theorem pieces_are : (Mine.hd.heap_39 w.params).lookup 153 = some { cls := .type "tuple", data := .seq #[.str "" 437, .str "a" 438, .str " b" 439, .str "Ab" 440, .str " " 441, .str "c d" 442] } := rfl
theorem piece_mine {value slice : PySem.Expr} {k : Int} {u : Tok} {Q : Value → Shared → Prop} (X : (Mine.hd.heap_39 w.params).In h₀) (F : Fr h₀ L s.heap m) (h0 : 0 ≤ k) (h6 : k < 6) (h : ∀ x t, x.length ≤ 3 → PyData.strOk x = true → Q (.str x t) s)
    (hs : subscripted slice false (.ref 153) (.int k u) = operate [.ref 153, .int k u] (getItem (.ref 153) (.int k u)) := by with_unfolding_all rfl) :
    wpAny (model prg w) A (subscriptTail value slice (.ref 153) (.int k u)) Q E s := by
  have ht : IsTup s.heap 153 ([.str "" 437, .str "a" 438, .str " b" 439, .str "Ab" 440, .str " " 441, .str "c d" 442] : List Value).toArray := ⟨_, F.keep _ _ (X _ _ pieces_are), rfl, 0, rfl⟩
  have hk : k = 0 ∨ k = 1 ∨ k = 2 ∨ k = 3 ∨ k = 4 ∨ k = 5 := by omega
  rcases hk with rfl | rfl | rfl | rfl | rfl | rfl
  · exact item_tupleT (j := 0) ht (by decide) (by decide) rfl rfl (h _ _ (by decide) (by decide +kernel)) hs
  · exact item_tupleT (j := 1) ht (by decide) (by decide) rfl rfl (h _ _ (by decide) (by decide +kernel)) hs
  · exact item_tupleT (j := 2) ht (by decide) (by decide) rfl rfl (h _ _ (by decide) (by decide +kernel)) hs
  · exact item_tupleT (j := 3) ht (by decide) (by decide) rfl rfl (h _ _ (by decide) (by decide +kernel)) hs
  · exact item_tupleT (j := 4) ht (by decide) (by decide) rfl rfl (h _ _ (by decide) (by decide +kernel)) hs
  · exact item_tupleT (j := 5) ht (by decide) (by decide) rfl rfl (h _ _ (by decide) (by decide +kernel)) hs
/-- what the loop's word says of one place -/
theorem Inv1.item {Lt : List (Addr × Obj)} {c : St} (I : Inv1 Lt c) {k : Int} (h0 : 0 ≤ k) (h1 : k < c.ms.length) : ∃ d ca dx ct ra rt, c.ds[k.toNat]? = some d ∧ c.ms[k.toNat]? = some (Value.ref ca) ∧ c.rs[k.toNat]? = some (Value.ref ra) ∧ (ca, compObj dx d ct) ∈ Lt ∧ (dx, emptyDict) ∈ Lt ∧ (ra, rowObj d rt) ∈ Lt := by
  have hlt : k.toNat < c.ds.length := by rw [← I.lm]; omega
  obtain ⟨ca, dx, ct, ra, rt, h⟩ := I.at' k.toNat _ (List.getElem?_eq_getElem hlt)
  exact ⟨_, ca, dx, ct, ra, rt, List.getElem?_eq_getElem hlt, h⟩
theorem sub_of {h : Heap} {p q : Addr × Obj} {cst tl own : List (Addr × Obj)} {c : St} (_ : Inv1 (cst ++ tl) c) (_ : News h₀ L h (p :: q :: (cst ++ (tl ++ own)))) : ∀ x ∈ cst ++ tl, x ∈ p :: q :: (cst ++ (tl ++ own)) := fun x hx =>
  .tail _ (.tail _ ((List.mem_append.mp hx).elim (fun h => List.mem_append.mpr (.inl h)) fun h => List.mem_append.mpr (.inr (List.mem_append.mpr (.inl h)))))
theorem mems {h : Heap} {p q r' s' : Addr × Obj} {l : List (Addr × Obj)} (_ : News h₀ L h (p :: q :: r' :: s' :: l)) : p ∈ p :: q :: r' :: s' :: l ∧ q ∈ p :: q :: r' :: s' :: l ∧ r' ∈ p :: q :: r' :: s' :: l ∧ s' ∈ p :: q :: r' :: s' :: l :=
  ⟨.head _, .tail _ (.head _), .tail _ (.tail _ (.head _)), .tail _ (.tail _ (.tail _ (.head _)))⟩
theorem ne_cls {h : Heap} {L0 : List (Addr × Obj)} {a b : Addr} {o o' : Obj} (N : News h₀ L h L0) (h1 : (a, o) ∈ L0) (h2 : (b, o') ∈ L0) (hc : o.cls ≠ o'.cls) : a ≠ b := fun e => by
  have e1 := (N _ h1).1
  have e2 := (N _ h2).1
  dsimp only at e1 e2
  rw [e, e2] at e1
  cases e1
  exact hc rfl
theorem ext_mine {h : Heap} {L0 Lt : List (Addr × Obj)} {am ar ad at' ca dx ra : Addr} {am' ar' ad' at'' : Array Value} {mn rn dn tn : Nat} {d : Row} {ct rt : T4} (N : News h₀ L h L0) (hs : ∀ p ∈ Lt, p ∈ L0)
    (m1 : (am, listOf am' mn) ∈ L0) (m2 : (ar, listOf ar' rn) ∈ L0) (m3 : (ad, listOf ad' dn) ∈ L0) (m4 : (at', listOf at'' tn) ∈ L0)
    (h1 : (ca, compObj dx d ct) ∈ Lt) (h2 : (dx, emptyDict) ∈ Lt) (h3 : (ra, rowObj d rt) ∈ Lt) :
    News h₀ L h ((ca, compObj dx d ct) :: (dx, emptyDict) :: (ra, rowObj d rt) :: L0) ∧ (Apart am ca ∧ Apart am dx ∧ Apart am ra) ∧ (Apart ar ca ∧ Apart ar dx ∧ Apart ar ra) ∧ (Apart ad ca ∧ Apart ad dx ∧ Apart ad ra) ∧ (Apart at' ca ∧ Apart at' dx ∧ Apart at' ra) := by
  have c1 : ∀ {a : Addr} {vs : Array Value} {n : Nat}, (a, listOf vs n) ∈ L0 → Apart a ca ∧ Apart a dx ∧ Apart a ra := fun hm =>
    ⟨ne_cls N hm (hs _ h1) (show Value.type "list" ≠ Value.ref 149 from by decide), ne_cls N hm (hs _ h2) (show Value.type "list" ≠ Value.type "dict" from by decide), ne_cls N hm (hs _ h3) (show Value.type "list" ≠ Value.type "tuple" from by decide)⟩
  refine ⟨fun p hp => ?_, c1 m1, c1 m2, c1 m3, c1 m4⟩
  rcases List.mem_cons.mp hp with rfl | hp
  · exact N _ (hs _ h1)
  · rcases List.mem_cons.mp hp with rfl | hp
    · exact N _ (hs _ h2)
    · rcases List.mem_cons.mp hp with rfl | hp
      · exact N _ (hs _ h3)
      · exact N _ hp
theorem append_mine {D : Addr} {us : List Value} {n : Nat} {x : Value} {news' : List (Addr × Obj)} {Q : Value → Shared → Prop} (F : Fr h₀ L s.heap m) (N : News h₀ L s.heap news) (U : Upd D (listOf us.toArray n) (listOf (us ++ [x]).toArray (n + 1)) news news')
    (hsz : us.length ≤ 1000) (h : ∀ h', Fr h₀ L h' m → News h₀ L h' news' → Q .none { s with heap := h' }) : wpAny (model prg w) A (call (.builtin "list.append") [.ref D, x]) Q E s :=
  append_K (its := us.toArray) F N (by rw [List.push_toArray]; exact U) h (by rw [sizeLine_eq, List.size_toArray]; omega)
/-- what stands at the start of a turn of the first loop -/
structure Turn1 (L0 Lt : List (Addr × Obj)) (am ar ad at' : Addr) (c : St) (nd nt n : Nat) : Prop where
  sub : ∀ p ∈ Lt, p ∈ L0
  m1 : (am, listOf c.ms.toArray c.mn) ∈ L0
  m2 : (ar, listOf c.rs.toArray c.rn) ∈ L0
  m3 : (ad, listOf #[] nd) ∈ L0
  m4 : (at', listOf #[] nt) ∈ L0
  inv : Inv1 Lt c
  bd : ∀ d ∈ c.ds, d.x.length ≤ 3 * n ∧ d.y.length ≤ 3 * n
  ok : ∀ d ∈ c.ds, Fine d
theorem Turn1.item {L0 Lt : List (Addr × Obj)} {am ar ad at' : Addr} {c : St} {nd nt n : Nat} {h : Heap} (T : Turn1 L0 Lt am ar ad at' c nd nt n) (N : News h₀ L h L0) {k : Int} (h0 : 0 ≤ k) (h1 : k < c.ms.length) :
    ∃ d ca dx ct ra rt, c.ds[k.toNat]? = some d ∧ c.ms[k.toNat]? = some (Value.ref ca) ∧ c.rs[k.toNat]? = some (Value.ref ra) ∧ (d.x.length ≤ 3 * n ∧ d.y.length ≤ 3 * n) ∧ Fine d ∧
      News h₀ L h ((ca, compObj dx d ct) :: (dx, emptyDict) :: (ra, rowObj d rt) :: L0) ∧ (Apart am ca ∧ Apart am dx ∧ Apart am ra) ∧ (Apart ar ca ∧ Apart ar dx ∧ Apart ar ra) ∧ (Apart ad ca ∧ Apart ad dx ∧ Apart ad ra) ∧ (Apart at' ca ∧ Apart at' dx ∧ Apart at' ra) := by
  obtain ⟨d, ca, dx, ct, ra, rt, hd, hm, hr, e1, e2, e3⟩ := T.inv.item h0 h1
  exact ⟨d, ca, dx, ct, ra, rt, hd, hm, hr, T.bd d (List.mem_of_getElem? hd), T.ok d (List.mem_of_getElem? hd), ext_mine N T.sub T.m1 T.m2 T.m3 T.m4 e1 e2 e3⟩
end
end
end Mine

namespace Mine
section
open PySem PySem.W PySem.W.X PyProof.Rows PySem.Spec PySem.Calls Builtin Builtin.ObjectAttr
section
variable {w : World}
theorem d_ga : findIn (Mine.hd.heap_39 w.params) (.ref 149) "__getattribute__" = some (some (.builtin "tuple.__getattribute__")) := by k_is
theorem d_gx : findIn (Mine.hd.heap_39 w.params) (.ref 149) "__getattr__" = some none := by k_is
theorem d_gi : findIn (Mine.hd.heap_39 w.params) (.ref 149) "__getitem__" = some (some (.builtin "tuple.__getitem__")) := by k_is
theorem d_cls : (clsIn (Mine.hd.heap_39 w.params) 149).isSome = true := by rfl
theorem d_tup : mroIn (Mine.hd.heap_39 w.params) 149 (.type "tuple") = some true := by k_is
theorem d_obj : mroIn (Mine.hd.heap_39 w.params) 149 (.type "object") = some true := by k_is
theorem d_seq : noSeq (Mine.hd.heap_39 w.params) 149 = true := by k_is
theorem entry_gi : entryFor table "tuple.__getitem__" = some Builtin.«tuple.__getitem__» := entryFor_of_tree (by kernel_rfl)
theorem bi_gi : builtinKind "tuple.__getitem__" = some .slot := by decide +kernel
theorem sp_gi : splitId "tuple.__getitem__" = some ("tuple", "__getitem__") := by decide +kernel
theorem comp_inst {h : Heap} {ca dx : Addr} {d : Row} {t : T4} (hc : h.get? ca = some (compObj dx d t)) (hd : h.get? dx = some emptyDict) : InstAt h ca (compObj dx d t) 149 (some emptyDict) := ⟨hc, rfl, rfl, hd⟩
/-- a slot's look at its self, where self is a composition -/
theorem check_own {M : Model} {A : Around} {E : Value → Shared → Prop} {s : Shared} {ca dx : Addr} {d : Row} {t : T4} {id n : String} {rest : List Value} {kw : List (Str × Value)} {Q : Unit → Shared → Prop}
    (X : (Mine.hd.heap_39 w.params).In s.heap) (hc : s.heap.get? ca = some (compObj dx d t)) (hd : s.heap.get? dx = some emptyDict)
    (hk : builtinKind id = some .slot ∨ builtinKind id = some .method) (hsplit : splitId id = some ("tuple", n)) (ha : argsOk id ⟨.ref ca :: rest, kw⟩) (hQ : Q () s) : wpAny M A (checkBuiltinCall id ⟨.ref ca :: rest, kw⟩) Q E s := by
  have L0 := (comp_inst hc hd).type (M := M)
  have L1 := looks_mroIn (M := M) X d_tup
  have L2 : Looks M s.heap (isInstance (.ref ca) (.type "tuple")) true := L0.andThen L1
  rcases hk with h | h <;>
  · simp only [checkBuiltinCall, h, hsplit]
    refine wpAny_bind (L2.at ?_)
    simp only [Bool.not_true, Bool.false_eq_true, if_false]
    cases hsig : Manifest.signature? id with
    | none => exact wpAny_pure hQ
    | some sig =>
      simp only [argsOk, hsig] at ha
      have h2 : Bind.checkArgs id sig ⟨.ref ca :: rest, kw⟩ = pure () := ha
      show wpAny M A (Bind.checkArgs id sig ⟨.ref ca :: rest, kw⟩) Q E s
      rw [h2]; exact wpAny_pure hQ
theorem args_gi (a b : Value) : argsOk "tuple.__getitem__" ⟨[a, b], []⟩ := by unfold argsOk; kernel_rfl
theorem plain_gi : plainId "tuple.__getitem__" = true := by decide +kernel
theorem code_gi {A : Around} {s : Shared} {R : Result → Shared → Prop} {ca dx : Addr} {d : Row} {t : T4} {k : Int} {u : Tok} {j : Nat} {v : Value}
    (X : (Mine.hd.heap_39 w.params).In s.heap) (hc : s.heap.get? ca = some (compObj dx d t)) (hd : s.heap.get? dx = some emptyDict)
    (hlo : -(2 ^ 63) ≤ k) (hhi : k < 2 ^ 63) (hj : seqIndex? k 4 = some j) (hx : (vals d t)[j]? = some v) (h : R (.ok (.ret v)) s) :
    codeAny (model prg w) A (.call (.builtin "tuple.__getitem__") ⟨[.ref ca, .int k u], []⟩) R s := by
  refine codeAny_call_builtin plain_gi entry_gi (check_own (id := "tuple.__getitem__") (n := "__getitem__") (rest := [.int k u]) (kw := []) X hc hd (.inl bi_gi) sp_gi (args_gi (.ref ca) (.int k u)) ?_)
  show wpAny _ _ (Builtin.Tuple.tupleItemsOf (.ref ca) >>= _) _ _ s
  refine wpAny_bind ?_
  unfold Builtin.Tuple.tupleItemsOf
  refine wpAny_bind (wpAny_seqItems hc rfl (wpAny_pure ?_))
  refine wpAny_bind (wpAny_typeOf (typeIs_int s k u) ?_)
  rw [if_neg (by decide)]
  refine wpAny_bind (wpAny_specialOf (T := "int") (typeIs_int s k u) int_index ?_)
  rw [if_neg (by simp)]
  refine wpAny_bind (wpAny_of_eq (a := k) rfl ?_)
  rw [if_neg (by simp only [Bool.or_eq_true, decide_eq_true_eq]; omega)]
  have hj' : seqIndex? k (#[Value.str d.x t.a, Value.str d.y t.b, Value.int d.i t.c, Value.int d.j t.d] : Array Value).size = some j := hj
  simp only [hj', Option.bind_some]
  have hx' : (#[Value.str d.x t.a, Value.str d.y t.b, Value.int d.i t.c, Value.int d.j t.d] : Array Value)[j]? = some v := by simpa using hx
  rw [hx']
  exact wpAny_pure h
end
end
end Mine

namespace Mine
section
open PySem PySem.W PySem.W.X PyProof.Rows PySem.Spec PySem.Calls Builtin Builtin.ObjectAttr
section
variable {w : World} {A : Around} {s : Shared} {ca dx : Addr} {d : Row} {t : T4} {k : Int} {u : Tok} {j : Nat} {v : Value} {Q : Value → Shared → Prop} {E : Value → Shared → Prop}
theorem getItem_comp (X : (Mine.hd.heap_39 w.params).In s.heap) (hc : s.heap.get? ca = some (compObj dx d t)) (hd : s.heap.get? dx = some emptyDict)
    (hlo : -(2 ^ 63) ≤ k) (hhi : k < 2 ^ 63) (hj : seqIndex? k 4 = some j) (hx : (vals d t)[j]? = some v) (h : Q v s) : wpAny (model prg w) A (getItem (.ref ca) (.int k u)) Q E s := by
  have I := comp_inst hc hd
  unfold getItem sequenceKey
  refine wpAny_holding (wpAny_bind (wpAny_bind (I.type.here ?_)))
  refine wpAny_bind ((anyM_none X d_seq).here ?_)
  rw [if_pos (show (!false) = true from rfl)]
  refine wpAny_pure (wpAny_bind ?_)
  unfold callSpecial?
  have LS : Looks (model prg w) s.heap (specialOf (.ref ca) "__getitem__") (some (.builtin "tuple.__getitem__")) := I.type.andThen (looks_findIn X d_gi)
  refine wpAny_bind (LS.here ?_)
  dsimp only
  rw [slot_tuple_getitem.bind]
  refine wpAny_holding (wpAny_bind (wpAny_pure (wpAny_bind (wpAny_call (code_gi X hc hd hlo hhi hj hx ?_)))))
  exact wpAny_pure (wpAny_pure h)
theorem tail_comp {value slice : PySem.Expr} (X : (Mine.hd.heap_39 w.params).In s.heap) (hc : s.heap.get? ca = some (compObj dx d t)) (hd : s.heap.get? dx = some emptyDict)
    (hlo : -(2 ^ 63) ≤ k) (hhi : k < 2 ^ 63) (hj : seqIndex? k 4 = some j) (hx : (vals d t)[j]? = some v) (h : Q v s)
    (hs : subscripted slice false (.ref ca) (.int k u) = operate [.ref ca, .int k u] (getItem (.ref ca) (.int k u)) := by with_unfolding_all rfl) :
    wpAny (model prg w) A (subscriptTail value slice (.ref ca) (.int k u)) Q E s := by
  have I := comp_inst hc hd
  unfold subscriptTail getitemInPython
  refine wpAny_bind (wpAny_bind (wpAny_bind (I.type.here ((looks_findIn X d_gi).here ?_))))
  dsimp only
  refine wpAny_pure ?_
  rw [hs]
  exact wpAny_bind (wpAny_operating (wpAny_mono (getItem_comp (Q := fun v s' => Q v s') X hc hd hlo hhi hj hx h) (fun r s₃ h₃ => wpAny_bind (wpAny_letTemporaryGo (wpAny_pure h₃))) fun _ _ x => x))
end
end
end Mine

namespace Mine
section
open PySem PySem.W PySem.W.X PyProof.Rows PySem.Spec PySem.Calls Builtin Builtin.ObjectAttr
theorem slot_ga : Slot "tuple" "__getattribute__" "tuple.__getattribute__" :=
  .of (owner := "tuple") (n := "__getattribute__") (by rw [typeLookup_type, builtinLookup_eq_fast]; kernel_rfl) (by decide +kernel) (by decide +kernel) (by decide +kernel)
    (by first | exact .inl (by decide +kernel) | exact .inr (by decide +kernel)) (by rw [isSubtype_type]; kernel_rfl)
theorem entry_ga : entryFor table "tuple.__getattribute__" = some Builtin.«object.__getattribute__» := entryFor_alias (id' := "object.__getattribute__") (by kernel_rfl) (by first | rfl | decide +kernel) (by decide +kernel) (by kernel_rfl)
theorem args_ga (a b : Value) : argsOk "tuple.__getattribute__" ⟨[a, b], []⟩ := by unfold argsOk; kernel_rfl
theorem bi_ga : builtinKind "tuple.__getattribute__" = some .slot := by decide +kernel
theorem sp_ga : splitId "tuple.__getattribute__" = some ("tuple", "__getattribute__") := by decide +kernel
section
variable {w : World} {A : Around} {s : Shared} {ca dx : Addr} {d : Row} {t : T4} {Q : Value → Shared → Prop} {E : Value → Shared → Prop}
theorem code_ga {name : Str} {p : Addr} {tk : Tok} {R : Result → Shared → Prop} (X : (Mine.hd.heap_39 w.params).In s.heap) (hc : s.heap.get? ca = some (compObj dx d t)) (hd : s.heap.get? dx = some emptyDict)
    (hf : findObj (Mine.hd.heap_39 w.params) 149 (some emptyDict) name = some (.bind (.ref 43) (.ref p)))
    (h : wpAny (model prg w) A.in1 (call (.ref 43) [.ref p, .ref ca, .ref 149]) (fun v s' => R (.ok (.ret v)) s') (fun e s' => R (.error e) s') s) :
    codeAny (model prg w) A (.call (.builtin "tuple.__getattribute__") ⟨[.ref ca, .str name tk], []⟩) R s := by
  have I := comp_inst hc hd
  refine codeAny_call_builtin slot_ga.plain entry_ga (check_own (id := "tuple.__getattribute__") (n := "__getattribute__") (rest := [.str name tk]) (kw := []) X hc hd (.inl bi_ga) sp_ga (args_ga (.ref ca) (.str name tk)) ?_)
  obtain ⟨hh, g, dr, tt, os⟩ := s
  have L0 := I.type (M := model prg w)
  have L1 := looks_find (M := model prg w) X I hf
  unfold Builtin.«object.__getattribute__»
  iterate 22 lk
  exact wpAny_mono h (fun v s' z => wpAny_pure z) fun _ _ z => z
theorem attr_comp {name : Str} {p : Addr} {expr : Bool} (X : (Mine.hd.heap_39 w.params).In s.heap) (hc : s.heap.get? ca = some (compObj dx d t)) (hd : s.heap.get? dx = some emptyDict)
    (hf : findObj (Mine.hd.heap_39 w.params) 149 (some emptyDict) name = some (.bind (.ref 43) (.ref p)))
    (h : wpAny (model prg w) A.in1 (call (.ref 43) [.ref p, .ref ca, .ref 149]) (fun v s' => wpAny (model prg w) A (handedOut v) Q E s') (fun _ _ => False) { s with toks := s.toks + 1 }) :
    wpAny (model prg w) A (getAttr (.ref ca) name expr) Q E s := by
  have I := comp_inst hc hd
  obtain ⟨hh, g, dr, tt, os⟩ := s
  have L0 := I.type (M := model prg w)
  have L1 := looks_findIn (M := model prg w) X d_ga
  have L2 := looks_findIn (M := model prg w) X d_gx
  unfold getAttr getAttrBy
  refine wpAny_bind (wpAny_mkText (wpAny_holding (wpAny_bind (L0.at (wpAny_bind (L1.at ?_))))))
  show wpAny _ _ (getAttrByItsOwn _ _ _ _ _ _) _ _ _
  unfold getAttrByItsOwn
  refine wpAny_bind ?_
  show wpAny _ _ (typeLookup (.ref 149) "__getattr__") _ _ _
  refine L2.at ?_
  refine wpAny_bind (wpAny_attempt (wpAny_holding ?_))
  unfold callGetattribute
  rw [if_neg (by cases expr <;> decide)]
  unfold boundAndCalled
  rw [slot_ga.bind]
  refine wpAny_bind (wpAny_pure ?_)
  refine wpAny_call (code_ga X hc hd hf ?_)
  exact wpAny_mono h (fun v s' z => z) fun _ _ z => z.elim
end
end
end Mine

namespace Mine
section
open PySem PySem.W PySem.W.X PyProof.Rows PySem.Spec PySem.Calls
/-- what a call that makes nothing to keep hands on -/
def OnVal (s : Shared) (v : Value) (Q : Value → Shared → Prop) : Prop := ∀ h' tk, Kept s.heap h' → Q v ⟨h', #[], s.drawn, tk, s.os⟩
theorem OnVal.use {s : Shared} {v : Value} {Q : Value → Shared → Prop} {h' : Heap} {tk : Nat} {news : List (Addr × Obj)} (h : OnVal s v Q) (D : Mem s.heap h' [] news) : Q v ⟨h', #[], s.drawn, tk, s.os⟩ := h _ _ (mem_keeps D)
theorem OnVal.here {s : Shared} {v : Value} {Q : Value → Shared → Prop} {tk : Nat} (h : OnVal s v Q) : Q v ⟨s.heap, #[], s.drawn, tk, s.os⟩ := h _ _ (fun _ _ e => e)
def OnInt (s : Shared) (n : Int) (Q : Value → Shared → Prop) : Prop := ∀ tk, OnVal s (.int n tk) Q
theorem OnInt.use {s : Shared} {n n' : Int} {tk : Tok} {Q : Value → Shared → Prop} {h' : Heap} {tk' : Nat} {news : List (Addr × Obj)} (h : OnInt s n Q) (e : n' = n) (D : Mem s.heap h' [] news) : Q (.int n' tk) ⟨h', #[], s.drawn, tk', s.os⟩ := by
  subst e
  exact h _ _ _ (mem_keeps D)
theorem OnInt.here {s : Shared} {n n' : Int} {tk : Tok} {Q : Value → Shared → Prop} {tk' : Nat} (h : OnInt s n Q) (e : n' = n) : Q (.int n' tk) ⟨s.heap, #[], s.drawn, tk', s.os⟩ := by
  subst e
  exact h _ _ _ (fun _ _ e => e)
section
variable (w : World) (s : Shared) (X : (Mine.hd.heap_39 w.params).In s.heap) (hg : s.gens = #[]) (Q : Value → Shared → Prop) (E : Value → Shared → Prop)
  (ca dx : Addr) (d : Row) (t : T4) (hc : s.heap.get? ca = some { cls := .ref 149, dict := some dx, data := .seq #[.str d.x t.a, .str d.y t.b, .int d.i t.c, .int d.j t.d] }) (hd : s.heap.get? dx = some { cls := .type "dict", data := .dict #[] 0 })
local macro_rules | `(tactic| x_close) => `(tactic| first | (refine' OnVal.use ?xa ?xb; (case xa => assumption); (case xb => assumption)) | (refine' OnVal.here ?xa; (case xa => assumption)) | (refine' OnInt.use ?xa ?xe ?xb; (case xa => assumption); (case xb => assumption); (case xe => rfl)) | (refine' OnInt.here ?xa ?xe; (case xa => assumption); (case xe => rfl)))
include X hg hc hd in
theorem type_x (hQ : OnVal s (.ref 149) Q) : wpAny (model prg w) AL (PySem.call (.type "type") [.ref ca]) Q E s := by
  x_run
include X hg in
theorem issub_x (hQ : OnVal s (.bool true) Q) : wpAny (model prg w) AL (PySem.call (.builtin "issubclass") [.ref 149, .type "tuple"]) Q E s := by
  x_run
include X hg hc hd in
theorem isinst_x (hQ : OnVal s (.bool true) Q) : wpAny (model prg w) AL (PySem.call (.builtin "isinstance") [.ref ca, .ref 149]) Q E s := by
  x_run
include X hg hc hd in
theorem len_x (hQ : OnInt s 4 Q) : wpAny (model prg w) AL (PySem.call (.builtin "len") [.ref ca]) Q E s := by
  x_run
end
section
variable {w : World} {s : Shared} {A : Around} {Q : Value → Shared → Prop} {E : Value → Shared → Prop} {h₀ : Heap} {L : Addr} {m : Str → Option Value} {news : List (Addr × Obj)} {v : Value}
theorem onVal_K (F : Fr h₀ L s.heap m) (N : News h₀ L s.heap news) (hg : s.gens = #[]) (h : ∀ h' tk, Fr h₀ L h' m → News h₀ L h' news → Q v { s with heap := h', toks := tk }) : OnVal s v Q := by
  intro h' tk k
  rw [gens_eq hg]
  exact h h' tk (Frk F k) (Nk N k)
end
end
end Mine

namespace Mine
section
open PySem PySem.W PySem.W.X PyProof.Rows PySem.Spec PySem.Calls
def GetTells (w : World) (p : Program) (loose : List Str) (mean : ExcName → Option Value) (mg mb : Str → Option Value) (f : Addr) (vf : Row → T4 → Value) : Prop :=
  ∀ (dp un : Nat) (gd : Option (List Code)) (cn : Str) (cs : Scope) (a : Addr) (ccd : Value) (cl : List (Str × Addr)) (outer : List Env) (A₀ : Around) (base h₀ : Heap) (L : Addr) (m : Str → Option Value) (news : List (Addr × Obj)) (s : Shared) (ca dx : Addr) (d : Row) (t : T4)
    (Q : Value → Shared → Prop) (E : Value → Shared → Prop),
    Below A₀ base outer h₀ → Fr h₀ L s.heap m → (Mine.hd.heap_39 w.params).In h₀ → News h₀ L s.heap ((ca, compObj dx d t) :: (dx, emptyDict) :: news) → Top p loose mean mg mb h₀ → cs.kind = .function → dp + 1 < recursionLimit → un + 20 < cLine → s.gens = #[] → dp ≤ 700 → un ≤ 900 →
    (∀ h' tk', Fr h₀ L h' m → News h₀ L h' ((ca, compObj dx d t) :: (dx, emptyDict) :: news) → Q (vf d t) { s with heap := h', toks := tk' }) →
    wpAny (model prg w) (ktrTop dp un gd cn cs L a ccd cl outer) (call (.ref 43) [.ref f, .ref ca, .ref 149]) Q E s
theorem type_K {w : World} {s : Shared} {A : Around} {Q : Value → Shared → Prop} {E : Value → Shared → Prop} {h₀ : Heap} {L : Addr} {m : Str → Option Value} {news : List (Addr × Obj)} {ca dx : Addr} {d : Row} {t : T4}
    (hA : A.handled = none) (hdp : A.depth ≤ 800) (hun : A.units ≤ 1000) (X₀ : (Mine.hd.heap_39 w.params).In h₀) (F : Fr h₀ L s.heap m) (N : News h₀ L s.heap news) (hg : s.gens = #[]) (h1 : (ca, compObj dx d t) ∈ news) (h2 : (dx, emptyDict) ∈ news)
    (h : ∀ h' tk, Fr h₀ L h' m → News h₀ L h' news → Q (.ref 149) { s with heap := h', toks := tk }) : wpAny (model prg w) A (PySem.call (.type "type") [.ref ca]) Q E s :=
  of_AL hA hdp hun (type_x w s (Frag.In.keeps X₀ F.keep) hg Q E ca dx d t (N _ h1).1 (N _ h2).1 (onVal_K F N hg h))
theorem issub_K {w : World} {s : Shared} {A : Around} {Q : Value → Shared → Prop} {E : Value → Shared → Prop} {h₀ : Heap} {L : Addr} {m : Str → Option Value} {news : List (Addr × Obj)}
    (hA : A.handled = none) (hdp : A.depth ≤ 800) (hun : A.units ≤ 1000) (X₀ : (Mine.hd.heap_39 w.params).In h₀) (F : Fr h₀ L s.heap m) (N : News h₀ L s.heap news) (hg : s.gens = #[])
    (h : ∀ h' tk, Fr h₀ L h' m → News h₀ L h' news → Q (.bool true) { s with heap := h', toks := tk }) : wpAny (model prg w) A (PySem.call (.builtin "issubclass") [.ref 149, .type "tuple"]) Q E s :=
  of_AL hA hdp hun (issub_x w s (Frag.In.keeps X₀ F.keep) hg Q E (onVal_K F N hg h))
local macro_rules | `(tactic| walk_at "call type:type") => `(tactic| (k_here; (with_reducible show wpAny _ _ (call (Value.type "type") [Value.ref _]) _ _ _); k_dflt (refine' type_K ?k1 ?k2 ?k3 ?k4 ?k5 ?k6 ?k7 ?k8 ?k9 ?_; (case k1 => rfl); (case k2 => ((simp only [depth_in1, depth_deeper, depth_caller]); (try dsimp only [ktrTop]); omega)); (case k3 => ((simp only [units_in1, units_deeper, units_caller]); (try dsimp only [ktrTop]); omega)); (case k4 => k_asm); (case k5 => k_asm); (case k6 => k_asm); (case k7 => k_asm); (case k8 => k_memK); (case k9 => k_memK); k_whole); intro h' tk' F' N'; (try k_sweep)))
local macro_rules | `(tactic| walk_at "call builtin:issubclass") => `(tactic| (k_here; k_dflt (refine' issub_K ?k1 ?k2 ?k3 ?k4 ?k5 ?k6 ?k7 ?_; (case k1 => rfl); (case k2 => ((simp only [depth_in1, depth_deeper, depth_caller]); (try dsimp only [ktrTop]); omega)); (case k3 => ((simp only [units_in1, units_deeper, units_caller]); (try dsimp only [ktrTop]); omega)); (case k4 => k_asm); (case k5 => k_asm); (case k6 => k_asm); (case k7 => k_asm); k_whole); intro h' tk' F' N'; (try k_sweep)))
theorem fc_gi {w : World} : findCls (Mine.hd.heap_39 w.params) (.type "tuple") (.type "type") "__getitem__" = some (.val (.builtin "tuple.__getitem__")) := by k_is
theorem meta_tuple : typeOf (.type "tuple") = pure (.type "type") := by kernel_rfl
theorem st_tuple : Manifest.isStub "tuple" = false := by decide +kernel
theorem hn_gi : handedIn (.builtin "tuple.__getitem__") = true := by decide +kernel
theorem tgi_method {w : World} {s : Shared} {A : Around} {E : Value → Shared → Prop} {h₀ : Heap} {L : Addr} {m : Str → Option Value} {pl : Sem Bool} {Q : Value × List Value → Shared → Prop} (F : Fr h₀ L s.heap m) (X : (Mine.hd.heap_39 w.params).In h₀)
    (h : Q (.builtin "tuple.__getitem__", []) { s with toks := s.toks + 1 }) : wpAny (model prg w) A (getMethod (.type "tuple") "__getitem__" pl) Q E s := by
  refine method_type (K := Mine.hd.heap_39 w.params) (T := "tuple") (name := "__getitem__") (v := .builtin "tuple.__getitem__") F X ?_ ?_ ?_ ?_ h
  · exact meta_tuple
  · exact st_tuple
  · exact fc_gi
  · exact hn_gi
theorem gi_K {w : World} {s : Shared} {A : Around} {Q : Value → Shared → Prop} {E : Value → Shared → Prop} {h₀ : Heap} {L : Addr} {m : Str → Option Value} {news : List (Addr × Obj)} {ca dx : Addr} {d : Row} {t : T4} {k : Int} {u : Tok} {j : Nat} {v : Value}
    (X₀ : (Mine.hd.heap_39 w.params).In h₀) (F : Fr h₀ L s.heap m) (N : News h₀ L s.heap news) (h1 : (ca, compObj dx d t) ∈ news) (h2 : (dx, emptyDict) ∈ news) (hlo : -(2 ^ 63) ≤ k) (hhi : k < 2 ^ 63) (hj : seqIndex? k 4 = some j) (hx : (vals d t)[j]? = some v)
    (h : Q v s) : wpAny (model prg w) A (PySem.call (.builtin "tuple.__getitem__") [.ref ca, .int k u]) Q E s :=
  wpAny_call (code_gi (Frag.In.keeps X₀ F.keep) (N _ h1).1 (N _ h2).1 hlo hhi hj hx h)
local macro_rules | `(tactic| walk_at "getMethod type:tuple") => `(tactic| (k_here; k_dflt (refine' tgi_method ?F ?X ?_; (case F => k_asm); (case X => k_asm); k_whole)))
local macro_rules | `(tactic| walk_at "call builtin:tuple.__getitem__") => `(tactic| (k_here; k_dflt (refine' gi_K ?k1 ?k2 ?k3 ?k4 ?k5 ?k6 ?k7 ?k8 ?k9 ?_; (case k1 => k_asm); (case k2 => k_asm); (case k3 => k_asm); (case k4 => k_memK); (case k5 => k_memK); (case k6 => decide); (case k7 => decide); (case k8 => rfl); (case k9 => rfl); k_whole)))
theorem get_tells0 (w : World) (mean : ExcName → Option Value) (mg mb : Str → Option Value) : GetTells w hd.view_39 (looseW hd.view_39 [Str.ofString "_tuplegetter", Str.ofString "Composition"]) mean mg mb 135 (fun d t => .str d.x t.a) := by
  unfold GetTells
  intro dp un gd cn cs a ccd cl outer A₀ base h₀ L m news s ca dx d t Q E B F X N T hk hd hu hg hdp hun hret
  refine wpAny_call ?_
  k_dflt (refine' code_def ?k1 ?k2 ?k3 ?k4 ?k5 ?kA ?kF ?kK ?k6 ?k7 ?k8 ?k9 ?kB ?_ ?c2 ?c3 ?c4 ?c5; (case kA => exact rfl); (case kF => exact rfl); (case kK => assumption); (case k1 => k_asm); (case k2 => k_asm); (case k3 => k_asm); (case k4 => k_asm); (case k5 => k_asm); (case k6 => k_is); (case k7 => k_is); (case k8 => ktr_room); (case k9 => exact binds_K (by k_in) rfl (by k_is) rfl rfl rfl); (case c5 => decide); (case kB => exact locs rfl); (case c2 => exact rfl); (case c3 => exact rfl); (case c4 => exact rfl); k_whole; intro g' L' h' FG' F' N' B' X' T'; (try dsimp only); (try k_lift B'); (try k_fold))
  k_steps
  all_goals exact hret _ _ (by k_asm) (by k_asm)
theorem get_tells1 (w : World) (mean : ExcName → Option Value) (mg mb : Str → Option Value) : GetTells w hd.view_39 (looseW hd.view_39 [Str.ofString "_tuplegetter", Str.ofString "Composition"]) mean mg mb 138 (fun d t => .str d.y t.b) := by
  unfold GetTells
  intro dp un gd cn cs a ccd cl outer A₀ base h₀ L m news s ca dx d t Q E B F X N T hk hd hu hg hdp hun hret
  refine wpAny_call ?_
  k_dflt (refine' code_def ?k1 ?k2 ?k3 ?k4 ?k5 ?kA ?kF ?kK ?k6 ?k7 ?k8 ?k9 ?kB ?_ ?c2 ?c3 ?c4 ?c5; (case kA => exact rfl); (case kF => exact rfl); (case kK => assumption); (case k1 => k_asm); (case k2 => k_asm); (case k3 => k_asm); (case k4 => k_asm); (case k5 => k_asm); (case k6 => k_is); (case k7 => k_is); (case k8 => ktr_room); (case k9 => exact binds_K (by k_in) rfl (by k_is) rfl rfl rfl); (case c5 => decide); (case kB => exact locs rfl); (case c2 => exact rfl); (case c3 => exact rfl); (case c4 => exact rfl); k_whole; intro g' L' h' FG' F' N' B' X' T'; (try dsimp only); (try k_lift B'); (try k_fold))
  k_steps
  all_goals exact hret _ _ (by k_asm) (by k_asm)
theorem get_tells2 (w : World) (mean : ExcName → Option Value) (mg mb : Str → Option Value) : GetTells w hd.view_39 (looseW hd.view_39 [Str.ofString "_tuplegetter", Str.ofString "Composition"]) mean mg mb 141 (fun d t => .int d.i t.c) := by
  unfold GetTells
  intro dp un gd cn cs a ccd cl outer A₀ base h₀ L m news s ca dx d t Q E B F X N T hk hd hu hg hdp hun hret
  refine wpAny_call ?_
  k_dflt (refine' code_def ?k1 ?k2 ?k3 ?k4 ?k5 ?kA ?kF ?kK ?k6 ?k7 ?k8 ?k9 ?kB ?_ ?c2 ?c3 ?c4 ?c5; (case kA => exact rfl); (case kF => exact rfl); (case kK => assumption); (case k1 => k_asm); (case k2 => k_asm); (case k3 => k_asm); (case k4 => k_asm); (case k5 => k_asm); (case k6 => k_is); (case k7 => k_is); (case k8 => ktr_room); (case k9 => exact binds_K (by k_in) rfl (by k_is) rfl rfl rfl); (case c5 => decide); (case kB => exact locs rfl); (case c2 => exact rfl); (case c3 => exact rfl); (case c4 => exact rfl); k_whole; intro g' L' h' FG' F' N' B' X' T'; (try dsimp only); (try k_lift B'); (try k_fold))
  k_steps
  all_goals exact hret _ _ (by k_asm) (by k_asm)
theorem get_tells3 (w : World) (mean : ExcName → Option Value) (mg mb : Str → Option Value) : GetTells w hd.view_39 (looseW hd.view_39 [Str.ofString "_tuplegetter", Str.ofString "Composition"]) mean mg mb 144 (fun d t => .int d.j t.d) := by
  unfold GetTells
  intro dp un gd cn cs a ccd cl outer A₀ base h₀ L m news s ca dx d t Q E B F X N T hk hd hu hg hdp hun hret
  refine wpAny_call ?_
  k_dflt (refine' code_def ?k1 ?k2 ?k3 ?k4 ?k5 ?kA ?kF ?kK ?k6 ?k7 ?k8 ?k9 ?kB ?_ ?c2 ?c3 ?c4 ?c5; (case kA => exact rfl); (case kF => exact rfl); (case kK => assumption); (case k1 => k_asm); (case k2 => k_asm); (case k3 => k_asm); (case k4 => k_asm); (case k5 => k_asm); (case k6 => k_is); (case k7 => k_is); (case k8 => ktr_room); (case k9 => exact binds_K (by k_in) rfl (by k_is) rfl rfl rfl); (case c5 => decide); (case kB => exact locs rfl); (case c2 => exact rfl); (case c3 => exact rfl); (case c4 => exact rfl); k_whole; intro g' L' h' FG' F' N' B' X' T'; (try dsimp only); (try k_lift B'); (try k_fold))
  k_steps
  all_goals exact hret _ _ (by k_asm) (by k_asm)
section
variable {w : World}
theorem d_cls1 : (clsIn (Mine.hd.heap_39 w.params) 149).isSome = true := by rfl
theorem d_f0 : findIn (Mine.hd.heap_39 w.params) (.ref 149) "segmented_string" = some (some (.ref 135)) := by k_is
theorem d_f1 : findIn (Mine.hd.heap_39 w.params) (.ref 149) "corrected_string" = some (some (.ref 138)) := by k_is
theorem d_f2 : findIn (Mine.hd.heap_39 w.params) (.ref 149) "distance_sum" = some (some (.ref 141)) := by k_is
theorem d_f3 : findIn (Mine.hd.heap_39 w.params) (.ref 149) "log_prob_sum" = some (some (.ref 144)) := by k_is
theorem d_g0 : specialIn (Mine.hd.heap_39 w.params) (.ref 135) "__get__" = some (some (.ref 43)) := by k_is
theorem d_g1 : specialIn (Mine.hd.heap_39 w.params) (.ref 138) "__get__" = some (some (.ref 43)) := by k_is
theorem d_g2 : specialIn (Mine.hd.heap_39 w.params) (.ref 141) "__get__" = some (some (.ref 43)) := by k_is
theorem d_g3 : specialIn (Mine.hd.heap_39 w.params) (.ref 144) "__get__" = some (some (.ref 43)) := by k_is
theorem d_t0 : takesIn (Mine.hd.heap_39 w.params) (.ref 135) = some true := by k_is
theorem d_t1 : takesIn (Mine.hd.heap_39 w.params) (.ref 138) = some true := by k_is
theorem d_t2 : takesIn (Mine.hd.heap_39 w.params) (.ref 141) = some true := by k_is
theorem d_t3 : takesIn (Mine.hd.heap_39 w.params) (.ref 144) = some true := by k_is
theorem attr_of {name : Str} {f : Addr} {vf : Row → T4 → Value} {expr : Bool} {mean : ExcName → Option Value} {mg mb : Str → Option Value} {dp un : Nat} {gd : Option (List Code)} {cn : Str} {cs : Scope} {a : Addr} {ccd : Value} {cl : List (Str × Addr)} {outer : List Env} {A₀ : Around} {base h₀ : Heap} {L : Addr} {m : Str → Option Value} {news : List (Addr × Obj)} {s : Shared} {ca dx : Addr} {d : Row} {t : T4}
    {Q : Value → Shared → Prop} {E : Value → Shared → Prop}
    (hf : findObj (Mine.hd.heap_39 w.params) 149 (some emptyDict) name = some (.bind (.ref 43) (.ref f)))
    (G : GetTells w hd.view_39 (looseW hd.view_39 [Str.ofString "_tuplegetter", Str.ofString "Composition"]) mean mg mb f vf) (hv : ∀ d t, handedIn (vf d t) = true)
    (B : Below A₀ base outer h₀) (F : Fr h₀ L s.heap m) (X : (Mine.hd.heap_39 w.params).In h₀) (N : News h₀ L s.heap news) (h1 : (ca, compObj dx d t) ∈ news) (h2 : (dx, emptyDict) ∈ news)
    (T : Top hd.view_39 (looseW hd.view_39 [Str.ofString "_tuplegetter", Str.ofString "Composition"]) mean mg mb h₀) (hk : cs.kind = .function) (hdp : dp ≤ 700) (hun : un ≤ 800) (hg : s.gens = #[])
    (h : ∀ h' tk, Fr h₀ L h' m → News h₀ L h' news → Q (vf d t) { s with heap := h', toks := tk }) :
    wpAny (model prg w) (ktrTop dp un gd cn cs L a ccd cl outer) (getAttr (.ref ca) name expr) Q E s := by
  refine attr_comp (Frag.In.keeps X F.keep) (N _ h1).1 (N _ h2).1 hf ?_
  have hN : News h₀ L s.heap ((ca, compObj dx d t) :: (dx, emptyDict) :: news) := fun p hp => by
    rcases List.mem_cons.mp hp with rfl | hp
    · exact N _ h1
    · rcases List.mem_cons.mp hp with rfl | hp
      · exact N _ h2
      · exact N _ hp
  refine G dp (un + 1) gd cn cs a ccd cl outer A₀ base h₀ L m news { s with toks := s.toks + 1 } ca dx d t _ _ B F X hN T hk (by simp only [recursionLimit]; omega) (by have := cLine_is; omega) hg hdp (by omega) fun h' tk' F' N' => ?_
  rw [handedOut_of (hv d t)]
  exact wpAny_pure (h h' tk' F' fun p hp => N' p (.tail _ (.tail _ hp)))
end
end
end Mine

namespace Mine
section
open PySem PySem.W PySem.W.X PyProof.Rows PySem.Spec PySem.Calls
section
variable {w : World} {s : Shared} {A : Around} {Q : Value → Shared → Prop} {E : Value → Shared → Prop} {h₀ : Heap} {L : Addr} {m : Str → Option Value} {news : List (Addr × Obj)}
theorem comp_new_K {x y : Str} {a b : Int} {t1 t2 t3 t4 : Tok} (hA : A.handled = none) (hd : A.depth ≤ 800) (hu : A.units ≤ 1000) (X₀ : (Mine.hd.heap_39 w.params).In h₀) (F : Fr h₀ L s.heap m) (N : News h₀ L s.heap news) (hg : s.gens = #[])
    (h : ∀ ad dx h' tk, Fr h₀ L h' m → News h₀ L h' ((ad, compObj dx ⟨x, y, a, b⟩ ⟨t1, t2, t3, t4⟩) :: (dx, emptyDict) :: news) → (∀ p ∈ news, Apart p.1 ad) → (∀ p ∈ news, Apart p.1 dx) → dx < ad → Q (.ref ad) { s with heap := h', toks := tk }) :
    wpAny (model prg w) A (PySem.call (.ref 149) [.str x t1, .str y t2, .int a t3, .int b t4]) Q E s := of_AL hA hd hu (comp_new w s (Frag.In.keeps X₀ F.keep) hg Q E x y a b t1 t2 t3 t4 (onNew_K F N hg h))
theorem fo0 : findObj (Mine.hd.heap_39 w.params) 149 (some emptyDict) "segmented_string" = some (.bind (.ref 43) (.ref 135)) := findObj_data d_cls1 d_f0 d_g0 d_t0
theorem fo1 : findObj (Mine.hd.heap_39 w.params) 149 (some emptyDict) "corrected_string" = some (.bind (.ref 43) (.ref 138)) := findObj_data d_cls1 d_f1 d_g1 d_t1
theorem fo2 : findObj (Mine.hd.heap_39 w.params) 149 (some emptyDict) "distance_sum" = some (.bind (.ref 43) (.ref 141)) := findObj_data d_cls1 d_f2 d_g2 d_t2
theorem fo3 : findObj (Mine.hd.heap_39 w.params) 149 (some emptyDict) "log_prob_sum" = some (.bind (.ref 43) (.ref 144)) := findObj_data d_cls1 d_f3 d_g3 d_t3
end
end
end Mine

namespace Mine
section
open PySem PySem.W PySem.W.X PyProof.Rows PySem.Spec PySem.Calls
theorem allNe_mem {d : Addr} {l : List (Addr × Obj)} : AllNe d l → ∀ p ∈ l, p.1 ≠ d := by
  induction l with
  | nil => intro _ p hp; cases hp
  | cons q r ih =>
    intro h p hp
    cases hp with
    | head => exact h.1
    | tail _ hp => exact ih h.2 p hp
theorem allLt_mem {d : Addr} {l : List (Addr × Obj)} : AllLt d l → ∀ p ∈ l, p.1 ≠ d := by
  induction l with
  | nil => intro _ p hp; cases hp
  | cons q r ih =>
    intro h p hp
    cases hp with
    | head => exact Nat.ne_of_lt h.1
    | tail _ hp => exact ih h.2 p hp
theorem skip8 {α : Type} {p x1 x2 x3 x4 x5 x6 x7 x8 : α} {l : List α} (h : p ∈ l) : p ∈ x1 :: x2 :: x3 :: x4 :: x5 :: x6 :: x7 :: x8 :: l := by
  iterate 8 (refine List.mem_cons_of_mem _ ?_)
  exact h
theorem all3 {α : Type} {P : α → Prop} {x1 x2 x3 : α} (h1 : P x1) (h2 : P x2) (h3 : P x3) : ∀ q ∈ [x1, x2, x3], P q := by
  intro q hq
  cases hq with
  | head => exact h1
  | tail _ hq => cases hq with
    | head => exact h2
    | tail _ hq => cases hq with
      | head => exact h3
      | tail _ hq => cases hq
theorem all7 {P : Addr → Prop} {x1 x2 x3 x4 x5 x6 x7 : Addr} (h1 : P x1) (h2 : P x2) (h3 : P x3) (h4 : P x4) (h5 : P x5) (h6 : P x6) (h7 : P x7) : ∀ q ∈ [x1, x2, x3, x4, x5, x6, x7], P q := by
  intro q hq
  cases hq with
  | head => exact h1
  | tail _ hq => cases hq with
    | head => exact h2
    | tail _ hq => cases hq with
      | head => exact h3
      | tail _ hq => cases hq with
        | head => exact h4
        | tail _ hq => exact all3 h5 h6 h7 _ hq
theorem inv1_snoc {Lt Lt' : List (Addr × Obj)} {ms rs : List Value} {mn rn mn' rn' : Nat} {ds : List Row} {a dx D : Addr} {r : Row} {t t2 : T4} (I : Inv1 Lt ⟨ms, mn, rs, rn, ds⟩) (hs : ∀ p ∈ Lt, p ∈ Lt')
    (h1 : (a, compObj dx r t) ∈ Lt') (h2 : (dx, emptyDict) ∈ Lt') (h3 : (D, rowObj r t2) ∈ Lt') : Inv1 Lt' ⟨ms ++ [Value.ref a], mn', rs ++ [Value.ref D], rn', ds ++ [r]⟩ := by
  have lm : ms.length = ds.length := I.lm
  have lr : rs.length = ds.length := I.lr
  refine ⟨by simp [lm], by simp [lr], fun i d hd => ?_⟩
  dsimp only at hd ⊢
  by_cases hi : i < ds.length
  · rw [List.getElem?_append_left hi] at hd
    obtain ⟨ca, dx', ct, ra, rt, e1, e2, e3, e4, e5⟩ := I.at' i d hd
    exact ⟨ca, dx', ct, ra, rt, by rw [List.getElem?_append_left (by omega)]; exact e1, by rw [List.getElem?_append_left (by omega)]; exact e2, hs _ e3, hs _ e4, hs _ e5⟩
  · have hi' : i = ds.length := by
      have := (List.getElem?_eq_some_iff.mp hd).1
      rw [List.length_append, List.length_singleton] at this
      omega
    subst hi'
    have hr : d = r := by simpa using hd.symm
    subst hr
    exact ⟨a, dx, t, D, t2, by rw [← lm]; simp, by rw [← lr]; simp, h1, h2, h3⟩
theorem p1_snoc {pre : List Int} {k : Int} {ms rs : List Value} {mn rn : Nat} {ms' rs' : List Value} {mn' rn' : Nat} {ds : List Row} {r : Row} (hl : ds.length = pre.length + 1) (hb : ∀ d ∈ ds, d.x.length ≤ 3 * pre.length ∧ d.y.length ≤ 3 * pre.length) (ho : ∀ d ∈ ds, Fine d) (hx : r.x.length ≤ 3 * pre.length + 3) (hy : r.y.length ≤ 3 * pre.length + 3) (hf : Fine r) :
    P1 (pre ++ [k]) ⟨ms', mn', rs', rn', ds ++ [r]⟩ := by
  refine ⟨by simp [hl], fun d hd => ?_, fun d hd => ?_⟩
  · rw [List.length_append, List.length_singleton]
    rcases List.mem_append.mp hd with hd | hd
    · have := hb d hd; omega
    · rw [List.mem_singleton.mp hd]; omega
  · rcases List.mem_append.mp hd with hd | hd
    · exact ho d hd
    · rw [List.mem_singleton.mp hd]; exact hf
section
variable {h₀ : Heap} {x : Str} {m₀ m' : Str → Option Value} {oq1 oq2 oc or' od : Obj} {q1 q2 cq dq rq ad at' ar ra am ca dx0 a dx D : Addr} {nd nt rn mn : Nat} {b1 b2 b3 b4 c1 c2 c3 c4 : Tok} {pre : List Int} {k : Int} {ms rs : List Value} {ds : List Row} {r : Row} {t : T4} {g1 g2 g3 g4 : Tok} {tl own L0 : List (Addr × Obj)} {L : Addr} {h' : Heap} {tk : Nat} {s₁ : Shared}
theorem end1 (hsep : KdSep own tl [am, ar, ad, at', ra, ca, dx0]) (T1 : Turn1 L0 ([(ad, listOf #[] nd), (at', listOf #[] nt), (ra, rowObj row0 ⟨b1, b2, b3, b4⟩), (ca, compObj dx0 row0 ⟨c1, c2, c3, c4⟩), (dx0, emptyDict)] ++ tl) am ar ad at' ⟨ms, mn, rs, rn, ds⟩ nd nt pre.length)
    (plen : ds.length = pre.length + 1) (F : Fr h₀ L h' m')
    (N : News h₀ L h' ((a, compObj dx r t) :: (dx, emptyDict) :: (q1, oq1) :: (D, rowObj r ⟨g1, g2, g3, g4⟩) :: (q2, oq2) :: (cq, oc) :: (dq, od) :: (rq, or') :: (am, listOf (ms ++ [Value.ref a]).toArray (mn + 1)) :: (ar, listOf (rs ++ [Value.ref D]).toArray (rn + 1)) ::
      ([(ad, listOf #[] nd), (at', listOf #[] nt), (ra, rowObj row0 ⟨b1, b2, b3, b4⟩), (ca, compObj dx0 row0 ⟨c1, c2, c3, c4⟩), (dx0, emptyDict)] ++ (tl ++ own))))
    (hx : r.x.length ≤ 3 * pre.length + 3) (hy : r.y.length ≤ 3 * pre.length + 3) (fx : PyData.strOk r.x = true) (fy : PyData.strOk r.y = true)
    (na : AllNe a (tl ++ own)) (nx : AllNe dx (tl ++ own)) (nD : AllLt D (tl ++ own))
    (a1 : Apart am a) (a2 : Apart ar a) (a3 : Apart ad a) (a4 : Apart at' a) (a5 : Apart ra a) (a6 : Apart ca a) (a7 : Apart dx0 a)
    (x1 : Apart am dx) (x2 : Apart ar dx) (x3 : Apart ad dx) (x4 : Apart at' dx) (x5 : Apart ra dx) (x6 : Apart ca dx) (x7 : Apart dx0 dx)
    (d1 : am < D) (d2 : ar < D) (d3 : ad < D) (d4 : at' < D) (d5 : ra < D) (d6 : ca < D) (d7 : dx0 < D)
    (hr : ∀ z, z ≠ x → (∀ p ∈ ([] : List (Str × Value)), z ≠ p.1) → names1.contains z = false → m' z = m₀ z) :
    InvEndG h₀ L (KdS (Led1 am ar) [(ad, listOf #[] nd), (at', listOf #[] nt), (ra, rowObj row0 ⟨b1, b2, b3, b4⟩), (ca, compObj dx0 row0 ⟨c1, c2, c3, c4⟩), (dx0, emptyDict)] (fun _ => []) Inv1 x names1 m₀ P1 [am, ar, ad, at', ra, ca, dx0] (pre ++ [k])) own s₁ { s₁ with heap := h', toks := tk } := by
  refine kd_end (c := ⟨ms ++ [Value.ref a], mn + 1, rs ++ [Value.ref D], rn + 1, ds ++ [r]⟩) [(a, compObj dx r t), (dx, emptyDict), (D, rowObj r ⟨g1, g2, g3, g4⟩)] hsep F N ?_ ?_ rfl ?_ ?_ (fun _ hp => (nomatch hp)) hr ?_ ?_
  · intro p hp
    rcases List.mem_append.mp hp with h | h
    · rcases List.mem_cons.mp h with h | h
      · exact skip8 (h ▸ .head _)
      · exact skip8 (.tail _ (List.mem_singleton.mp h ▸ .head _))
    · rcases List.mem_append.mp h with h | h
      · exact skip8 (.tail _ (.tail _ (List.mem_append.mpr (.inl h))))
      · rcases List.mem_append.mp h with h | h
        · rcases List.mem_cons.mp h with h | h
          · exact h ▸ .head _
          · rcases List.mem_cons.mp h with h | h
            · exact .tail _ (h ▸ .head _)
            · exact .tail _ (.tail _ (.tail _ (List.mem_singleton.mp h ▸ .head _)))
        · exact skip8 (.tail _ (.tail _ (List.mem_append.mpr (.inr (List.mem_append.mpr (.inl h))))))
  · intro p hp
    exact skip8 (.tail _ (.tail _ (List.mem_append.mpr (.inr (List.mem_append.mpr (.inr hp))))))
  · exact all3 (P := fun (q : Addr × Obj) => ∀ b ∈ [am, ar, ad, at', ra, ca, dx0], b ≠ q.1) (all7 (P := fun b => b ≠ a) a1 a2 a3 a4 a5 a6 a7) (all7 (P := fun b => b ≠ dx) x1 x2 x3 x4 x5 x6 x7)
      (all7 (P := fun b => b ≠ D) (Nat.ne_of_lt d1) (Nat.ne_of_lt d2) (Nat.ne_of_lt d3) (Nat.ne_of_lt d4) (Nat.ne_of_lt d5) (Nat.ne_of_lt d6) (Nat.ne_of_lt d7))
  · exact all3 (P := fun (q : Addr × Obj) => ∀ p ∈ own, p.1 ≠ q.1) (fun p hp => allNe_mem na p (List.mem_append.mpr (.inr hp))) (fun p hp => allNe_mem nx p (List.mem_append.mpr (.inr hp))) (fun p hp => allLt_mem nD p (List.mem_append.mpr (.inr hp)))
  · exact inv1_snoc T1.inv kd_sub (kd_new (.head _)) (kd_new (.tail _ (.head _))) (kd_new (.tail _ (.tail _ (.head _))))
  · exact p1_snoc (ms := ms) (rs := rs) (mn := mn) (rn := rn) plen T1.bd T1.ok hx hy ⟨fx, fy⟩
end
end
end Mine

namespace Mine
section
open PySem PySem.W PySem.W.X PyProof.Rows PySem.Spec PySem.Calls
def OnRow (s : Shared) (r : Row) (t : T4) (Q : Value → Shared → Prop) : Prop :=
  ∀ ad h' tk, Kept s.heap h' → h'.get? ad = some { cls := .type "tuple", data := .seq #[.str r.x t.a, .str r.y t.b, .int r.i t.c, .int r.j t.d] } → s.heap.get? ad = none → Q (.ref ad) ⟨h', #[], s.drawn, tk, s.os⟩
theorem OnRow.use {s : Shared} {r : Row} {t : T4} {Q : Value → Shared → Prop} {a : Addr} {h' : Heap} {tk : Nat} {news : List (Addr × Obj)} (h : OnRow s r t Q) (D : Mem s.heap h' [] ((a, { cls := .type "tuple", data := .seq #[.str r.x t.a, .str r.y t.b, .int r.i t.c, .int r.j t.d] }) :: news)) : Q (.ref a) ⟨h', #[], s.drawn, tk, s.os⟩ :=
  h _ _ _ (mem_keeps D) (mem_new D).1 (mem_new D).2
section
variable (w : World) (s : Shared) (X : (Mine.hd.heap_39 w.params).In s.heap) (hg : s.gens = #[]) (Q : Value → Shared → Prop) (E : Value → Shared → Prop)
  (ca dx : Addr) (d : Row) (t : T4) (hc : s.heap.get? ca = some { cls := .ref 149, dict := some dx, data := .seq #[.str d.x t.a, .str d.y t.b, .int d.i t.c, .int d.j t.d] }) (hd : s.heap.get? dx = some { cls := .type "dict", data := .dict #[] 0 })
local macro_rules | `(tactic| x_close) => `(tactic| first | (refine' OnRow.use ?xa ?xb; (case xa => assumption); (case xb => assumption)))
include X hg hc hd in
theorem tup_x (hQ : OnRow s d t Q) : wpAny (model prg w) AL (PySem.call (.type "tuple") [.ref ca]) Q E s := by
  x_run
end
end
end Mine

namespace Mine
section
open PySem PySem.W PySem.W.X PyProof.Rows PySem.Spec PySem.Calls
/-- what an end of a comparison still owes -/
structure Owes (P : Prop) : Prop where
  it : P
theorem owesT {b : Bool} {s : Shared} {Q : Value → Shared → Prop} {tk : Nat} {sp : Bool} (h : OnVal s (.bool sp) Q) (e : b = sp) : Q (.bool b) ⟨s.heap, #[], s.drawn, tk, s.os⟩ := by
  subst e
  exact h.here
theorem owesU {b : Bool} {s : Shared} {Q : Value → Shared → Prop} {h' : Heap} {tk : Nat} {sp : Bool} {news : List (Addr × Obj)} (h : OnVal s (.bool sp) Q) (e : b = sp) (D : Mem s.heap h' [] news) : Q (.bool b) ⟨h', #[], s.drawn, tk, s.os⟩ := by
  subst e
  exact h.use D
theorem beq_abs (l : List Nat) {P : Prop} (h : List.beq l l = false) : P := by
  have e : (l == l) = true := by simp
  exact absurd (e.symm.trans h) (by decide)
theorem beqz {g : List Nat → Bool} {l : List Nat} {P : Prop} (h : g l = false) (e : g l = List.beq l l) : P := beq_abs _ (e.symm.trans h)
section
variable (w : World) (s : Shared) (X : (Mine.hd.heap_39 w.params).In s.heap) (hg : s.gens = #[]) (Q : Value → Shared → Prop) (E : Value → Shared → Prop)
  (ca dx : Addr) (d : Row) (t : T4) (hc : s.heap.get? ca = some { cls := .ref 149, dict := some dx, data := .seq #[.str d.x t.a, .str d.y t.b, .int d.i t.c, .int d.j t.d] }) (hd : s.heap.get? dx = some { cls := .type "dict", data := .dict #[] 0 })
  (cb dy : Addr) (u : T4) (hb : s.heap.get? cb = some { cls := .ref 149, dict := some dy, data := .seq #[.str d.x u.a, .str d.y u.b, .int d.i u.c, .int d.j u.d] }) (hy : s.heap.get? dy = some { cls := .type "dict", data := .dict #[] 0 })
local macro_rules | `(tactic| x_close) => `(tactic| first | (refine' owesU ?xa ?xe ?xb; (case xa => assumption); (case xb => assumption); (case xe => rfl)) | (refine' owesT ?xa ?xe; (case xa => assumption); (case xe => first | rfl | (rename _ = false => hh; (refine' beqz hh ?h; (case h => kernel_rfl))))))
include X hg hc hd hb hy in
theorem eq_same (hQ : OnVal s (.bool true) Q) : wpAny (model prg w) AL (PySem.call (.builtin "tuple.__eq__") [.ref ca, .ref cb]) Q E s := by
  x_run
end
end
end Mine

namespace Mine
section
open PySem PySem.W PySem.W.X PyProof.Rows PySem.Spec PySem.Calls
section
variable (w : World) (s : Shared) (X : (Mine.hd.heap_39 w.params).In s.heap) (hg : s.gens = #[]) (Q : Value → Shared → Prop) (E : Value → Shared → Prop)
  (ca dx : Addr) (d : Row) (t : T4) (hc : s.heap.get? ca = some { cls := .ref 149, dict := some dx, data := .seq #[.str d.x t.a, .str d.y t.b, .int d.i t.c, .int d.j t.d] }) (hd : s.heap.get? dx = some { cls := .type "dict", data := .dict #[] 0 })
  (cb dy : Addr) (u : T4) (hb : s.heap.get? cb = some { cls := .ref 149, dict := some dy, data := .seq #[.str d.x u.a, .str d.y u.b, .int d.i u.c, .int d.j u.d] }) (hy : s.heap.get? dy = some { cls := .type "dict", data := .dict #[] 0 })
local macro_rules | `(tactic| x_close) => `(tactic| first | (refine' owesU ?xa ?xe ?xb; (case xa => assumption); (case xb => assumption); (case xe => rfl)) | (refine' owesT ?xa ?xe; (case xa => assumption); (case xe => first | rfl | (rename _ = false => hh; (refine' beqz hh ?h; (case h => kernel_rfl))))))
include X hg hc hd hb hy in
theorem ne_same (hQ : OnVal s (.bool false) Q) : wpAny (model prg w) AL (PySem.call (.builtin "tuple.__ne__") [.ref ca, .ref cb]) Q E s := by
  x_run
end
end
end Mine

namespace Mine
section
open PySem PySem.W PySem.W.X PyProof.Rows PySem.Spec PySem.Calls
/-- two texts that differ -/
structure Diff (x y : Str) (t u : Tok) : Prop where
  ne : x ≠ y
theorem idz {x y : Str} {t u : Tok} {b : Bool} {P : Prop} (D : Diff x y t u) (h : b = true) (e : b = decide (Value.str x t = Value.str y u)) : P := by
  have := of_decide_eq_true (e.symm.trans h)
  injection this with h1
  exact absurd h1 D.ne
theorem beqd {x y : Str} {t u : Tok} {b : Bool} {P : Prop} (D : Diff x y t u) (h : b = true) (e : b = List.beq x.cps.toList y.cps.toList) : P := by
  have h2 : (x.cps.toList == y.cps.toList) = true := e.symm.trans h
  have h3 : x.cps.toList = y.cps.toList := by simpa using h2
  have h4 : x = y := by
    cases x with
    | mk a => cases y with
      | mk b => exact congrArg Str.mk (Array.toList_inj.mp h3)
  exact absurd h4 D.ne
end
end Mine

namespace Mine
section
open PySem PySem.W PySem.W.X PyProof.Rows PySem.Spec PySem.Calls
theorem idw {p : Prop} (c : Decidable p) (h : Decidable.rec (motive := fun _ => Bool) (fun _ => false) (fun _ => true) c = true) : p := of_decide_eq_true (h)
theorem beqw {g : List Nat → Bool} {x y : Str} {t u : Tok} {P : Prop} (h : g y.cps.toList = true) (D : Diff x y t u) (e : g y.cps.toList = List.beq x.cps.toList y.cps.toList) : P := beqd D h e
section
variable (w : World) (s : Shared) (X : (Mine.hd.heap_39 w.params).In s.heap) (hg : s.gens = #[]) (Q : Value → Shared → Prop) (E : Value → Shared → Prop)
  (ca dx : Addr) (d : Row) (t : T4) (hc : s.heap.get? ca = some { cls := .ref 149, dict := some dx, data := .seq #[.str d.x t.a, .str d.y t.b, .int d.i t.c, .int d.j t.d] }) (hd : s.heap.get? dx = some { cls := .type "dict", data := .dict #[] 0 })
  (cb dy : Addr) (u : T4) (y : Str) (hb : s.heap.get? cb = some { cls := .ref 149, dict := some dy, data := .seq #[.str y u.a, .str d.y u.b, .int d.i u.c, .int d.j u.d] }) (hy : s.heap.get? dy = some { cls := .type "dict", data := .dict #[] 0 })
  (D : Diff d.x y t.a u.a)
local macro_rules | `(tactic| x_close) => `(tactic| first | (refine' owesT ?xa ?xe; (case xa => assumption); (case xe => first | rfl | (repeat (rename _ = true => hh; first | (refine' beqw hh ?D ?h; (case D => assumption); (case h => kernel_rfl); done) | (replace hh := idw _ hh; injection hh with h1 h2; refine' absurd h1 (Diff.ne ?D); (case D => assumption); done) | clear hh)))))
include X hg hc hd hb hy D in
theorem eq_dx (hQ : OnVal s (.bool false) Q) : wpAny (model prg w) AL (PySem.call (.builtin "tuple.__eq__") [.ref ca, .ref cb]) Q E s := by
  x_run
end
end
end Mine

namespace Mine
section
open PySem PySem.W PySem.W.X PyProof.Rows PySem.Spec PySem.Calls
section
variable (w : World) (s : Shared) (X : (Mine.hd.heap_39 w.params).In s.heap) (hg : s.gens = #[]) (Q : Value → Shared → Prop) (E : Value → Shared → Prop)
  (ca dx : Addr) (d : Row) (t : T4) (hc : s.heap.get? ca = some { cls := .ref 149, dict := some dx, data := .seq #[.str d.x t.a, .str d.y t.b, .int d.i t.c, .int d.j t.d] }) (hd : s.heap.get? dx = some { cls := .type "dict", data := .dict #[] 0 })
  (cb dy : Addr) (u : T4) (y : Str) (hb : s.heap.get? cb = some { cls := .ref 149, dict := some dy, data := .seq #[.str d.x u.a, .str y u.b, .int d.i u.c, .int d.j u.d] }) (hy : s.heap.get? dy = some { cls := .type "dict", data := .dict #[] 0 })
  (D : Diff d.y y t.b u.b)
local macro_rules | `(tactic| x_close) => `(tactic| first | (refine' owesT ?xa ?xe; (case xa => assumption); (case xe => first | rfl | (repeat (rename _ = true => hh; first | (refine' beqw hh ?D ?h; (case D => assumption); (case h => kernel_rfl); done) | (replace hh := idw _ hh; injection hh with h1 h2; refine' absurd h1 (Diff.ne ?D); (case D => assumption); done) | clear hh)))))
include X hg hc hd hb hy D in
theorem eq_dy (hQ : OnVal s (.bool false) Q) : wpAny (model prg w) AL (PySem.call (.builtin "tuple.__eq__") [.ref ca, .ref cb]) Q E s := by
  x_run
end
end
end Mine

namespace Mine
section
open PySem PySem.W PySem.W.X PyProof.Rows PySem.Spec PySem.Calls
section
variable (w : World) (s : Shared) (X : (Mine.hd.heap_39 w.params).In s.heap) (hg : s.gens = #[]) (Q : Value → Shared → Prop) (E : Value → Shared → Prop)
  (ca dx : Addr) (d : Row) (t : T4) (hc : s.heap.get? ca = some { cls := .ref 149, dict := some dx, data := .seq #[.str d.x t.a, .str d.y t.b, .int d.i t.c, .int d.j t.d] }) (hd : s.heap.get? dx = some { cls := .type "dict", data := .dict #[] 0 })
  (cb dy : Addr) (u : T4) (z : Int) (hb : s.heap.get? cb = some { cls := .ref 149, dict := some dy, data := .seq #[.str d.x u.a, .str d.y u.b, .int z u.c, .int d.j u.d] }) (hy : s.heap.get? dy = some { cls := .type "dict", data := .dict #[] 0 })
  (D : d.i ≠ z)
local macro_rules | `(tactic| x_close) => `(tactic| first | (refine' owesT ?xa ?xe; (case xa => assumption); (case xe => first | rfl | (exfalso; omega) | (rename _ = false => hh; refine' beqz hh ?h; (case h => kernel_rfl); done) | (repeat (rename _ = true => hh; first | (refine' beqw hh ?D ?h; (case D => assumption); (case h => kernel_rfl); done) | (replace hh := idw _ hh; injection hh with h1 h2; refine' absurd h1 (Diff.ne ?D); (case D => assumption); done) | clear hh)))))
include X hg hc hd hb hy D in
theorem eq_di (hQ : OnVal s (.bool false) Q) : wpAny (model prg w) AL (PySem.call (.builtin "tuple.__eq__") [.ref ca, .ref cb]) Q E s := by
  x_run
end
end
end Mine

namespace Mine
section
open PySem PySem.W PySem.W.X PyProof.Rows PySem.Spec PySem.Calls
section
variable (w : World) (s : Shared) (X : (Mine.hd.heap_39 w.params).In s.heap) (hg : s.gens = #[]) (Q : Value → Shared → Prop) (E : Value → Shared → Prop)
  (ca dx : Addr) (d : Row) (t : T4) (hc : s.heap.get? ca = some { cls := .ref 149, dict := some dx, data := .seq #[.str d.x t.a, .str d.y t.b, .int d.i t.c, .int d.j t.d] }) (hd : s.heap.get? dx = some { cls := .type "dict", data := .dict #[] 0 })
  (cb dy : Addr) (u : T4) (z : Int) (hb : s.heap.get? cb = some { cls := .ref 149, dict := some dy, data := .seq #[.str d.x u.a, .str d.y u.b, .int d.i u.c, .int z u.d] }) (hy : s.heap.get? dy = some { cls := .type "dict", data := .dict #[] 0 })
  (D : d.j ≠ z)
local macro_rules | `(tactic| x_close) => `(tactic| first | (refine' owesT ?xa ?xe; (case xa => assumption); (case xe => first | rfl | (exfalso; omega) | (rename _ = false => hh; refine' beqz hh ?h; (case h => kernel_rfl); done) | (repeat (rename _ = true => hh; first | (refine' beqw hh ?D ?h; (case D => assumption); (case h => kernel_rfl); done) | (replace hh := idw _ hh; injection hh with h1 h2; refine' absurd h1 (Diff.ne ?D); (case D => assumption); done) | clear hh)))))
include X hg hc hd hb hy D in
theorem eq_dj (hQ : OnVal s (.bool false) Q) : wpAny (model prg w) AL (PySem.call (.builtin "tuple.__eq__") [.ref ca, .ref cb]) Q E s := by
  x_run
end
end
end Mine

namespace Mine
section
open PySem PySem.W PySem.W.X PyProof.Rows PySem.Spec PySem.Calls
section
variable {w : World} {A : Around} {s : Shared} {Q : Value → Shared → Prop} {E : Value → Shared → Prop}
theorem d_eq : findIn (Mine.hd.heap_39 w.params) (.ref 149) "__eq__" = some (some (.builtin "tuple.__eq__")) := by k_is
theorem d_ne : findIn (Mine.hd.heap_39 w.params) (.ref 149) "__ne__" = some (some (.builtin "tuple.__ne__")) := by k_is
theorem cmp_comp {op : CmpOp} {id : String} {ca dx cb dy : Addr} {d e : Row} {t u : T4} (hu : A.units < cLine) (X : (Mine.hd.heap_39 w.params).In s.heap)
    (hc : s.heap.get? ca = some (compObj dx d t)) (hd : s.heap.get? dx = some emptyDict) (hb : s.heap.get? cb = some (compObj dy e u)) (hy : s.heap.get? dy = some emptyDict)
    (hs : findIn (Mine.hd.heap_39 w.params) (.ref 149) (cmpInfo op).2.1 = some (some (.builtin id))) (S : Slot "tuple" (cmpInfo op).2.1 id)
    (h : wpAny (model prg w) A (call (.builtin id) [.ref ca, .ref cb]) (W.CmpBack Q) E s) : wpAny (model prg w) A (richCompare op (.ref ca) (.ref cb)) Q E s := by
  have I := comp_inst hc hd
  have J := comp_inst hb hy
  have one : wpAny (model prg w) A (tryCompare (.ref ca) (cmpInfo op).2.1 (.ref cb)) (fun r s' => ∃ v, r = some v ∧ Q v s') E s := by
    unfold tryCompare
    refine wpAny_bind ?_
    simp only [callSpecialIfBound?, bindSpecialIfBound?]
    refine wpAny_holding (wpAny_bind (wpAny_bind (wpAny_bind (I.type.here ((looks_findIn X hs).here ?_)))))
    simp only [S.bind]
    have fin : wpAny (model prg w) A (call (.builtin id) ([.ref ca] ++ [.ref cb]) >>= fun v => pure (some v)) (fun r s' => wpAny (model prg w) A (match r with | some .notImplemented | none => pure none | some v => pure (some v)) (fun r s' => ∃ v, r = some v ∧ Q v s') E s') E s := by
      refine wpAny_bind (wpAny_mono h (fun v s' hv => ?_) fun _ _ h' => h')
      cases v <;> first | exact hv.elim | exact wpAny_pure (wpAny_pure ⟨_, rfl, hv⟩)
    refine wpAny_bind (wpAny_askSetting (wpAny_ite ?_))
    split
    · exact wpAny_bind (wpAny_pure (wpAny_pure fin))
    · exact wpAny_tryCatch (wpAny_bind (wpAny_pure (wpAny_pure fin)))
  unfold richCompare
  simp only [oneThing_ref]
  refine wpAny_holding (wpAny_bind (wpAny_cRoomFor hu ?_))
  refine wpAny_bind (I.type.here (wpAny_bind (J.type.here ?_)))
  split
  · rename_i q
    simp at q
  · refine wpAny_bind (wpAny_pure ?_)
    simp only [Bool.false_eq_true, if_false]
    refine wpAny_bind (wpAny_mono one (fun r s' z => ?_) fun _ _ e => e)
    obtain ⟨v, rfl, hq⟩ := z
    exact wpAny_pure hq
end
end
end Mine

namespace Mine
section
open PySem PySem.W PySem.W.X PyProof.Rows PySem.Spec PySem.Calls
theorem sl_eq : Slot "tuple" (cmpInfo .Eq).2.1 "tuple.__eq__" := F.slot_tuple_eq
theorem sl_ne : Slot "tuple" (cmpInfo .NotEq).2.1 "tuple.__ne__" := F.slot_tuple_ne
theorem diff_app {x y : Str} {t u : Tok} (h : y.length ≠ 0) : Diff x (x ++ y) t u := ⟨fun e => by
  have h1 : x.length = (x ++ y).length := congrArg Str.length e
  rw [Str.length_append] at h1
  omega⟩
section
variable {w : World} {s : Shared} {A : Around} {Q : Value → Shared → Prop} {E : Value → Shared → Prop} {h₀ : Heap} {L : Addr} {m : Str → Option Value} {news : List (Addr × Obj)} {ca dx cb dy : Addr} {d e : Row} {t u : T4}
theorem isinst_K (hA : A.handled = none) (hdp : A.depth ≤ 800) (hun : A.units ≤ 1000) (X₀ : (Mine.hd.heap_39 w.params).In h₀) (F : Fr h₀ L s.heap m) (N : News h₀ L s.heap news) (hg : s.gens = #[]) (h1 : (ca, compObj dx d t) ∈ news) (h2 : (dx, emptyDict) ∈ news)
    (h : ∀ h' tk, Fr h₀ L h' m → News h₀ L h' news → Q (.bool true) { s with heap := h', toks := tk }) : wpAny (model prg w) A (PySem.call (.builtin "isinstance") [.ref ca, .ref 149]) Q E s :=
  of_AL hA hdp hun (isinst_x w s (Frag.In.keeps X₀ F.keep) hg Q E ca dx d t (N _ h1).1 (N _ h2).1 (onVal_K F N hg h))
theorem len_K (hA : A.handled = none) (hdp : A.depth ≤ 800) (hun : A.units ≤ 1000) (X₀ : (Mine.hd.heap_39 w.params).In h₀) (F : Fr h₀ L s.heap m) (N : News h₀ L s.heap news) (hg : s.gens = #[]) (h1 : (ca, compObj dx d t) ∈ news) (h2 : (dx, emptyDict) ∈ news)
    (h : ∀ u h' tk, Fr h₀ L h' m → News h₀ L h' news → Q (.int 4 u) { s with heap := h', toks := tk }) : wpAny (model prg w) A (PySem.call (.builtin "len") [.ref ca]) Q E s :=
  of_AL hA hdp hun (len_x w s (Frag.In.keeps X₀ F.keep) hg Q E ca dx d t (N _ h1).1 (N _ h2).1 (fun u => onVal_K F N hg (h u)))
theorem tup_K (hA : A.handled = none) (hdp : A.depth ≤ 800) (hun : A.units ≤ 1000) (X₀ : (Mine.hd.heap_39 w.params).In h₀) (F : Fr h₀ L s.heap m) (N : News h₀ L s.heap news) (hg : s.gens = #[]) (h1 : (ca, compObj dx d t) ∈ news) (h2 : (dx, emptyDict) ∈ news)
    (h : ∀ ad h' tk, Fr h₀ L h' m → News h₀ L h' ((ad, rowObj d t) :: news) → (∀ p ∈ news, Apart p.1 ad) → Q (.ref ad) { s with heap := h', toks := tk }) : wpAny (model prg w) A (PySem.call (.type "tuple") [.ref ca]) Q E s :=
  of_AL hA hdp hun (tup_x w s (Frag.In.keeps X₀ F.keep) hg Q E ca dx d t (N _ h1).1 (N _ h2).1 (by
    intro ad h' tk k k1 n1
    rw [gens_eq hg]
    refine h ad h' tk (Frk F k) ?_ (fun p hp => ne_of_none (N p hp).1 n1)
    intro p hp
    rcases List.mem_cons.mp hp with rfl | hp
    · exact ⟨k1, L_ne F n1, base_none F n1⟩
    · exact Nk N k p hp))
theorem room_of (hun : A.units ≤ 1000) : A.units < cLine := by have := cLine_is; omega
theorem eqs_K (hA : A.handled = none) (hdp : A.depth ≤ 800) (hun : A.units ≤ 1000) (X₀ : (Mine.hd.heap_39 w.params).In h₀) (F : Fr h₀ L s.heap m) (N : News h₀ L s.heap news) (hg : s.gens = #[]) (h1 : (ca, compObj dx d t) ∈ news) (h2 : (dx, emptyDict) ∈ news)
    (h3 : (cb, compObj dy e u) ∈ news) (h4 : (dy, emptyDict) ∈ news) (he : e = ⟨d.x, d.y, d.i, d.j⟩)
    (h : ∀ h' tk, Fr h₀ L h' m → News h₀ L h' news → Q (.bool true) { s with heap := h', toks := tk }) : wpAny (model prg w) A (compareOp .Eq (.ref ca) (.ref cb)) Q E s := by
  subst he
  have X := Frag.In.keeps X₀ F.keep
  exact cmp_ofEq (cmp_comp (room_of hun) X (N _ h1).1 (N _ h2).1 (N _ h3).1 (N _ h4).1 d_eq sl_eq
    (of_AL hA hdp hun (eq_same w s X hg (W.CmpBack Q) E ca dx d t (N _ h1).1 (N _ h2).1 cb dy u (N _ h3).1 (N _ h4).1 (onVal_K F N hg h))))
theorem nes_K (hA : A.handled = none) (hdp : A.depth ≤ 800) (hun : A.units ≤ 1000) (X₀ : (Mine.hd.heap_39 w.params).In h₀) (F : Fr h₀ L s.heap m) (N : News h₀ L s.heap news) (hg : s.gens = #[]) (h1 : (ca, compObj dx d t) ∈ news) (h2 : (dx, emptyDict) ∈ news)
    (h3 : (cb, compObj dy e u) ∈ news) (h4 : (dy, emptyDict) ∈ news) (he : e = ⟨d.x, d.y, d.i, d.j⟩)
    (h : ∀ h' tk, Fr h₀ L h' m → News h₀ L h' news → Q (.bool false) { s with heap := h', toks := tk }) : wpAny (model prg w) A (compareOp .NotEq (.ref ca) (.ref cb)) Q E s := by
  subst he
  have X := Frag.In.keeps X₀ F.keep
  exact cmp_ofNotEq (cmp_comp (room_of hun) X (N _ h1).1 (N _ h2).1 (N _ h3).1 (N _ h4).1 d_ne sl_ne
    (of_AL hA hdp hun (ne_same w s X hg (W.CmpBack Q) E ca dx d t (N _ h1).1 (N _ h2).1 cb dy u (N _ h3).1 (N _ h4).1 (onVal_K F N hg h))))
theorem tail2 {h : Heap} {p q : Addr × Obj} (N : News h₀ L h (p :: q :: news)) : News h₀ L h news := fun x hx => N x (.tail _ (.tail _ hx))
theorem eqx_K {y : Str} (hA : A.handled = none) (hdp : A.depth ≤ 800) (hun : A.units ≤ 1000) (X₀ : (Mine.hd.heap_39 w.params).In h₀) (F : Fr h₀ L s.heap m) (N : News h₀ L s.heap ((cb, compObj dy e u) :: (dy, emptyDict) :: news)) (hg : s.gens = #[])
    (h1 : (ca, compObj dx d t) ∈ news) (h2 : (dx, emptyDict) ∈ news) (he : e = ⟨d.x ++ y, d.y, d.i, d.j⟩) (hy : y.length ≠ 0)
    (h : ∀ h' tk, Fr h₀ L h' m → News h₀ L h' news → Q (.bool false) { s with heap := h', toks := tk }) : wpAny (model prg w) A (compareOp .Eq (.ref ca) (.ref cb)) Q E s := by
  subst he
  have X := Frag.In.keeps X₀ F.keep
  have N2 := tail2 N
  exact cmp_ofEq (cmp_comp (room_of hun) X (N2 _ h1).1 (N2 _ h2).1 (N _ (.head _)).1 (N _ (.tail _ (.head _))).1 d_eq sl_eq
    (of_AL hA hdp hun (eq_dx w s X hg (W.CmpBack Q) E ca dx d t (N2 _ h1).1 (N2 _ h2).1 cb dy u _ (N _ (.head _)).1 (N _ (.tail _ (.head _))).1 (diff_app hy) (onVal_K F N2 hg h))))
theorem eqy_K {y : Str} (hA : A.handled = none) (hdp : A.depth ≤ 800) (hun : A.units ≤ 1000) (X₀ : (Mine.hd.heap_39 w.params).In h₀) (F : Fr h₀ L s.heap m) (N : News h₀ L s.heap ((cb, compObj dy e u) :: (dy, emptyDict) :: news)) (hg : s.gens = #[])
    (h1 : (ca, compObj dx d t) ∈ news) (h2 : (dx, emptyDict) ∈ news) (he : e = ⟨d.x, d.y ++ y, d.i, d.j⟩) (hy : y.length ≠ 0)
    (h : ∀ h' tk, Fr h₀ L h' m → News h₀ L h' news → Q (.bool false) { s with heap := h', toks := tk }) : wpAny (model prg w) A (compareOp .Eq (.ref ca) (.ref cb)) Q E s := by
  subst he
  have X := Frag.In.keeps X₀ F.keep
  have N2 := tail2 N
  exact cmp_ofEq (cmp_comp (room_of hun) X (N2 _ h1).1 (N2 _ h2).1 (N _ (.head _)).1 (N _ (.tail _ (.head _))).1 d_eq sl_eq
    (of_AL hA hdp hun (eq_dy w s X hg (W.CmpBack Q) E ca dx d t (N2 _ h1).1 (N2 _ h2).1 cb dy u _ (N _ (.head _)).1 (N _ (.tail _ (.head _))).1 (diff_app hy) (onVal_K F N2 hg h))))
theorem eqi_K {z : Int} (hA : A.handled = none) (hdp : A.depth ≤ 800) (hun : A.units ≤ 1000) (X₀ : (Mine.hd.heap_39 w.params).In h₀) (F : Fr h₀ L s.heap m) (N : News h₀ L s.heap ((cb, compObj dy e u) :: (dy, emptyDict) :: news)) (hg : s.gens = #[])
    (h1 : (ca, compObj dx d t) ∈ news) (h2 : (dx, emptyDict) ∈ news) (he : e = ⟨d.x, d.y, z, d.j⟩) (hy : d.i ≠ z)
    (h : ∀ h' tk, Fr h₀ L h' m → News h₀ L h' news → Q (.bool false) { s with heap := h', toks := tk }) : wpAny (model prg w) A (compareOp .Eq (.ref ca) (.ref cb)) Q E s := by
  subst he
  have X := Frag.In.keeps X₀ F.keep
  have N2 := tail2 N
  exact cmp_ofEq (cmp_comp (room_of hun) X (N2 _ h1).1 (N2 _ h2).1 (N _ (.head _)).1 (N _ (.tail _ (.head _))).1 d_eq sl_eq
    (of_AL hA hdp hun (eq_di w s X hg (W.CmpBack Q) E ca dx d t (N2 _ h1).1 (N2 _ h2).1 cb dy u _ (N _ (.head _)).1 (N _ (.tail _ (.head _))).1 hy (onVal_K F N2 hg h))))
theorem eqj_K {z : Int} (hA : A.handled = none) (hdp : A.depth ≤ 800) (hun : A.units ≤ 1000) (X₀ : (Mine.hd.heap_39 w.params).In h₀) (F : Fr h₀ L s.heap m) (N : News h₀ L s.heap ((cb, compObj dy e u) :: (dy, emptyDict) :: news)) (hg : s.gens = #[])
    (h1 : (ca, compObj dx d t) ∈ news) (h2 : (dx, emptyDict) ∈ news) (he : e = ⟨d.x, d.y, d.i, z⟩) (hy : d.j ≠ z)
    (h : ∀ h' tk, Fr h₀ L h' m → News h₀ L h' news → Q (.bool false) { s with heap := h', toks := tk }) : wpAny (model prg w) A (compareOp .Eq (.ref ca) (.ref cb)) Q E s := by
  subst he
  have X := Frag.In.keeps X₀ F.keep
  have N2 := tail2 N
  exact cmp_ofEq (cmp_comp (room_of hun) X (N2 _ h1).1 (N2 _ h2).1 (N _ (.head _)).1 (N _ (.tail _ (.head _))).1 d_eq sl_eq
    (of_AL hA hdp hun (eq_dj w s X hg (W.CmpBack Q) E ca dx d t (N2 _ h1).1 (N2 _ h2).1 cb dy u _ (N _ (.head _)).1 (N _ (.tail _ (.head _))).1 hy (onVal_K F N2 hg h))))
end
end
end Mine

namespace Mine
section
open PySem PySem.W PySem.W.X PyProof.Rows PySem.Spec PySem.Calls PyProof.V
/-- two values that read as the same datum -/
def Twin (k : Nat) (Lt : List (Addr × Obj)) (v v' : Value) : Prop :=
  ∀ h : Heap, (∀ p ∈ Lt, h.get? p.1 = some p.2) → ∃ d as bs, Reads h v d as ∧ Reads h v' d bs ∧ d.canLay0 = true ∧ d.depth ≤ k
inductive Twins (k : Nat) (Lt : List (Addr × Obj)) : List Value → List Value → Prop
  | nil : Twins k Lt [] []
  | cons {v v' : Value} {vs us : List Value} : Twin k Lt v v' → Twins k Lt vs us → Twins k Lt (v :: vs) (v' :: us)
section
variable {k : Nat} {Lt Lt' : List (Addr × Obj)} {v v' : Value} {vs us ws xs : List Value}
theorem Twin.mono (hs : ∀ p ∈ Lt, p ∈ Lt') (T : Twin k Lt v v') : Twin k Lt' v v' := fun h hh => T h fun p hp => hh p (hs p hp)
theorem Twins.mono (hs : ∀ p ∈ Lt, p ∈ Lt') (T : Twins k Lt vs us) : Twins k Lt' vs us := by
  induction T with
  | nil => exact .nil
  | cons h _ ih => exact .cons (h.mono hs) ih
theorem Twins.append (T : Twins k Lt vs us) (U : Twins k Lt ws xs) : Twins k Lt (vs ++ ws) (us ++ xs) := by
  induction T with
  | nil => exact U
  | cons h _ ih => exact .cons h ih
theorem Twins.reads (T : Twins k Lt vs us) {h : Heap} (hh : ∀ p ∈ Lt, h.get? p.1 = some p.2) : ∃ ds as bs, ReadsAll h vs ds as ∧ ReadsAll h us ds bs ∧ PyData.canLayAll0 ds = true ∧ PyData.depthAll ds ≤ k := by
  induction T with
  | nil => exact ⟨[], _, _, .nil, .nil, rfl, Nat.zero_le _⟩
  | cons t _ ih =>
    obtain ⟨d, as, bs, r1, r2, c, e⟩ := t h hh
    obtain ⟨ds, as', bs', q1, q2, c', e'⟩ := ih
    refine ⟨d :: ds, _, _, .cons r1 q1, .cons r2 q2, ?_, ?_⟩
    · rw [PyData.canLayAll0, c, c']; rfl
    · rw [PyData.depthAll]; exact Nat.max_le.mpr ⟨e, e'⟩
theorem Twin.bool (b : Bool) : Twin k Lt (.bool b) (.bool b) := fun _ _ => ⟨_, _, _, .bool b, .bool b, rfl, Nat.zero_le _⟩
theorem Twin.int (i : Int) (t u : Tok) : Twin k Lt (.int i t) (.int i u) := fun _ _ => ⟨_, _, _, .int i t, .int i u, rfl, Nat.zero_le _⟩
theorem Twin.str {x : Str} (t u : Tok) (hx : PyData.strOk x = true) : Twin k Lt (.str x t) (.str x u) := fun _ _ => ⟨_, _, _, .str x t, .str x u, hx, Nat.zero_le _⟩
theorem Twin.tup {a b : Addr} {vs us : List Value} (h1 : (a, { cls := .type "tuple", data := .seq vs.toArray }) ∈ Lt) (h2 : (b, { cls := .type "tuple", data := .seq us.toArray }) ∈ Lt) (T : Twins k Lt vs us) : Twin (k + 1) Lt (.ref a) (.ref b) := fun h hh => by
  obtain ⟨ds, as, bs, r1, r2, c, e⟩ := T.reads hh
  refine ⟨.tuple ds, as, bs, reads_tuple_at (hh _ h1) rfl rfl r1, reads_tuple_at (hh _ h2) rfl rfl r2, c, ?_⟩
  rw [PyData.depth]; omega
theorem Twin.row {a b : Addr} {r : Row} {t u : T4} (h1 : (a, rowObj r t) ∈ Lt) (h2 : (b, rowObj r u) ∈ Lt) (f : Fine r) : Twin 1 Lt (.ref a) (.ref b) :=
  Twin.tup (k := 0) (vs := [.str r.x t.a, .str r.y t.b, .int r.i t.c, .int r.j t.d]) (us := [.str r.x u.a, .str r.y u.b, .int r.i u.c, .int r.j u.d]) h1 h2 (.cons (Twin.str _ _ f.x) (.cons (Twin.str _ _ f.y) (.cons (Twin.int _ _ _) (.cons (Twin.int _ _ _) .nil))))
end
structure St2 where
  ts : List Value
  tn : Nat
  us : List Value
  un : Nat
abbrev Led2 (at' ad : Addr) (c : St2) : List (Addr × Obj) := [(at', listOf c.ts.toArray c.tn), (ad, listOf c.us.toArray c.un)]
def Inv2 (Lt : List (Addr × Obj)) (c : St2) : Prop := Twins 3 Lt c.ts c.us
def P2 (pre : List Int) (c : St2) : Prop := c.ts.length = 3 * pre.length ∧ c.us.length = 3 * pre.length
abbrev names2 : List Str := ["item", "row", "by_hand"]
theorem off_join {Z l : List (Addr × Obj)} {a b c d : Addr} {r : List Addr} (h : OwnOff Z [a, b, c, d]) (k : OwnOff l (a :: b :: c :: d :: r)) : OwnOff (Z ++ l) [a, b, c, d] := by
  intro p hp x hx
  rcases List.mem_append.mp hp with hp | hp
  · exact h p hp x hx
  · refine k p hp x ?_
    rcases List.mem_cons.mp hx with h | hx
    · exact h ▸ .head _
    · rcases List.mem_cons.mp hx with h | hx
      · exact h ▸ .tail _ (.head _)
      · rcases List.mem_cons.mp hx with h | hx
        · exact h ▸ .tail _ (.tail _ (.head _))
        · exact (List.mem_singleton.mp hx) ▸ .tail _ (.tail _ (.tail _ (.head _)))
theorem inv1_drop {am ar : Addr} {va vb : Array Value} {na nb : Nat} {Z : List (Addr × Obj)} {c : St} (I : Inv1 ((am, listOf va na) :: (ar, listOf vb nb) :: Z) c) : Inv1 Z c := by
  refine ⟨I.lm, I.lr, fun i d hd => ?_⟩
  obtain ⟨ca, dx, ct, ra, rt, e1, e2, h1, h2, h3⟩ := I.at' i d hd
  have cut : ∀ {a : Addr} {o : Obj}, (a, o) ∈ (am, listOf va na) :: (ar, listOf vb nb) :: Z → o.cls ≠ .type "list" → (a, o) ∈ Z := by
    intro a o hm hc
    rcases List.mem_cons.mp hm with h | h
    · exact absurd (by rw [(Prod.mk.inj h).2]) hc
    · rcases List.mem_cons.mp h with h | h
      · exact absurd (by rw [(Prod.mk.inj h).2]) hc
      · exact h
  exact ⟨ca, dx, ct, ra, rt, e1, e2, cut h1 (by simp), cut h2 (by simp), cut h3 (by simp)⟩
section
variable {prog : Program} {w : World} {A : Around} {E : Value → Shared → Prop} {s : Shared} {env : Env} {h₀ : Heap} {x : Str} {body : List Stmt} {Q : Flow → Shared → Prop} {m₀ : Str → Option Value} {r : Addr} {t₀ u₀ v₀ : Tok} {ad at' ar am : Addr} {nd nt rn mn : Nat} {ms rs : List Value} {ds : List Row} {ra ca dx : Addr} {b1 b2 b3 b4 c1 c2 c3 c4 : Tok} {tl₁ : List (Addr × Obj)}
theorem loop2 (hh : A.handled = none) (hr : IsRange s.heap r 0 9 1 t₀ u₀ v₀) (F : Fr h₀ env.locals s.heap m₀)
    (N : News h₀ env.locals s.heap ((am, listOf ms.toArray mn) :: (ar, listOf rs.toArray rn) :: (ad, listOf #[] nd) :: (at', listOf #[] nt) :: (ra, rowObj row0 ⟨b1, b2, b3, b4⟩) :: (ca, compObj dx row0 ⟨c1, c2, c3, c4⟩) :: (dx, emptyDict) :: tl₁))
    (I : Inv1 ((ad, listOf #[] nd) :: (at', listOf #[] nt) :: (ra, rowObj row0 ⟨b1, b2, b3, b4⟩) :: (ca, compObj dx row0 ⟨c1, c2, c3, c4⟩) :: (dx, emptyDict) :: tl₁) ⟨ms, mn, rs, rn, ds⟩) (hoff : OwnOff tl₁ [am, ar, ad, at', ra, ca, dx])
    (turn : ∀ Z, Inv1 Z ⟨ms, mn, rs, rn, ds⟩ → ∀ (c : St2) tl (pre : List Int) (k : Int) t (u : Str → Option Value) h tk own, k = 0 + (pre.length : Int) → pre.length < 9 → KdSep own tl (at' :: ad :: am :: ar :: Z.map (·.1)) → OwnOff (Z ++ (tl ++ own)) [at', ad, am, ar] →
      Inv2 ((am, listOf ms.toArray mn) :: (ar, listOf rs.toArray rn) :: Z ++ tl) c → P2 pre c →
      Fr h₀ env.locals h (fun y => if y = x then some (.int k t) else if names2.contains y then u y else m₀ y) → News h₀ env.locals h (Led2 at' ad c ++ ((am, listOf ms.toArray mn) :: (ar, listOf rs.toArray rn) :: Z ++ (tl ++ own))) →
      wpAny (model prog w) A (execs body env) (InvPostG h₀ env.locals (KdS (Led2 at' ad) ((am, listOf ms.toArray mn) :: (ar, listOf rs.toArray rn) :: Z) (fun _ => []) Inv2 x names2 m₀ P2 (at' :: ad :: am :: ar :: Z.map (·.1)) (pre ++ [k])) own { s with heap := h, toks := tk } Q) E { s with heap := h, toks := tk })
    (done : ∀ Z (c : St2) tl (u : Str → Option Value) h tk, Inv2 ((am, listOf ms.toArray mn) :: (ar, listOf rs.toArray rn) :: Z ++ tl) c →
      Fr h₀ env.locals h (fun y => if y = x then u y else if names2.contains y then u y else m₀ y) → News h₀ env.locals h (Led2 at' ad c ++ ((am, listOf ms.toArray mn) :: (ar, listOf rs.toArray rn) :: Z ++ tl)) → Q .next { s with heap := h, toks := tk }) :
    wpAny (model prog w) A (pyIter (.ref r)) (fun it s₂ => LoopAtV prog w A h₀ env x body Q E it s₂) E s := by
  have I2 : Inv1 ((ra, rowObj row0 ⟨b1, b2, b3, b4⟩) :: (ca, compObj dx row0 ⟨c1, c2, c3, c4⟩) :: (dx, emptyDict) :: tl₁) ⟨ms, mn, rs, rn, ds⟩ := inv1_drop I
  have hZ : OwnOff ((ra, rowObj row0 ⟨b1, b2, b3, b4⟩) :: (ca, compObj dx row0 ⟨c1, c2, c3, c4⟩) :: (dx, emptyDict) :: tl₁) [at', ad, am, ar] := by
    have far : ∀ {a : Addr} {o : Obj} {b : Addr} {vs : Array Value} {n : Nat}, (a, o) ∈ (am, listOf ms.toArray mn) :: (ar, listOf rs.toArray rn) :: (ad, listOf #[] nd) :: (at', listOf #[] nt) :: (ra, rowObj row0 ⟨b1, b2, b3, b4⟩) :: (ca, compObj dx row0 ⟨c1, c2, c3, c4⟩) :: (dx, emptyDict) :: tl₁ →
        (b, listOf vs n) ∈ (am, listOf ms.toArray mn) :: (ar, listOf rs.toArray rn) :: (ad, listOf #[] nd) :: (at', listOf #[] nt) :: (ra, rowObj row0 ⟨b1, b2, b3, b4⟩) :: (ca, compObj dx row0 ⟨c1, c2, c3, c4⟩) :: (dx, emptyDict) :: tl₁ → o.cls ≠ .type "list" → a ≠ b := fun h1 h2 hc => ne_cls N h1 h2 hc
    have all4 : ∀ {a : Addr} {o : Obj}, (a, o) ∈ (ra, rowObj row0 ⟨b1, b2, b3, b4⟩) :: (ca, compObj dx row0 ⟨c1, c2, c3, c4⟩) :: (dx, emptyDict) :: tl₁ → o.cls ≠ .type "list" → ∀ b ∈ [at', ad, am, ar], a ≠ b := by
      intro a o hm hc b hb
      have hm' := List.Mem.tail (am, listOf ms.toArray mn) (.tail (ar, listOf rs.toArray rn) (.tail (ad, listOf #[] nd) (.tail (at', listOf #[] nt) hm)))
      rcases List.mem_cons.mp hb with rfl | hb
      · exact far hm' (.tail _ (.tail _ (.tail _ (.head _)))) hc
      · rcases List.mem_cons.mp hb with rfl | hb
        · exact far hm' (.tail _ (.tail _ (.head _))) hc
        · rcases List.mem_cons.mp hb with rfl | hb
          · exact far hm' (.head _) hc
          · rw [List.mem_singleton.mp hb]; exact far hm' (.tail _ (.head _)) hc
    intro p hp b hb
    rcases List.mem_cons.mp hp with rfl | hp
    · exact all4 (.head _) (by simp) b hb
    · rcases List.mem_cons.mp hp with rfl | hp
      · exact all4 (.tail _ (.head _)) (by simp) b hb
      · rcases List.mem_cons.mp hp with rfl | hp
        · exact all4 (.tail _ (.tail _ (.head _))) (by simp) b hb
        · refine hoff p hp b ?_
          simp only [List.mem_cons, List.not_mem_nil, or_false] at hb ⊢
          rcases hb with h | h | h | h <;> simp [h]
  generalize hz : (ra, rowObj row0 ⟨b1, b2, b3, b4⟩) :: (ca, compObj dx row0 ⟨c1, c2, c3, c4⟩) :: (dx, emptyDict) :: tl₁ = Z at N I2 hZ
  refine kd_range (σ := St2) (n := 9) (Led2 at' ad) ((am, listOf ms.toArray mn) :: (ar, listOf rs.toArray rn) :: Z) (fun _ => []) Inv2 names2 P2 (at' :: ad :: am :: ar :: Z.map (·.1)) ⟨[], nt, [], nd⟩
    hh hr (by decide) (by rfl) F N ?_ (fun _ => rfl) Twins.nil (fun _ hp => (nomatch hp)) ⟨rfl, rfl⟩ (fun c tl pre k t u h tk own a1 a2 a3 a4 a5 a6 a7 a8 => turn Z I2 c tl pre k t u h tk own a1 a2 a3 (off_join hZ a4) a5 a6 a7 a8) (fun c tl u h tk _ hf _ F' N' => done Z c tl u h tk hf F' N')
  intro p hp
  rw [List.append_nil] at hp
  rcases List.mem_append.mp hp with h | h
  · rcases List.mem_cons.mp h with h | h
    · exact h ▸ .tail _ (.tail _ (.tail _ (.head _)))
    · exact (List.mem_singleton.mp h) ▸ .tail _ (.tail _ (.head _))
  · rcases List.mem_cons.mp h with h | h
    · exact h ▸ .head _
    · rcases List.mem_cons.mp h with h | h
      · exact h ▸ .tail _ (.head _)
      · exact .tail _ (.tail _ (.tail _ (.tail _ h)))
end
/-- what stands at the start of a turn of the second loop -/
theorem turn2_item {h₀ h : Heap} {L : Addr} {Z tl own : List (Addr × Obj)} {ms rs : List Value} {mn rn tn un : Nat} {ds : List Row} {am ar ad at' : Addr} {va vb : Array Value} {j : Nat} {k : Int}
    (I : Inv1 Z ⟨ms, mn, rs, rn, ds⟩) (N : News h₀ L h ((at', listOf va tn) :: (ad, listOf vb un) :: (am, listOf ms.toArray mn) :: (ar, listOf rs.toArray rn) :: (Z ++ (tl ++ own))))
    (hd : ds.length = 9) (bd : ∀ d ∈ ds, d.x.length ≤ j ∧ d.y.length ≤ j) (ok : ∀ d ∈ ds, Fine d) (h0 : 0 ≤ k) (h1 : k < 9) :
    ∃ d ca dx ct ra rt, ms[k.toNat]? = some (Value.ref ca) ∧ rs[k.toNat]? = some (Value.ref ra) ∧ ms.length = 9 ∧ rs.length = 9 ∧ (d.x.length ≤ j ∧ d.y.length ≤ j) ∧ Fine d ∧ (ra, rowObj d rt) ∈ Z ∧
      News h₀ L h ((ca, compObj dx d ct) :: (dx, emptyDict) :: (ra, rowObj d rt) :: (at', listOf va tn) :: (ad, listOf vb un) :: (am, listOf ms.toArray mn) :: (ar, listOf rs.toArray rn) :: (Z ++ (tl ++ own))) ∧
      (Apart at' ca ∧ Apart at' dx ∧ Apart at' ra) ∧ (Apart ad ca ∧ Apart ad dx ∧ Apart ad ra) ∧ (Apart am ca ∧ Apart am dx ∧ Apart am ra) ∧ (Apart ar ca ∧ Apart ar dx ∧ Apart ar ra) := by
  have lm : ms.length = 9 := I.lm.trans hd
  have lr : rs.length = 9 := I.lr.trans hd
  obtain ⟨d, ca, dx, ct, ra, rt, e0, e1, e2, m1, m2, m3⟩ := I.item (k := k) h0 (by dsimp only; omega)
  dsimp only at e0 e1 e2
  have hm := List.mem_of_getElem? e0
  exact ⟨d, ca, dx, ct, ra, rt, e1, e2, lm, lr, bd d hm, ok d hm, m3, ext_mine N (fun p hp => .tail _ (.tail _ (.tail _ (.tail _ (List.mem_append.mpr (.inl hp)))))) (.head _) (.tail _ (.head _)) (.tail _ (.tail _ (.head _))) (.tail _ (.tail _ (.tail _ (.head _)))) m1 m2 m3⟩
section
variable {w : World} {s : Shared} {A : Around} {Q : Value → Shared → Prop} {E : Value → Shared → Prop} {h₀ : Heap} {L : Addr} {m : Str → Option Value} {news : List (Addr × Obj)}
theorem add_lit {x y : Str} {t u : Tok} {Q : Value → Shared → Prop} (hx : x.length ≤ 900) (hy : y.length ≤ 100) (h : ∀ t' tk, Q (.str (x ++ y) t') { s with toks := tk }) : wpAny (model prg w) A (binaryOp .Add (.str x t) (.str y u)) Q E s :=
  add_mine (by omega) h
theorem itemc_K {ca dx : Addr} {d : Row} {t : T4} {k : Int} {u : Tok} {j : Nat} {v : Value} {value slice : PySem.Expr} (X₀ : (Mine.hd.heap_39 w.params).In h₀) (F : Fr h₀ L s.heap m) (N : News h₀ L s.heap news) (h1 : (ca, compObj dx d t) ∈ news) (h2 : (dx, emptyDict) ∈ news)
    (hlo : -(2 ^ 63) ≤ k) (hhi : k < 2 ^ 63) (hj : seqIndex? k 4 = some j) (hx : (vals d t)[j]? = some v) (h : Q v s)
    (hs : subscripted slice false (.ref ca) (.int k u) = operate [.ref ca, .int k u] (getItem (.ref ca) (.int k u)) := by with_unfolding_all rfl) :
    wpAny (model prg w) A (subscriptTail value slice (.ref ca) (.int k u)) Q E s := tail_comp (Frag.In.keeps X₀ F.keep) (N _ h1).1 (N _ h2).1 hlo hhi hj hx h hs
theorem told_due {at' ad : Addr} {Lt : List (Addr × Obj)} {c : St2} (N : News h₀ L s.heap news) (m1 : (at', listOf c.ts.toArray c.tn) ∈ news) (m2 : (ad, listOf c.us.toArray c.un) ∈ news) (hs : ∀ p ∈ Lt, p ∈ news) (T : Inv2 Lt c) (hun : A.units ≤ 1000) (h : Q (.bool true) s) :
    wpAny (model prg w) A (compareOp .Eq (.ref at') (.ref ad)) Q E s := by
  obtain ⟨ds, as, bs, r1, r2, c1, e1⟩ := Twins.reads T (h := s.heap) fun p hp => (N p (hs p hp)).1
  have ra := reads_list_at (N _ m1).1 rfl rfl r1
  have rb := reads_list_at (N _ m2).1 rfl rfl r2
  have lay : PyData.canLay0 (.list ds) = true := c1
  have sh : SeqAt.shaped (.list ds) = true := by
    unfold SeqAt.shaped
    rw [lay, Bool.true_and, PyData.depth]
    exact decide_eq_true (by omega)
  refine eq_dataH ra rb sh sh (by have := cLine_is; omega) ?_
  rw [SeqAt.eqv_refl _ lay]
  exact h
end
end
end Mine

namespace Mine
section
open PySem PySem.W PySem.W.X PyProof.Rows PySem.Spec PySem.Calls PyProof.V
/-- a new place, apart from all that the second loop's ledger held -/
structure Far (at' ad am ar : Addr) (l : List (Addr × Obj)) (D : Addr) : Prop where
  a : at' ≠ D
  b : ad ≠ D
  c : am ≠ D
  d : ar ≠ D
  e : ∀ p ∈ l, p.1 ≠ D
section
variable {at' ad am ar D : Addr} {l Z tl own : List (Addr × Obj)}
theorem farLt (h1 : at' < D) (h2 : ad < D) (h3 : am < D) (h4 : ar < D) (h5 : AllLt D l) : Far at' ad am ar l D := ⟨Nat.ne_of_lt h1, Nat.ne_of_lt h2, Nat.ne_of_lt h3, Nat.ne_of_lt h4, allLt_mem h5⟩
theorem farNe (h1 : Apart at' D) (h2 : Apart ad D) (h3 : Apart am D) (h4 : Apart ar D) (h5 : AllNe D l) : Far at' ad am ar l D := ⟨h1, h2, h3, h4, allNe_mem h5⟩
theorem Far.hb (f : Far at' ad am ar (Z ++ (tl ++ own)) D) : ∀ b ∈ at' :: ad :: am :: ar :: Z.map (·.1), b ≠ D := by
  intro b hb
  rcases List.mem_cons.mp hb with h | hb
  · exact h ▸ f.a
  · rcases List.mem_cons.mp hb with h | hb
    · exact h ▸ f.b
    · rcases List.mem_cons.mp hb with h | hb
      · exact h ▸ f.c
      · rcases List.mem_cons.mp hb with h | hb
        · exact h ▸ f.d
        · obtain ⟨p, hp, rfl⟩ := List.mem_map.mp hb
          exact f.e p (List.mem_append.mpr (.inl hp))
theorem Far.hw (f : Far at' ad am ar (Z ++ (tl ++ own)) D) : ∀ p ∈ own, p.1 ≠ D := fun p hp => f.e p (List.mem_append.mpr (.inr (List.mem_append.mpr (.inr hp))))
end
theorem alls7 {α : Type} {P : α → Prop} {x1 x2 x3 x4 x5 x6 x7 : α} (h1 : P x1) (h2 : P x2) (h3 : P x3) (h4 : P x4) (h5 : P x5) (h6 : P x6) (h7 : P x7) : ∀ q ∈ [x1, x2, x3, x4, x5, x6, x7], P q := by
  intro q hq
  cases hq with
  | head => exact h1
  | tail _ hq => cases hq with
    | head => exact h2
    | tail _ hq => cases hq with
      | head => exact h3
      | tail _ hq => cases hq with
        | head => exact h4
        | tail _ hq => exact all3 h5 h6 h7 _ hq
theorem skip13 {α : Type} {p x1 x2 x3 x4 x5 x6 x7 x8 x9 x10 x11 x12 x13 : α} {l : List α} (h : p ∈ l) : p ∈ x1 :: x2 :: x3 :: x4 :: x5 :: x6 :: x7 :: x8 :: x9 :: x10 :: x11 :: x12 :: x13 :: l := by
  iterate 13 (refine List.mem_cons_of_mem _ ?_)
  exact h
abbrev tupObj (vs : List Value) : Obj := { cls := .type "tuple", data := .seq vs.toArray }
section
variable {w : World} {s : Shared} {A : Around} {Q : Value → Shared → Prop} {E : Value → Shared → Prop} {h₀ : Heap} {L : Addr}
theorem told_dueK {at' ad : Addr} {Lt : List (Addr × Obj)} {ts us : List Value} {tn un : Nat} (N : News h₀ L s.heap ((at', listOf ts.toArray tn) :: (ad, listOf us.toArray un) :: Lt)) (T : Inv2 Lt ⟨ts, tn, us, un⟩) (hun : A.units ≤ 1000) (h : Q (.bool true) s) :
    wpAny (model prg w) A (compareOp .Eq (.ref at') (.ref ad)) Q E s := told_due N (.head _) (.tail _ (.head _)) (fun _ h => .tail _ (.tail _ h)) T hun h
end
section
variable {h₀ : Heap} {x : Str} {m₀ m' : Str → Option Value} {at' ad am ar ca dx ra cb dy q f1 f2 f3 f4 f5 f6 n5 : Addr} {oq ob oy oc od : Obj} {nd nt rn mn tn un : Nat} {pre : List Int} {k : Int} {ms rs ts us : List Value} {d : Row} {ct rt : T4} {g1 g2 : Tok} {Z tl own : List (Addr × Obj)} {L : Addr} {h' : Heap} {tk : Nat} {s₁ : Shared}
theorem end2 (hsep : KdSep own tl (at' :: ad :: am :: ar :: Z.map (·.1))) (T : Inv2 ((am, listOf ms.toArray mn) :: (ar, listOf rs.toArray rn) :: Z ++ tl) ⟨ts, tn, us, un⟩) (hrZ : (ra, rowObj d rt) ∈ Z) (hf : Fine d)
    (p1 : ts.length = 3 * pre.length) (p2 : us.length = 3 * pre.length) (F : Fr h₀ L h' m')
    (N : News h₀ L h' ((f6, tupObj [.bool true, .bool false, .bool false, .bool false, .bool false, .bool false]) :: (f5, tupObj [.bool true, .bool false, .bool false, .bool false, .bool false, .bool false]) :: (cb, ob) :: (dy, oy) ::
      (f4, tupObj [.str d.x rt.a, .str d.y rt.b, .int d.i rt.c, .int d.j rt.d, .ref ra]) :: (f3, tupObj [.str d.x ct.a, .str d.y ct.b, .int d.i ct.c, .int d.j ct.d, .ref n5]) :: (n5, rowObj d ct) ::
      (f2, tupObj [.bool true, .int 4 g2, .str d.x rt.a, .str d.y rt.b, .int d.i rt.c, .int d.j rt.d]) :: (f1, tupObj [.bool true, .int 4 g1, .str d.x ct.a, .str d.y ct.b, .int d.i ct.c, .int d.j ct.d]) ::
      (q, oq) :: (ca, oc) :: (dx, od) :: (ra, rowObj d rt) :: (at', listOf (ts ++ [Value.ref f1] ++ [Value.ref f3] ++ [Value.ref f5]).toArray (tn + 1 + 1 + 1)) :: (ad, listOf (us ++ [Value.ref f2] ++ [Value.ref f4] ++ [Value.ref f6]).toArray (un + 1 + 1 + 1)) ::
      (am, listOf ms.toArray mn) :: (ar, listOf rs.toArray rn) :: (Z ++ (tl ++ own))))
    (w1 : Far at' ad am ar (Z ++ (tl ++ own)) f1) (w2 : Far at' ad am ar (Z ++ (tl ++ own)) f2) (w3 : Far at' ad am ar (Z ++ (tl ++ own)) f3) (w4 : Far at' ad am ar (Z ++ (tl ++ own)) f4)
    (w5 : Far at' ad am ar (Z ++ (tl ++ own)) f5) (w6 : Far at' ad am ar (Z ++ (tl ++ own)) f6) (w7 : Far at' ad am ar (Z ++ (tl ++ own)) n5)
    (hr : ∀ z, z ≠ x → (∀ p ∈ ([] : List (Str × Value)), z ≠ p.1) → names2.contains z = false → m' z = m₀ z) :
    InvEndG h₀ L (KdS (Led2 at' ad) ((am, listOf ms.toArray mn) :: (ar, listOf rs.toArray rn) :: Z) (fun _ => []) Inv2 x names2 m₀ P2 (at' :: ad :: am :: ar :: Z.map (·.1)) (pre ++ [k])) own s₁ { s₁ with heap := h', toks := tk } := by
  refine kd_end (c := ⟨ts ++ [Value.ref f1] ++ [Value.ref f3] ++ [Value.ref f5], tn + 1 + 1 + 1, us ++ [Value.ref f2] ++ [Value.ref f4] ++ [Value.ref f6], un + 1 + 1 + 1⟩)
    [(f1, tupObj [.bool true, .int 4 g1, .str d.x ct.a, .str d.y ct.b, .int d.i ct.c, .int d.j ct.d]), (f2, tupObj [.bool true, .int 4 g2, .str d.x rt.a, .str d.y rt.b, .int d.i rt.c, .int d.j rt.d]), (n5, rowObj d ct),
      (f3, tupObj [.str d.x ct.a, .str d.y ct.b, .int d.i ct.c, .int d.j ct.d, .ref n5]), (f4, tupObj [.str d.x rt.a, .str d.y rt.b, .int d.i rt.c, .int d.j rt.d, .ref ra]),
      (f5, tupObj [.bool true, .bool false, .bool false, .bool false, .bool false, .bool false]), (f6, tupObj [.bool true, .bool false, .bool false, .bool false, .bool false, .bool false])]
    hsep F N ?_ ?_ rfl ?_ ?_ (fun _ hp => (nomatch hp)) hr ?_ ?_
  · intro p hp
    rcases List.mem_append.mp hp with h | h
    · rcases List.mem_cons.mp h with h | h
      · exact skip13 (h ▸ .head _)
      · exact skip13 (.tail _ (List.mem_singleton.mp h ▸ .head _))
    · rcases List.mem_append.mp h with h | h
      · rcases List.mem_cons.mp h with h | h
        · exact skip13 (.tail _ (.tail _ (h ▸ .head _)))
        · rcases List.mem_cons.mp h with h | h
          · exact skip13 (.tail _ (.tail _ (.tail _ (h ▸ .head _))))
          · exact skip13 (.tail _ (.tail _ (.tail _ (.tail _ (List.mem_append.mpr (.inl h))))))
      · rcases List.mem_append.mp h with h | h
        · refine (?_ : ∀ z ∈ _, z ∈ _) p h
          refine alls7 ?_ ?_ ?_ ?_ ?_ ?_ ?_ <;> k_memK
        · exact skip13 (.tail _ (.tail _ (.tail _ (.tail _ (List.mem_append.mpr (.inr (List.mem_append.mpr (.inl h))))))))
  · intro p hp
    exact skip13 (.tail _ (.tail _ (.tail _ (.tail _ (List.mem_append.mpr (.inr (List.mem_append.mpr (.inr hp))))))))
  · refine alls7 (P := fun (z : Addr × Obj) => ∀ b ∈ at' :: ad :: am :: ar :: Z.map (·.1), b ≠ z.1) ?_ ?_ ?_ ?_ ?_ ?_ ?_
    exact w1.hb; exact w2.hb; exact w7.hb; exact w3.hb; exact w4.hb; exact w5.hb; exact w6.hb
  · refine alls7 (P := fun (z : Addr × Obj) => ∀ p ∈ own, p.1 ≠ z.1) ?_ ?_ ?_ ?_ ?_ ?_ ?_
    exact w1.hw; exact w2.hw; exact w7.hw; exact w3.hw; exact w4.hw; exact w5.hw; exact w6.hw
  · have T' := Twins.mono (kd_sub (cst := (am, listOf ms.toArray mn) :: (ar, listOf rs.toArray rn) :: Z) (add := [(f1, tupObj [.bool true, .int 4 g1, .str d.x ct.a, .str d.y ct.b, .int d.i ct.c, .int d.j ct.d]), (f2, tupObj [.bool true, .int 4 g2, .str d.x rt.a, .str d.y rt.b, .int d.i rt.c, .int d.j rt.d]), (n5, rowObj d ct),
      (f3, tupObj [.str d.x ct.a, .str d.y ct.b, .int d.i ct.c, .int d.j ct.d, .ref n5]), (f4, tupObj [.str d.x rt.a, .str d.y rt.b, .int d.i rt.c, .int d.j rt.d, .ref ra]),
      (f5, tupObj [.bool true, .bool false, .bool false, .bool false, .bool false, .bool false]), (f6, tupObj [.bool true, .bool false, .bool false, .bool false, .bool false, .bool false])])) T
    have four : ∀ {k Lt} {vs us : List Value}, Twins k Lt vs us → Twins k Lt (.str d.x ct.a :: .str d.y ct.b :: .int d.i ct.c :: .int d.j ct.d :: vs) (.str d.x rt.a :: .str d.y rt.b :: .int d.i rt.c :: .int d.j rt.d :: us) :=
      fun h => .cons (Twin.str _ _ hf.x) (.cons (Twin.str _ _ hf.y) (.cons (Twin.int _ _ _) (.cons (Twin.int _ _ _) h)))
    refine Twins.append (Twins.append (Twins.append T' (.cons ?_ .nil)) (.cons ?_ .nil)) (.cons ?_ .nil)
    · exact Twin.tup (k := 2) (kd_new (by k_memK)) (kd_new (by k_memK)) (.cons (Twin.bool _) (.cons (Twin.int _ _ _) (four .nil)))
    · refine Twin.tup (k := 2) (kd_new (by k_memK)) (kd_new (by k_memK)) (four (.cons ?_ .nil))
      exact Twin.tup (k := 1) (vs := [.str d.x ct.a, .str d.y ct.b, .int d.i ct.c, .int d.j ct.d]) (us := [.str d.x rt.a, .str d.y rt.b, .int d.i rt.c, .int d.j rt.d]) (kd_new (by k_memK)) (List.mem_append.mpr (.inl (.tail _ (.tail _ hrZ)))) (four .nil)
    · exact Twin.tup (k := 2) (kd_new (by k_memK)) (kd_new (by k_memK)) (.cons (Twin.bool _) (.cons (Twin.bool _) (.cons (Twin.bool _) (.cons (Twin.bool _) (.cons (Twin.bool _) (.cons (Twin.bool _) .nil))))))
  · constructor <;> simp only [List.length_append, List.length_cons, List.length_nil, p1, p2] <;> omega
end
end
end Mine

namespace Mine
section
open PySem PySem.W PySem.W.X PyProof.Rows PySem.Spec PySem.Calls
local macro_rules | `(tactic| k_ne) => `(tactic| (refine neN ?_; (try dsimp only); first | exact Apart.ne (by assumption) | exact Apart.ne' (by assumption)))
local macro_rules | `(tactic| walk_at "call ref") => `(tactic| (k_here; (with_reducible show wpAny _ _ (call (Value.ref 149) ([] ++ [])) _ _ _); (refine' comp_nil_K ?k1 ?k2 ?k3 ?k4 ?k5 ?k6 ?k7 ?_; (case k1 => rfl); (case k2 => (simp only [depth_in1, depth_deeper, depth_caller]; decide)); (case k3 => (simp only [units_in1, units_deeper, units_caller]; decide)); (case k4 => k_asm); (case k5 => k_asm); (case k6 => k_asm); (case k7 => k_asm)); intro ad' dx' h' tk' F' N' l1 l2 l3; (replace l1 := allNe_of l1); (replace l2 := allNe_of l2); (simp only [AllNe, and_true] at l1 l2); (repeat (obtain ⟨_, l1⟩ := l1)); (repeat (obtain ⟨_, l2⟩ := l2)); (try k_sweep)))
local macro_rules | `(tactic| walk_at "pyIter ref") => `(tactic| ((with_reducible show wpAny _ _ (pyIter (Value.ref _)) (fun it s₂ => LoopAtV _ _ _ _ _ _ _ _ _ it s₂) _ _); refine hold ?_))
local macro_rules | `(tactic| walk_at "eval Call") => `(tactic| ((with_reducible show wpAny _ _ (eval (Expr.Call (Expr.Name (PySem.Str.ofString "_law_at") _) _ [] _) _) _ _ _); k_dflt (refine Call_ ?_)))
local macro_rules | `(tactic| walk_at "call ref") => `(tactic| (k_here; (with_reducible show wpAny _ _ (call (Value.ref 160) _) _ _ _); k_dflt (refine' at_use ?k1 ?k2 ?k3 ?k4 ?k5 ?k6 ?k7 ?k8 ?k9 ?k10 ?k11 ?k12 ?k13 ?_; (case k1 => assumption); (case k2 => k_asm); (case k3 => k_asm); (case k4 => k_asm); (case k5 => k_asm); (case k6 => rfl); (case k7 => assumption); (case k8 => assumption); (case k9 => omega); (case k10 => omega); (case k11 => omega); (case k12 => decide); (case k13 => decide); k_whole); intro z t h' tk' F' N'; (try k_sweep)))
local macro_rules | `(tactic| walk_at "call builtin:len") => `(tactic| (k_here; (with_reducible show wpAny _ _ (call (Value.builtin "len") [Value.ref _]) _ _ _); k_dflt (refine' len_mine ?k1 ?k2 ?k3 ?_; (case k1 => k_asm); (case k2 => k_memK); (case k3 => omega); k_whole); intro tk'))
local macro_rules | `(tactic| walk_at "binaryOp Mod int int") => `(tactic| (k_here; k_dflt (refine' mod_mine ?k1 ?_; (case k1 => omega); k_whole); intro r tk' hr0 hr1; k_dflt (obtain ⟨d, ca, dx, ct, ra, rt, hd, hxm, hxr, hbd, hfine, N', ⟨n1, n2, n3⟩, ⟨n4, n5, n6⟩, ⟨n7, n8, n9⟩, ⟨n10, n11, n12⟩⟩ := Turn1.item (by assumption) (by assumption) hr0 hr1); dsimp only at hd hxm hxr; (try k_sweep)))
local macro_rules | `(tactic| walk_at "binaryOp Mod int int") => `(tactic| (k_here; (with_reducible show wpAny _ _ (binaryOp Operator.Mod (Value.int _ _) (Value.int 6 _)) _ _ _); k_dflt (refine' mod_mine ?k1 ?_; (case k1 => omega); k_whole); intro r tk' hr0 hr1))
local macro_rules | `(tactic| walk_at "subscriptTail Name BinOp ref int") => `(tactic| (k_here; (with_reducible show wpAny _ _ (subscriptTail _ _ (Value.ref 153) (Value.int _ _)) _ _ _); k_dflt (refine' piece_mine ?k1 ?k2 ?k3 ?k4 ?_ ?k6; (case k1 => k_asm); (case k2 => k_asm); (case k3 => omega); (case k4 => omega); (case k6 => with_unfolding_all rfl); k_whole); intro x t' hx' hok'))
local macro_rules | `(tactic| walk_at "subscriptTail Name Name ref int") => `(tactic| (k_here; (with_reducible show wpAny _ _ (subscriptTail _ _ (Value.ref _) (Value.int _ _)) _ _ _); k_dflt (refine' item_mine ?k1 ?k2 ?k3 ?k4 ?k5 ?_ ?k6; (case k1 => k_asm); (case k2 => k_memK); (case k3 => omega); (case k4 => omega); (case k5 => assumption); (case k6 => with_unfolding_all rfl); k_whole)))
local macro_rules | `(tactic| walk_at "binaryOp Add str str") => `(tactic| (k_here; k_dflt (refine' add_mine ?k1 ?_; (case k1 => omega); k_whole); intro t' tk'))
local macro_rules | `(tactic| walk_at "call builtin:list.append") => `(tactic| (k_here; (with_reducible show wpAny _ _ (call (Value.builtin _) [Value.ref _, _]) _ _ _); k_dflt (refine' append_mine ?k1 ?k2 ?k3 ?k4 ?_; (case k1 => k_asm); (case k2 => k_asm); (case k3 => k_upd); (case k4 => ((try simp only [List.length_append, List.length_cons, List.length_nil]); omega)); k_whole); intro h' F' N'; (try k_sweep)))
local macro_rules | `(tactic| walk_at "call ref") => `(tactic| (k_here; (with_reducible show wpAny _ _ (call (Value.ref 149) _) _ _ _); k_dflt (refine' comp_new_K ?k1 ?k2 ?k3 ?k4 ?k5 ?k6 ?k7 ?_; (case k1 => rfl); (case k2 => (simp only [depth_in1, depth_deeper, depth_caller]; decide)); (case k3 => (simp only [units_in1, units_deeper, units_caller]; decide)); (case k4 => k_asm); (case k5 => k_asm); (case k6 => k_asm); (case k7 => k_asm); k_whole); intro ad' dx' h' tk' F' N' l1 l2 l3; (replace l1 := allNe_of l1); (replace l2 := allNe_of l2); (simp only [AllNe, and_true] at l1 l2); (repeat (obtain ⟨_, l1⟩ := l1)); (repeat (obtain ⟨_, l2⟩ := l2)); (try k_sweep)))
local macro_rules | `(tactic| walk_at "getAttr ref") => `(tactic| (k_here; (with_reducible show wpAny _ _ (getAttr (Value.ref _) (PySem.Str.ofString "segmented_string") _) _ _ _); k_dflt (refine' attr_of fo0 (get_tells0 _ _ _ _) (fun _ _ => rfl) ?B ?F ?X ?N ?h1 ?h2 ?T ?hk ?hdp ?hun ?hg ?_; (case B => k_asm); (case F => k_asm); (case X => k_asm); (case N => k_asm); (case h1 => k_memK); (case h2 => k_memK); (case T => k_asm); (case hk => rfl); (case hdp => ((simp only [depth_in1, depth_deeper, depth_caller]); omega)); (case hun => ((simp only [units_in1, units_deeper, units_caller]); omega)); (case hg => k_asm); k_whole); intro h' tk' F' N'; (try k_sweep)))
local macro_rules | `(tactic| walk_at "getAttr ref") => `(tactic| (k_here; (with_reducible show wpAny _ _ (getAttr (Value.ref _) (PySem.Str.ofString "corrected_string") _) _ _ _); k_dflt (refine' attr_of fo1 (get_tells1 _ _ _ _) (fun _ _ => rfl) ?B ?F ?X ?N ?h1 ?h2 ?T ?hk ?hdp ?hun ?hg ?_; (case B => k_asm); (case F => k_asm); (case X => k_asm); (case N => k_asm); (case h1 => k_memK); (case h2 => k_memK); (case T => k_asm); (case hk => rfl); (case hdp => ((simp only [depth_in1, depth_deeper, depth_caller]); omega)); (case hun => ((simp only [units_in1, units_deeper, units_caller]); omega)); (case hg => k_asm); k_whole); intro h' tk' F' N'; (try k_sweep)))
local macro_rules | `(tactic| walk_at "getAttr ref") => `(tactic| (k_here; (with_reducible show wpAny _ _ (getAttr (Value.ref _) (PySem.Str.ofString "distance_sum") _) _ _ _); k_dflt (refine' attr_of fo2 (get_tells2 _ _ _ _) (fun _ _ => rfl) ?B ?F ?X ?N ?h1 ?h2 ?T ?hk ?hdp ?hun ?hg ?_; (case B => k_asm); (case F => k_asm); (case X => k_asm); (case N => k_asm); (case h1 => k_memK); (case h2 => k_memK); (case T => k_asm); (case hk => rfl); (case hdp => ((simp only [depth_in1, depth_deeper, depth_caller]); omega)); (case hun => ((simp only [units_in1, units_deeper, units_caller]); omega)); (case hg => k_asm); k_whole); intro h' tk' F' N'; (try k_sweep)))
local macro_rules | `(tactic| walk_at "getAttr ref") => `(tactic| (k_here; (with_reducible show wpAny _ _ (getAttr (Value.ref _) (PySem.Str.ofString "log_prob_sum") _) _ _ _); k_dflt (refine' attr_of fo3 (get_tells3 _ _ _ _) (fun _ _ => rfl) ?B ?F ?X ?N ?h1 ?h2 ?T ?hk ?hdp ?hun ?hg ?_; (case B => k_asm); (case F => k_asm); (case X => k_asm); (case N => k_asm); (case h1 => k_memK); (case h2 => k_memK); (case T => k_asm); (case hk => rfl); (case hdp => ((simp only [depth_in1, depth_deeper, depth_caller]); omega)); (case hun => ((simp only [units_in1, units_deeper, units_caller]); omega)); (case hg => k_asm); k_whole); intro h' tk' F' N'; (try k_sweep)))
local macro_rules | `(tactic| walk_at "call builtin:isinstance") => `(tactic| (k_here; (with_reducible show wpAny _ _ (call (Value.builtin "isinstance") [Value.ref _, Value.ref _]) _ _ _); k_dflt (refine' isinst_K ?k1 ?k2 ?k3 ?k4 ?k5 ?k6 ?k7 ?k8 ?k9 ?_; (case k1 => rfl); (case k2 => (simp only [depth_in1, depth_deeper, depth_caller]; decide)); (case k3 => (simp only [units_in1, units_deeper, units_caller]; decide)); (case k4 => k_asm); (case k5 => k_asm); (case k6 => k_asm); (case k7 => k_asm); (case k8 => k_memK); (case k9 => k_memK); k_whole); intro h' tk' F' N'; (try k_sweep)))
local macro_rules | `(tactic| walk_at "call builtin:len") => `(tactic| (k_here; (with_reducible show wpAny _ _ (call (Value.builtin "len") [Value.ref _]) _ _ _); k_dflt (refine' len_K ?k1 ?k2 ?k3 ?k4 ?k5 ?k6 ?k7 ?k8 ?k9 ?_; (case k1 => rfl); (case k2 => (simp only [depth_in1, depth_deeper, depth_caller]; decide)); (case k3 => (simp only [units_in1, units_deeper, units_caller]; decide)); (case k4 => k_asm); (case k5 => k_asm); (case k6 => k_asm); (case k7 => k_asm); (case k8 => k_memK); (case k9 => k_memK); k_whole); intro u' h' tk' F' N'; (try k_sweep)))
local macro_rules | `(tactic| walk_at "call type:tuple") => `(tactic| (k_here; (with_reducible show wpAny _ _ (call (Value.type "tuple") [Value.ref _]) _ _ _); k_dflt (refine' tup_K ?k1 ?k2 ?k3 ?k4 ?k5 ?k6 ?k7 ?k8 ?k9 ?_; (case k1 => rfl); (case k2 => (simp only [depth_in1, depth_deeper, depth_caller]; decide)); (case k3 => (simp only [units_in1, units_deeper, units_caller]; decide)); (case k4 => k_asm); (case k5 => k_asm); (case k6 => k_asm); (case k7 => k_asm); (case k8 => k_memK); (case k9 => k_memK); k_whole); intro ad' h' tk' F' N' l1; (replace l1 := allNe_of l1); (simp only [AllNe, and_true] at l1); (repeat (obtain ⟨_, l1⟩ := l1)); (try k_sweep)))
local macro_rules | `(tactic| walk_at "subscriptTail Name Constant ref int") => `(tactic| (k_here; (with_reducible show wpAny _ _ (subscriptTail _ _ (Value.ref _) (Value.int _ _)) _ _ _); k_dflt (refine' itemc_K ?k1 ?k2 ?k3 ?k4 ?k5 ?k6 ?k7 ?k8 ?k9 ?_ ?k10; (case k1 => k_asm); (case k2 => k_asm); (case k3 => k_asm); (case k4 => k_memK); (case k5 => k_memK); (case k6 => decide); (case k7 => decide); (case k8 => rfl); (case k9 => rfl); (case k10 => with_unfolding_all rfl); k_whole)))
local macro_rules | `(tactic| walk_at "compareOp Eq ref ref") => `(tactic| (k_here; (with_reducible show wpAny _ _ (compareOp CmpOp.Eq (Value.ref _) (Value.ref _)) _ _ _); k_dflt (refine' eqj_K ?k1 ?k2 ?k3 ?k4 ?k5 ?k6 ?k7 ?k8 ?k9 ?k10 ?k11 ?_; (case k1 => rfl); (case k2 => (simp only [depth_in1, depth_deeper, depth_caller]; decide)); (case k3 => (simp only [units_in1, units_deeper, units_caller]; decide)); (case k4 => k_asm); (case k5 => k_asm); (case k6 => k_asm); (case k7 => k_asm); (case k8 => k_memK); (case k9 => k_memK); (case k10 => rfl); (case k11 => omega); k_whole); intro h' tk' F' N'; (try k_sweep)))
local macro_rules | `(tactic| walk_at "compareOp Eq ref ref") => `(tactic| (k_here; (with_reducible show wpAny _ _ (compareOp CmpOp.Eq (Value.ref _) (Value.ref _)) _ _ _); k_dflt (refine' eqi_K ?k1 ?k2 ?k3 ?k4 ?k5 ?k6 ?k7 ?k8 ?k9 ?k10 ?k11 ?_; (case k1 => rfl); (case k2 => (simp only [depth_in1, depth_deeper, depth_caller]; decide)); (case k3 => (simp only [units_in1, units_deeper, units_caller]; decide)); (case k4 => k_asm); (case k5 => k_asm); (case k6 => k_asm); (case k7 => k_asm); (case k8 => k_memK); (case k9 => k_memK); (case k10 => rfl); (case k11 => omega); k_whole); intro h' tk' F' N'; (try k_sweep)))
local macro_rules | `(tactic| walk_at "compareOp Eq ref ref") => `(tactic| (k_here; (with_reducible show wpAny _ _ (compareOp CmpOp.Eq (Value.ref _) (Value.ref _)) _ _ _); k_dflt (refine' eqy_K ?k1 ?k2 ?k3 ?k4 ?k5 ?k6 ?k7 ?k8 ?k9 ?k10 ?k11 ?_; (case k1 => rfl); (case k2 => (simp only [depth_in1, depth_deeper, depth_caller]; decide)); (case k3 => (simp only [units_in1, units_deeper, units_caller]; decide)); (case k4 => k_asm); (case k5 => k_asm); (case k6 => k_asm); (case k7 => k_asm); (case k8 => k_memK); (case k9 => k_memK); (case k10 => rfl); (case k11 => decide); k_whole); intro h' tk' F' N'; (try k_sweep)))
local macro_rules | `(tactic| walk_at "compareOp Eq ref ref") => `(tactic| (k_here; (with_reducible show wpAny _ _ (compareOp CmpOp.Eq (Value.ref _) (Value.ref _)) _ _ _); k_dflt (refine' eqx_K ?k1 ?k2 ?k3 ?k4 ?k5 ?k6 ?k7 ?k8 ?k9 ?k10 ?k11 ?_; (case k1 => rfl); (case k2 => (simp only [depth_in1, depth_deeper, depth_caller]; decide)); (case k3 => (simp only [units_in1, units_deeper, units_caller]; decide)); (case k4 => k_asm); (case k5 => k_asm); (case k6 => k_asm); (case k7 => k_asm); (case k8 => k_memK); (case k9 => k_memK); (case k10 => rfl); (case k11 => decide); k_whole); intro h' tk' F' N'; (try k_sweep)))
local macro_rules | `(tactic| walk_at "compareOp Eq ref ref") => `(tactic| (k_here; (with_reducible show wpAny _ _ (compareOp CmpOp.Eq (Value.ref _) (Value.ref _)) _ _ _); k_dflt (refine' eqs_K ?k1 ?k2 ?k3 ?k4 ?k5 ?k6 ?k7 ?k8 ?k9 ?k10 ?k11 ?k12 ?_; (case k1 => rfl); (case k2 => (simp only [depth_in1, depth_deeper, depth_caller]; decide)); (case k3 => (simp only [units_in1, units_deeper, units_caller]; decide)); (case k4 => k_asm); (case k5 => k_asm); (case k6 => k_asm); (case k7 => k_asm); (case k8 => k_memK); (case k9 => k_memK); (case k10 => k_memK); (case k11 => k_memK); (case k12 => rfl); k_whole); intro h' tk' F' N'; (try k_sweep)))
local macro_rules | `(tactic| walk_at "compareOp NotEq ref ref") => `(tactic| (k_here; (with_reducible show wpAny _ _ (compareOp CmpOp.NotEq (Value.ref _) (Value.ref _)) _ _ _); k_dflt (refine' nes_K ?k1 ?k2 ?k3 ?k4 ?k5 ?k6 ?k7 ?k8 ?k9 ?k10 ?k11 ?k12 ?_; (case k1 => rfl); (case k2 => (simp only [depth_in1, depth_deeper, depth_caller]; decide)); (case k3 => (simp only [units_in1, units_deeper, units_caller]; decide)); (case k4 => k_asm); (case k5 => k_asm); (case k6 => k_asm); (case k7 => k_asm); (case k8 => k_memK); (case k9 => k_memK); (case k10 => k_memK); (case k11 => k_memK); (case k12 => rfl); k_whole); intro h' tk' F' N'; (try k_sweep)))
local macro_rules | `(tactic| walk_at "binaryOp Add str str") => `(tactic| (k_here; k_dflt (refine' add_lit ?k1 ?k2 ?_; (case k1 => omega); (case k2 => decide); k_whole); intro t' tk'))
local macro_rules | `(tactic| walk_at "compareOp Eq ref ref") => `(tactic| (k_here; (with_reducible show wpAny _ _ (compareOp CmpOp.Eq (Value.ref _) (Value.ref _)) _ _ _); k_dflt (refine' told_dueK ?k1 ?k2 ?k3 ?_; (case k1 => k_asm); (case k2 => assumption); (case k3 => (simp only [units_in1, units_deeper, units_caller]; decide)); k_whole)))
local macro_rules | `(tactic| walk_at "InvEndG") => `(tactic| refine hold ?_)
theorem walk1 : PySem.Challenge.rw_db5020_01.Holds := Mine.hd (by
  w_strict (k_go0; (all_goals try k_fold); k_steps)
  refine unhold ?_
  rename Fr _ _ _ _ => lF'
  rename News _ _ _ _ => lN'
  rename IsRange _ _ _ _ _ _ _ _ => rgX
  refine' loop1 (by rfl) rgX lF' lN' ?turn ?done
  case turn =>
    clear lF' lN' rgX
    intro c tl pre k t u h tk own hk hlt hsep ho hfacts hinv F' N'
    obtain ⟨ms, mn, rs, rn, ds⟩ := c
    have kM := kstMark
    have kM' := kdMark
    have hs0 := sub_of hfacts N'
    dsimp only [Led1, names1, envOf] at N' F'
    simp only [List.cons_append, List.nil_append] at N' hs0 hfacts
    have ilm := hfacts.lm
    have ilr := hfacts.lr
    obtain ⟨plen, pbd, pok⟩ := hinv
    dsimp only at ilm ilr plen pbd
    obtain ⟨m1, m2, m3, m4⟩ := mems N'
    have T1 := Turn1.mk hs0 m1 m2 m3 m4 hfacts pbd pok
    clear m1 m2 m3 m4 hs0 hfacts pbd pok
    change wpAny _ _ _ _ _ _
    k_fold
    k_steps
    refine unhold ?_
    (repeat (rename _ ∧ _ => hh; cases hh))
    refine' end1 ?s1 ?s2 ?s3 ?s4 ?s5 ?s6 ?s7 ?f1 ?f2 ?s8 ?s9 ?s10 ?a1 ?a2 ?a3 ?a4 ?a5 ?a6 ?a7 ?x1 ?x2 ?x3 ?x4 ?x5 ?x6 ?x7 ?d1 ?d2 ?d3 ?d4 ?d5 ?d6 ?d7 ?hr
    case s1 => assumption
    case s2 => assumption
    case s3 => assumption
    case s4 => assumption
    case s5 => assumption
    case s6 => ((simp only [Str.length_append]); omega)
    case s7 => ((simp only [Str.length_append]); omega)
    case f1 => exact strOk_app (Fine.x (by assumption)) (by assumption)
    case f2 => exact strOk_app (Fine.y (by assumption)) (by assumption)
    case hr => kst_same
    all_goals assumption
  case done =>
    clear lF' lN' rgX
    intro c tl u h tk ho hfacts hinv F' N'
    obtain ⟨ms, mn, rs, rn, ds⟩ := c
    have kM := kstMark
    have kM' := kdMark
    dsimp only [Led1, names1, envOf] at N' F'
    simp only [List.cons_append, List.nil_append] at N' hfacts
    obtain ⟨plen, pbd, pok⟩ := hinv
    rw [rangeKs_length] at plen pbd
    dsimp only at plen pbd pok
    try k_fold
    k_steps
    refine unhold ?_
    rename Fr _ _ _ _ => lF2
    rename News _ _ _ _ => lN2
    rename IsRange _ _ _ _ _ _ _ _ => rg2
    refine' loop2 (by rfl) rg2 lF2 lN2 hfacts ho ?turn2 ?done2
    case turn2 =>
      clear lF2 lN2 rg2 hfacts ho
      intro Z hZ c tl pre k t u h tk own hk hlt hsep ho hfacts hinv F' N'
      obtain ⟨ts, tn, us, un⟩ := c
      dsimp only [Led2, names2, envOf] at N' F'
      simp only [List.cons_append, List.nil_append] at N'
      obtain ⟨pl1, pl2⟩ := hinv
      dsimp only at pl1 pl2
      obtain ⟨d, ca, dx, ct, ra, rt, hxm, hxr, lm9, lr9, hbd, hfine, hrZ, N', ⟨n1, n2, n3⟩, ⟨n4, n5, n6⟩, ⟨n7, n8, n9⟩, ⟨n10, n11, n12⟩⟩ := turn2_item (k := k) hZ N' plen pbd pok (by omega) (by omega)
      change wpAny _ _ _ _ _ _
      k_fold
      k_steps
      refine unhold ?_
      (repeat (rename _ ∧ _ => hh; cases hh))
      refine' end2 hsep hfacts hrZ hfine pl1 pl2 ?F ?N ?w1 ?w2 ?w3 ?w4 ?w5 ?w6 ?w7 ?hr
      case F => assumption
      case N => assumption
      case w1 => exact farLt (by assumption) (by assumption) (by assumption) (by assumption) (by assumption)
      case w2 => exact farLt (by assumption) (by assumption) (by assumption) (by assumption) (by assumption)
      case w3 => exact farLt (by assumption) (by assumption) (by assumption) (by assumption) (by assumption)
      case w4 => exact farLt (by assumption) (by assumption) (by assumption) (by assumption) (by assumption)
      case w5 => exact farLt (by assumption) (by assumption) (by assumption) (by assumption) (by assumption)
      case w6 => exact farLt (by assumption) (by assumption) (by assumption) (by assumption) (by assumption)
      case w7 => exact farNe (by assumption) (by assumption) (by assumption) (by assumption) (by assumption)
      case hr => kst_same
    case done2 =>
      clear lF2 lN2 rg2 hfacts ho
      intro Z c tl u h tk hfacts F' N'
      obtain ⟨ts, tn, us, un⟩ := c
      dsimp only [Led2, names2, envOf] at N' F'
      simp only [List.cons_append, List.nil_append] at N' hfacts
      try k_fold
      k_steps)
end
end Mine

theorem PySem.Challenge.cw_db5020_01_holds : PySem.Challenge.rw_db5020_01.Holds := by
  exact Mine.walk1
