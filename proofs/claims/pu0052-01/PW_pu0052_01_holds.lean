import PyProof.Rows.All
import Wide.All
import OpenK.AllK
import Wide.FinOn
import Lean
import PySem.Challenge.RW_pu0052_01
open PySem PySem.W PyProof.Rows
set_option Elab.async false
set_option linter.unusedVariables false
-- part HD
section
namespace Mine
set_option maxRecDepth 100000
set_option maxHeartbeats 8000000
-- the figures of the head written so that the head is checked whole, not in pieces: the pieces are 12 MB
local instance (priority := high) figures (n : Nat) : OfNat Nat n := ⟨n⟩
open_top hd for PySem.Challenge.rw_pu0052_01
end Mine
end
-- open_top leaves the arms of the tops on in this file: off again
theorem Mine.arms_off : True := by
  w_top off
  trivial
-- part CB
section
namespace Mine
set_option maxRecDepth 100000
set_option maxHeartbeats 8000000
noncomputable abbrev KK (w : World) := hd.heap_39 w.params
noncomputable abbrev PP := PySem.Challenge.rw_pu0052_01.row.prog
noncomputable abbrev LL := looseW hd.view_39 [Str.ofString "Whitespace"]
/-- a contract: the call of the def at f, its arguments vs, any ledger; md frames and mu C units are free -/
abbrev Con (md mu : Nat) (w : World) (f : Addr) (vs : List Value) (R : Tok → Value) : Prop :=
  ∀ (mean : ExcName → Option Value) (mg mb : Str → Option Value) (news : List (Addr × Obj)) (dp un : Nat) (gd : Option (List Code)) (cn : Str) (cs : Scope) (a : Addr) (ccd : Value) (cl : List (Str × Addr)) (outer : List Env) (A₀ : Around) (base h₀ : Heap) (L : Addr) (m : Str → Option Value) (s : Shared) (Q E : Value → Shared → Prop),
    Below A₀ base outer h₀ → Fr h₀ L s.heap m → (KK w).In h₀ → News h₀ L s.heap news → Top hd.view_39 LL mean mg mb h₀ → cs.kind = .function →
    dp + md < recursionLimit → un + mu < cLine → (∀ (t : Tok) (h' : Heap) (tk' : Nat), Fr h₀ L h' m → News h₀ L h' news → Q (R t) { s with heap := h', toks := tk' }) →
      wpAny (model PP w) (ktrTop dp un gd cn cs L a ccd cl outer) (call (.ref f) vs) Q E s
def lead (t b : Int) : Str := Txt.mul (Str.ofString "\t") t ++ Txt.mul (Str.ofString " ") b
theorem lead_ok (w : World) (t b : Int) (tt tb : Tok) (ht : t ≤ 8) (hb : b ≤ 8) (ht' : -8 ≤ t) (hb' : -8 ≤ b) :
   Con 2 20 w 150 [.int t tt, .int b tb] (fun tk => .str (lead t b) tk) := by
  unfold Con PP KK LL
  k_fill
  intro mean mg mb news dp un gd cn cs a ccd cl outer A₀ base h₀ L m s Q E B F X N T hk hdp hun hret
  refine wpAny_call ?_
  k_dflt cell_enter
  k_steps
  exact cb_retS hret rfl (by k_asm) (by k_asm)
def far (t b : Int) : Int := (t.natAbs : Int) + b.natAbs + (t + b).natAbs
theorem far_ok (w : World) (t b : Int) (tt tb : Tok) :
   Con 2 20 w 157 [.int t tt, .int b tb] (fun tk => .int (far t b) tk) := by
  unfold Con PP KK LL
  k_fill
  intro mean mg mb news dp un gd cn cs a ccd cl outer A₀ base h₀ L m s Q E B F X N T hk hdp hun hret
  refine wpAny_call ?_
  k_dflt cell_enter
  k_steps
  refine cb_retI hret ?_ (by k_asm) (by k_asm)
  unfold far
  omega
def subst (a b : Str) : Int := if a = b then 0 else if Txt.lower a = Txt.lower b then 1 else 2
theorem subst_ok (w : World) (a b : Str) (ta tb : Tok) (ha : a.length = 1) (hb : b.length = 1) :
   Con 2 20 w 136 [.str a ta, .str b tb] (fun tk => .int (subst a b) tk) := by
  unfold Con PP KK LL
  k_fill
  intro mean mg mb news dp un gd cn cs a ccd cl outer A₀ base h₀ L m s Q E B F X N T hk hdp hun hret
  refine wpAny_call ?_
  k_dflt cell_enter
  k_steps
  all_goals (refine cb_retI hret ?_ (by k_asm) (by k_asm); clear hret; unfold subst; simp_all)
end Mine
end
-- part LV0
section
namespace Mine
set_option maxRecDepth 100000
def lastS : List Stmt → Stmt
  | [] => .Pass ⟨0,0,0,0⟩
  | [x] => x
  | _ :: r => lastS r
def nthS : Nat → List Stmt → Stmt
  | _, [] => .Pass ⟨0,0,0,0⟩
  | 0, x :: _ => x
  | n + 1, _ :: r => nthS n r
def bodyOf : Stmt → List Stmt
  | .FunctionDef _ _ body _ _ _ _ _ _ _ => body
  | _ => []
def scopeOf : Stmt → Scope
  | .FunctionDef _ _ _ _ _ _ s _ _ _ => s
  | _ => default
/-- the def of a name at the top -/
def defAt (x : Str) : List Stmt → Stmt
  | [] => .Pass ⟨0,0,0,0⟩
  | .FunctionDef n a b c d e s t f p :: r => if n = x then .FunctionDef n a b c d e s t f p else defAt x r
  | _ :: r => defAt x r
noncomputable def levDef : Stmt := defAt (Str.ofString "_levenshtein_distance") PySem.Challenge.pw_pu0052_01.main.body
noncomputable def levScope : Scope := scopeOf levDef
noncomputable def lst (n : Nat) : Stmt := nthS n (bodyOf levDef)
noncomputable def lawDef : Stmt := lastS PySem.Challenge.pw_pu0052_01.main.body
noncomputable def lawBody : List Stmt := bodyOf lawDef
noncomputable def lawScope : Scope := scopeOf lawDef
noncomputable def st (n : Nat) : Stmt := nthS n lawBody
/-- a fact that the walk's lines do not look into -/
structure Hold (p : Prop) : Prop where
  out : p
def dropS : Nat → List Stmt → List Stmt
  | 0, l => l
  | _ + 1, [] => []
  | n + 1, _ :: r => dropS n r
def forBody : Stmt → List Stmt
  | .For _ _ body _ _ => body
  | _ => []
theorem fr_to {h₀ h : Heap} {L : Addr} {m m' : Str → Option Value} (F : Fr h₀ L h m) (e : ∀ y, m' y = m y) : Fr h₀ L h m' := (funext e : m' = m) ▸ F
/-- in a context: the walk stops at this key -/
def Stop (_ : String) : Prop := True
theorem stop (k : String) : Stop k := trivial
end Mine
end
-- the walk stops where the context bears the key
local macro_rules | `(tactic| walk_at $k:str) => `(tactic| ((with_reducible rename Mine.Stop $k => hStop); refine Mine.Hold.out ?_))
-- part LP
section
open PySem.Calls
namespace Mine
set_option maxRecDepth 100000
theorem kst_same {m : Str → Option Value} {l : List (Str × Value)} (h : ∀ p ∈ l, m p.1 = some p.2) (y : Str) : kstB m l y = m y := kstB_eq h fun _ => rfl
/-- the frame with the names that are asked for written out -/
theorem fr_names {h₀ h : Heap} {L : Addr} {m : Str → Option Value} (F : Fr h₀ L h m) (l : List (Str × Value)) (hl : ∀ p ∈ l, m p.1 = some p.2) : Fr h₀ L h (kstB m l) := fr_to F (kst_same hl)
theorem sub_cons {x : Addr × Obj} {news own : List (Addr × Obj)} : ∀ p ∈ x :: news, p ∈ x :: (news ++ own) := fun _ hp => (List.mem_cons.mp hp).elim (fun e => e ▸ List.mem_cons_self) fun h => List.mem_cons_of_mem _ (List.mem_append_left _ h)
theorem sub_own {x : Addr × Obj} {news own : List (Addr × Obj)} : ∀ p ∈ own, p ∈ x :: (news ++ own) := fun _ hp => List.mem_cons_of_mem _ (List.mem_append_right _ hp)
theorem allLt_mem {d : Nat} : ∀ {l : List (Addr × Obj)}, AllLt d l → ∀ p ∈ l, p.1 < d
  | [], _, _, h => nomatch h
  | _ :: _, ⟨h1, h2⟩, p, h => (List.mem_cons.mp h).elim (fun e => e ▸ h1) fun h => allLt_mem h2 p h
section
variable {prog : Program} {w : World} {A : Around} {E : Value → Shared → Prop} {s : Shared} {env : Env} {h₀ : Heap} {x : Str} {body : List Stmt} {Q : Flow → Shared → Prop}
/-- a loop over a range by ones, by what holds of the frame and of the ledger ahead of each turn -/
theorem iter_rangeJ {r : Addr} {a₀ b₀ : Int} {t₀ u₀ v₀ : Tok} {n : Nat} {m₀ : Str → Option Value} {news : List (Addr × Obj)} (J : Nat → (Str → Option Value) → List (Addr × Obj) → Prop)
    (hh : A.handled = none) (hr : IsRange s.heap r a₀ b₀ 1 t₀ u₀ v₀) (hsmall : Builtin.Range.small a₀ b₀ 1 = true) (hsz : Builtin.Range.rangeSize a₀ b₀ 1 = (n : Int)) (F : Fr h₀ env.locals s.heap m₀) (N : News h₀ env.locals s.heap news) (hj : J 0 m₀ news)
    (turn : ∀ i t m₁ nx h tk own, i < n → OwnOff own (nx.map (·.1)) → J i m₁ nx → Fr h₀ env.locals h (fun y => if y = x then some (.int (a₀ + (i : Nat)) t) else m₁ y) → News h₀ env.locals h (nx ++ own) →
      wpAny (model prog w) A (execs body env) (InvPostG h₀ env.locals (J (i + 1)) own { s with heap := h, toks := tk } Q) E { s with heap := h, toks := tk })
    (done : ∀ m₁ nx h tk, J n m₁ nx → Fr h₀ env.locals h m₁ → News h₀ env.locals h nx → Q .next { s with heap := h, toks := tk }) :
    wpAny (model prog w) A (pyIter (.ref r)) (fun it s₂ => LoopAtV prog w A h₀ env x body Q E it s₂) E s := by
  refine wpAny_pyIter_range hr hsmall ?_
  have W := (Walks.range (prog := prog) (w := w) hh s.heap.objs.size a₀ 1 n)
  refine kdr_loop J W (fun _ h => h) (fun _ h => h) ?_ ?_ ?_ ?_ (by show IsRangeIter _ _ _ _ _; rw [hsz]; simpa using Heap.get?_push_size _ rfl) (F.push _) (fun p hp => ⟨Heap.get?_push_of_some _ (N p hp).1, (N p hp).2⟩) hj ?_ ?_
  · intro i h hi b hb
    rw [List.mem_singleton.mp hb]
    exact ⟨_, hi⟩
  · intro hm
    exact absurd F.ns.lt ((List.mem_singleton.mp hm) ▸ Nat.lt_irrefl _)
  · intro b hb
    rw [List.mem_singleton.mp hb]
    exact next_is_new F
  · intro p hp hI
    exact absurd (Heap.lt_size (N p hp).1) ((List.mem_singleton.mp hI) ▸ Nat.lt_irrefl _)
  · rintro i v m₁ nx h tk own hi ⟨t, rfl⟩ hoff hJ F₁ N₁
    have e1 : a₀ + (i : Int) * 1 = a₀ + (i : Nat) := by omega
    rw [e1] at F₁
    exact turn i t m₁ nx h tk own hi hoff hJ F₁ N₁
  · intro m₁ nx h tk hJ F₁ N₁
    exact done m₁ nx h tk hJ F₁ N₁
end
theorem cut1 {n : Nat} {ys : List Value} (h : ys.length = n + 1) : ∃ a r, ys = a :: r ∧ r.length = n := by
  cases ys with
  | nil => exact absurd h (Nat.succ_ne_zero n).symm
  | cons a r => exact ⟨a, r, rfl, Nat.succ.inj h⟩
theorem len3 {ys : List Value} (h : ys.length = 3) : ∃ a b c, ys = [a, b, c] := by
  obtain ⟨a, r, rfl, h1⟩ := cut1 h
  obtain ⟨b, r, rfl, h2⟩ := cut1 h1
  obtain ⟨c, r, rfl, h3⟩ := cut1 h2
  rw [List.eq_nil_of_length_eq_zero h3]
  exact ⟨a, b, c, rfl⟩
theorem len4 {ys : List Value} (h : ys.length = 4) : ∃ a b c d, ys = [a, b, c, d] := by
  obtain ⟨a, r, rfl, h1⟩ := cut1 h
  obtain ⟨b, c, d, rfl⟩ := len3 h1
  exact ⟨a, b, c, d, rfl⟩
end Mine
end
-- part FC
section
open PySem.Calls
namespace Mine
set_option maxRecDepth 100000
section
variable {prog : Program} {w : World} {A : Around} {E : Value → Shared → Prop} {s : Shared} {env : Env} {h₀ : Heap} {x : Str} {body : List Stmt}
/-- what a turn owes: the target is stored by the model's own step, then the body walks -/
def TurnC (prog : Program) (w : World) (A : Around) (h₀ : Heap) (env : Env) (x : Str) (body : List Stmt) (Q : Flow → Shared → Prop) (E : Value → Shared → Prop) (s : Shared) (n : Nat) (P : Nat → Value → Prop) (J : Nat → (Str → Option Value) → List (Addr × Obj) → Prop) : Prop :=
  ∀ i v m₁ nx h tk own, i < n → P i v → OwnOff own (nx.map (·.1)) → J i m₁ nx → Fr h₀ env.locals h m₁ → News h₀ env.locals h (nx ++ own) →
    wpAny (model prog w) A (storeName env x v) (fun _ s₂ => wpAny (model prog w) A (execs body env) (InvPostG h₀ env.locals (J (i + 1)) own { s with heap := h, toks := tk } Q) E s₂) E { s with heap := h, toks := tk }
theorem loop_any {R : Result → Shared → Prop} {px : Pos} {I : Addr} {fp : List Addr} {n : Nat} {P : Nat → Value → Prop} {St : Nat → Heap → Prop} {m : Str → Option Value} {news : List (Addr × Obj)} (J : Nat → (Str → Option Value) → List (Addr × Obj) → Prop) (kp : List (Addr × Obj))
    (W : Walks prog w A I fp [I] n P St) (live : ∀ i h, St i h → ∃ o, h.get? I = some o) (hfp : ∀ b ∈ fp, b = I ∨ ∃ o, (b, o) ∈ kp) (hLf : env.locals ∉ fp) (hI : h₀.get? I = none) (hJk : ∀ i m nx, J i m nx → ∀ p ∈ kp, p ∈ nx) (hnw : ∀ p ∈ news, p.1 ≠ I)
    (hst : St 0 s.heap) (F : Fr h₀ env.locals s.heap m) (N : News h₀ env.locals s.heap news) (h0 : J 0 m news)
    (turn : TurnC prog w A h₀ env x body (fun f s' => R (.ok f) s') (notedBy (model prog w) A env fun e s' => R (.error e) s') s n P J)
    (done : ∀ m₁ nx h tk, J n m₁ nx → Fr h₀ env.locals h m₁ → News h₀ env.locals h nx → R (.ok .next) { s with heap := h, toks := tk }) :
    codeAny (model prog w) A (.forLoop (.Name x px) (.ref I) body [] env) R s := by
  have hIf : I ∈ fp := W.sub _ List.mem_cons_self
  have hLI : env.locals ≠ I := fun e => hLf (e ▸ hIf)
  refine codeAny_forLoop (fun k s' => ∃ i h tk m₁ nx, k = n + 1 - i ∧ i ≤ n ∧ s' = { s with heap := h, toks := tk } ∧ St i h ∧ Fr h₀ env.locals h m₁ ∧ News h₀ env.locals h nx ∧ (∀ p ∈ nx, p.1 ≠ I) ∧ J i m₁ nx) ?_ (n + 1) ⟨0, s.heap, s.toks, m, news, rfl, Nat.zero_le _, rfl, hst, F, N, hnw, h0⟩
  rintro k s' ⟨i, h, tk, m₁, nx, rfl, hi, rfl, hS, F₁, N₁, hx, hJ⟩
  have move : ∀ g : Heap, (∀ b o, b ∉ [I] → h.get? b = some o → g.get? b = some o) → Fr h₀ env.locals g m₁ ∧ News h₀ env.locals g nx := by
    intro g hg
    have hg' : ∀ b o, b ≠ I → h.get? b = some o → g.get? b = some o := fun b o hb e => hg b o (fun q => hb (List.mem_singleton.mp q)) e
    refine ⟨⟨F₁.ns.at' fun o e => hg' _ o hLI e, fun b o e => hg' b o (fun q => ?_) (F₁.keep b o e), F₁.above⟩, fun p hp => ⟨hg' _ _ (hx p hp) (N₁ p hp).1, (N₁ p hp).2⟩⟩
    rw [q, hI] at e
    cases e
  rcases Nat.lt_or_ge i n with hlt | hge
  · refine W.item i _ _ _ hlt hS fun v g tg hP hSg hg => ?_
    obtain ⟨Fg, Ng⟩ := move g hg
    obtain ⟨oI, eI⟩ := live _ _ hSg
    have Nw : News h₀ env.locals g (nx ++ [(I, oI)]) := by
      intro p hp
      rcases List.mem_append.mp hp with hp | hp
      · exact Ng p hp
      · rw [List.mem_singleton.mp hp]
        exact ⟨eI, Ne.symm hLI, hI⟩
    have off : OwnOff [(I, oI)] (nx.map (·.1)) := by
      intro p hp b hb e
      obtain ⟨q, hq, rfl⟩ := List.mem_map.mp hb
      rw [List.mem_singleton.mp hp] at e
      exact hx q hq e.symm
    have fin : ∀ s₃, InvEndG h₀ env.locals (J (i + 1)) [(I, oI)] { s with heap := g, toks := tg } s₃ →
        ∃ k', k' < n + 1 - i ∧ ∃ j h tk m₁ nx, k' = n + 1 - j ∧ j ≤ n ∧ s₃ = { s with heap := h, toks := tk } ∧ St j h ∧ Fr h₀ env.locals h m₁ ∧ News h₀ env.locals h nx ∧ (∀ p ∈ nx, p.1 ≠ I) ∧ J j m₁ nx := by
      rintro s₃ ⟨h', t', m', news', nx', rfl, F', N', hn, ho, ha, hJ'⟩
      refine ⟨n + 1 - (i + 1), by omega, i + 1, h', t', m', nx', rfl, hlt, rfl, ?_, F', fun p hp => N' p (hn p hp), fun p hp e => ha _ List.mem_cons_self p.1 (List.mem_map.mpr ⟨p, hp, rfl⟩) e.symm, hJ'⟩
      refine W.frame _ _ _ hSg fun b hb o e => ?_
      rcases hfp b hb with rfl | ⟨o', ho'⟩
      · have : o = oI := by rw [eI] at e; exact (Option.some.inj e).symm
        subst this
        exact (N' _ (ho _ List.mem_cons_self)).1
      · have h1 := (Ng _ (hJk _ _ _ hJ _ ho')).1
        have : o = o' := by rw [show g.get? b = some o' from h1] at e; exact (Option.some.inj e).symm
        subst this
        exact (N' _ (hn _ (hJk _ _ _ hJ' _ ho'))).1
    refine wpAny_assign_Name (wpAny_mono (turn i v m₁ nx g tg [(I, oI)] hlt hP off hJ Fg Nw) (fun _ s₂ h₂ => wpAny_mono h₂ (fun f s₃ h₃ => ?_) fun _ _ e => e) fun _ _ e => e)
    cases f with
    | ret v => exact h₃
    | brk => exact h₃
    | next => exact fin _ h₃
    | cont => exact fin _ h₃
  · have e : i = n := Nat.le_antisymm hi hge
    subst e
    refine W.done _ _ _ hS fun g tg hg => wpAny_execs_nil ?_
    obtain ⟨Fg, Ng⟩ := move g hg
    exact done m₁ nx g tg hJ Fg Ng
end
section
variable {prog : Program} {w : World} {A : Around} {E : Value → Shared → Prop} {s : Shared} {env : Env} {h₀ : Heap} {x : Str} {body : List Stmt} {Q : Flow → Shared → Prop}
/-- what a for over an iterable wants -/
def ItC (prog : Program) (w : World) (A : Around) (h₀ : Heap) (env : Env) (x : Str) (body : List Stmt) (Q : Flow → Shared → Prop) (E : Value → Shared → Prop) (it : Value) (s₂ : Shared) : Prop :=
  ∃ (I : Addr) (fp : List Addr) (n : Nat) (P : Nat → Value → Prop) (St : Nat → Heap → Prop) (m : Str → Option Value) (news kp : List (Addr × Obj)) (J : Nat → (Str → Option Value) → List (Addr × Obj) → Prop),
    it = .ref I ∧ Walks prog w A I fp [I] n P St ∧ (∀ i h, St i h → ∃ o, h.get? I = some o) ∧ (∀ b ∈ fp, b = I ∨ ∃ o, (b, o) ∈ kp) ∧ env.locals ∉ fp ∧ h₀.get? I = none ∧ (∀ i m nx, J i m nx → ∀ p ∈ kp, p ∈ nx) ∧ (∀ p ∈ news, p.1 ≠ I) ∧
    St 0 s₂.heap ∧ Fr h₀ env.locals s₂.heap m ∧ News h₀ env.locals s₂.heap news ∧ J 0 m news ∧ TurnC prog w A h₀ env x body Q E s₂ n P J ∧
    (∀ m₁ nx h tk, J n m₁ nx → Fr h₀ env.locals h m₁ → News h₀ env.locals h nx → Q .next { s₂ with heap := h, toks := tk })
/-- a for whose target is any name: its store is left to the walk -/
theorem For_any {px pos : Pos} {iter : Expr} (h₀ : Heap)
    (h : wpAny (model prog w) A (eval iter env) (fun xv s₁ => wpAny (model prog w) A (pyIter xv) (fun it s₂ => ItC prog w A h₀ env x body Q E it s₂) E s₁) E s)
    (hs : ∀ x, foldedSetIterable iter env x = pure x := by intro _; rfl)
    (hE : PassesOwn (model prog w) A env E := by passes_own) :
    wpAny (model prog w) A (exec (.For (.Name x px) iter body [] pos) env) Q E s := by
  refine wpAny_For (wpAny_mono h (fun xv s₁ h₁ => wpAny_mono h₁ (fun it s₂ h₂ => ?_) fun _ _ e => e) fun _ _ e => e) hs
  obtain ⟨I, fp, n, P, St, m, news, kp, J, rfl, W, lv, hfp, hLf, hI, hJk, hnw, hst, F, N, h0, turn, done⟩ := h₂
  refine loop_any (R := fun r s' => match r with | .ok f => Q f s' | .error e => cameBackBy (model prog w) A env E e s') J kp W lv hfp hLf hI hJk hnw hst F N h0 ?_ done
  intro i v m₁ nx h tk own a b c d e f
  exact wpAny_mono (wpAny_passesOwn hE (turn i v m₁ nx h tk own a b c d e f)) (fun _ _ z => wpAny_passesOwn hE z) (fun _ _ z => z)
theorem it_range {r : Addr} {a₀ b₀ : Int} {t₀ u₀ v₀ : Tok} {n : Nat} {m₀ : Str → Option Value} {news : List (Addr × Obj)} (J : Nat → (Str → Option Value) → List (Addr × Obj) → Prop)
    (hh : A.handled = none) (hr : IsRange s.heap r a₀ b₀ 1 t₀ u₀ v₀) (hsmall : Builtin.Range.small a₀ b₀ 1 = true) (hsz : Builtin.Range.rangeSize a₀ b₀ 1 = (n : Int)) (F : Fr h₀ env.locals s.heap m₀) (N : News h₀ env.locals s.heap news) (hj : J 0 m₀ news)
    (turn : TurnC prog w A h₀ env x body Q E s n (fun i v => ∃ t, v = .int (a₀ + (i : Int)) t) J)
    (done : ∀ m₁ nx h tk, J n m₁ nx → Fr h₀ env.locals h m₁ → News h₀ env.locals h nx → Q .next { s with heap := h, toks := tk }) :
    wpAny (model prog w) A (pyIter (.ref r)) (fun it s₂ => ItC prog w A h₀ env x body Q E it s₂) E s := by
  refine wpAny_pyIter_range hr hsmall ?_
  refine ⟨s.heap.objs.size, _, n, _, _, m₀, news, [], J, rfl, Walks.range (prog := prog) (w := w) hh s.heap.objs.size a₀ 1 n, fun i h st => ⟨_, st⟩, fun b hb => .inl (List.mem_singleton.mp hb), ?_, next_is_new F, fun _ _ _ _ p hp => (nomatch hp), ?_, (by show IsRangeIter _ _ _ _ _; rw [hsz]; simpa using Heap.get?_push_size _ rfl), F.push _, (fun p hp => ⟨Heap.get?_push_of_some _ (N p hp).1, (N p hp).2⟩), hj, ?_, done⟩
  · intro hm
    exact absurd F.ns.lt ((List.mem_singleton.mp hm) ▸ Nat.lt_irrefl _)
  · intro p hp e
    exact absurd (Heap.lt_size (N p hp).1) (e ▸ Nat.lt_irrefl _)
  · rintro i v m₁ nx h tk own hi ⟨t, rfl⟩
    have e1 : a₀ + (i : Int) * 1 = a₀ + (i : Int) := by omega
    rw [e1]
    exact turn i _ m₁ nx h tk own hi ⟨t, rfl⟩
theorem it_list {l : Addr} {its : Array Value} {k : Nat} {m₀ : Str → Option Value} {news : List (Addr × Obj)} (J : Nat → (Str → Option Value) → List (Addr × Obj) → Prop)
    (hh : A.handled = none) (hl : (l, listOf its k) ∈ news) (F : Fr h₀ env.locals s.heap m₀) (N : News h₀ env.locals s.heap news) (hj : J 0 m₀ news) (hJl : ∀ i m nx, J i m nx → (l, listOf its k) ∈ nx)
    (turn : TurnC prog w A h₀ env x body Q E s its.size (fun i v => its[i]? = some v) J)
    (done : ∀ m₁ nx h tk, J its.size m₁ nx → Fr h₀ env.locals h m₁ → News h₀ env.locals h nx → Q .next { s with heap := h, toks := tk }) :
    wpAny (model prog w) A (pyIter (.ref l)) (fun it s₂ => ItC prog w A h₀ env x body Q E it s₂) E s := by
  have hol : s.heap.get? l = some (listOf its k) := (N _ hl).1
  have hls : s.heap.IsList l its := ⟨_, hol, rfl, k, rfl⟩
  have hlt := Heap.lt_size hol
  refine wpAny_pyIter_list hls ?_
  refine ⟨s.heap.objs.size, _, its.size, _, _, m₀, news, [(l, listOf its k)], J, rfl, Walks.list (prog := prog) (w := w) hh s.heap.objs.size l (Nat.ne_of_lt hlt) its, fun i h st => ?_, fun b hb => ?_, ?_, next_is_new F, fun _ _ _ hJ p hp => (List.mem_singleton.mp hp) ▸ hJl _ _ _ hJ, ?_, ⟨⟨_, Heap.get?_push_size _ rfl, rfl, rfl⟩, hls.push _⟩, F.push _, (fun p hp => ⟨Heap.get?_push_of_some _ (N p hp).1, (N p hp).2⟩), hj, turn, done⟩
  · obtain ⟨o, e, _⟩ := st.1
    exact ⟨o, e⟩
  · rcases List.mem_cons.mp hb with e | hb
    · exact .inl e
    · exact .inr ⟨_, List.mem_singleton.mpr (by rw [List.mem_singleton.mp hb])⟩
  · intro hm
    rcases List.mem_cons.mp hm with e | hm
    · exact absurd F.ns.lt (e ▸ Nat.lt_irrefl _)
    · exact (N _ hl).2.1 (List.mem_singleton.mp hm).symm
  · intro p hp e
    exact absurd (Heap.lt_size (N p hp).1) (e ▸ Nat.lt_irrefl _)
end
end Mine
end
-- part LB
section
namespace Mine
set_option maxRecDepth 100000
/-- the body of the law's inner loop -/
noncomputable def lbst (n : Nat) : Stmt := nthS n (forBody (nthS 0 (forBody (st 10))))
def ifBody : Stmt → List Stmt
  | .If _ body _ _ => body
  | _ => []
end Mine
end
-- part CP
section
namespace Mine
set_option maxRecDepth 100000
theorem bools_of : ∀ (ys : List Value) (f : Nat → Bool), (∀ i y, ys[i]? = some y → y = Value.bool (f i)) → LSm.BoolsAre ys ((List.range ys.length).map f)
  | [], _, _ => LSm.BoolsAre.nil
  | y :: ys, f, h => by
    have e := h 0 y rfl
    subst e
    rw [List.length_cons, List.range_succ_eq_map, List.map_cons, List.map_map]
    exact LSm.BoolsAre.cons _ (bools_of ys (fun i => f (i + 1)) fun i y hy => h (i + 1) y (by simpa using hy))
section
variable {prog : Program} {w : World} {A : Around} {s : Shared} {h₀ : Heap} {L : Addr} {m : Str → Option Value} {env : Env}
/-- a list comprehension whose element makes nothing that is kept -/
theorem comp_pure {elt : PySem.Expr} {x : Str} {scope : Scope} {cl : List (Str × Addr)} {S : List (Addr × Obj) → Prop} {P : Nat → Value → Prop} {Fin : List Value → List (Addr × Obj) → Prop} {n : Nat} {news : List (Addr × Obj)} (R : Nat → Value → Prop) (hS : S news)
    (turn : ∀ i v I oI C oC D m₂ ys h tk (E' : Value → Shared → Prop), i < n → P i v → LCg.NsObj oC m₂ → m₂ x = some v → Fr h₀ L h m → News h₀ L h ((I, oI) :: (C, oC) :: (D, LCg.lst ys) :: news) →
      wpAny (model prog w) A (eval elt (compEnvC scope cl C env)) (fun y s₂ => Hold (∃ h' tk', s₂ = { s with heap := h', toks := tk' } ∧ Fr h₀ L h' m ∧ News h₀ L h' ((I, oI) :: (C, oC) :: (D, LCg.lst ys) :: news) ∧ R i y)) E' { s with heap := h, toks := tk })
    (fin : ∀ ys : List Value, ys.length = n → (∀ i y, ys[i]? = some y → R i y) → Fin ys news) :
    LCg.CompRest prog w A h₀ L m env elt x scope cl s S P Fin n 0 [] news := by
  have go : ∀ k i ys, i + k = n → ys.length = i → (∀ j y, ys[j]? = some y → R j y) → LCg.CompRest prog w A h₀ L m env elt x scope cl s S P Fin k i ys news := by
    intro k
    induction k with
    | zero =>
      intro i ys h1 h2 h3
      exact LCg.CompRest.zero (fin ys (by omega) h3)
    | succ k ih =>
      intro i ys h1 h2 h3
      refine LCg.CompRest.succ ?_
      intro v I oI C oC D m₂ h tk E' hP hC hx F N off ne
      refine wpAny_mono (turn i v I oI C oC D m₂ ys h tk E' (by omega) hP hC hx F N) ?_ (fun _ _ e => e)
      rintro y s₂ ⟨h', tk', rfl, F', N', hR⟩
      refine ⟨h', tk', news, rfl, F', N', off, hS, ih (i + 1) (ys ++ [y]) (by omega) (by simp [h2]) ?_⟩
      intro j z hz
      by_cases hj : j < ys.length
      · rw [List.getElem?_append_left hj] at hz
        exact h3 j z hz
      · rw [List.getElem?_append_right (by omega)] at hz
        have e : j - ys.length = 0 := by
          cases q : j - ys.length with
          | zero => rfl
          | succ q' => rw [q] at hz; simp at hz
        rw [e] at hz
        have : j = i := by omega
        subst this
        simp at hz
        rw [← hz]; exact hR
  exact go n 0 [] (by omega) rfl (fun j y h => by simp at h)
end
end Mine
end
-- part B0
section
namespace Mine
set_option maxRecDepth 100000
set_option maxHeartbeats 8000000
local macro_rules | `(tactic| walk_at "call ref") => `(tactic| (k_here; k_dflt (refine' lead_ok _ _ _ _ _ ?p1 ?p2 ?p3 ?p4 _ _ _ _ _ _ _ _ _ _ _ _ _ _ _ _ _ _ _ _ _ ?k1 ?k2 ?k3 ?k4 ?k5 ?k6 ?k7 ?k8 ?_; (case p1 => omega); (case p2 => omega); (case p3 => omega); (case p4 => omega); (case k1 => k_asm); (case k2 => k_asm); (case k3 => k_asm); (case k4 => k_asm); (case k5 => k_asm); (case k6 => rfl); (case k7 => decide); (case k8 => decide)); intro t9 h9 tk9 F9 N9; (try dsimp only)))
theorem b0 (w : World) (mean : ExcName → Option Value) (mg mb : Str → Option Value) (fa : Addr) (cd : Value) (h₀ : Heap) (L : Nat) (m : Str → Option Value) (s : Shared) (Q : Flow → Shared → Prop) (B : Below callerA h₀ [] h₀) (X : (hd.heap_39 w.params).In h₀) (T : Top hd.view_39 (looseW hd.view_39 [Str.ofString "Whitespace"]) mean mg mb h₀)
   (o5 o6 o7 : Obj) (v7 : Option Value) (t b : Int) (t1 t2 : Tok) (d5 : o5.data = .cell (some (.int t t1))) (d6 : o6.data = .cell (some (.int b t2))) (d7 : o7.data = .cell v7) (ht0 : 0 ≤ t) (ht4 : t < 4) (hb0 : 0 ≤ b) (hb4 : b < 4) (rest : List (Addr × Obj)) (ho : OwnOff rest [L + 7]) (N : News h₀ L s.heap ((L + 5, o5) :: (L + 6, o6) :: (L + 7, o7) :: rest)) (F : Fr h₀ L s.heap (fun y => m y)) (hQ : ∀ h' tk' o7' t9, o7'.data = .cell (some (.str (lead t b) t9)) → Fr h₀ L h' m → News h₀ L h' ((L + 5, o5) :: (L + 6, o6) :: (L + 7, o7') :: rest) → Q .next { s with heap := h', toks := tk' }) :
   wpAny (model PySem.Challenge.rw_pu0052_01.row.prog w) (callerA.deeper (envOfC (Str.ofString "law") lawScope L fa cd)) (exec (lbst 0) (envOfC (Str.ofString "law") lawScope L fa cd)) Q (fun _ _ => False) s := by
  revert X; k_fill; intro X
  conv in (lbst 0) => whnf
  k_steps
  all_goals trace_state
  exact hQ _ _ _ _ (by assumption) (by k_asm) (by k_asm)

end Mine
end
-- part B1
section
namespace Mine
set_option maxRecDepth 100000
set_option maxHeartbeats 8000000
/-- the floor is less than the place at the tab sizes 1 to 5 -/
def insideB (f0 f1 t b : Int) : Bool := ((List.range 5).map fun (i : Nat) => decide (f0 * (1 + (i : Int)) + f1 < t * (1 + (i : Int)) + b)).all id
theorem b1 (w : World) (mean : ExcName → Option Value) (mg mb : Str → Option Value) (fa : Addr) (cd : Value) (h₀ : Heap) (L : Nat) (m : Str → Option Value) (s : Shared) (Q : Flow → Shared → Prop) (B : Below callerA h₀ [] h₀) (X : (hd.heap_39 w.params).In h₀) (T : Top hd.view_39 (looseW hd.view_39 [Str.ofString "Whitespace"]) mean mg mb h₀)
   (o3 o5 o6 : Obj) (fA : Nat) (f0 f1 t b : Int) (t1 t2 t3 t4 : Tok) (d3 : o3.data = .cell (some (.ref fA))) (d5 : o5.data = .cell (some (.int t t1))) (d6 : o6.data = .cell (some (.int b t2))) (ht0 : 0 ≤ t) (ht4 : t < 4) (hb0 : 0 ≤ b) (hb4 : b < 4) (hf0 : 0 ≤ f0) (hf1 : f0 < 2) (hf2 : 0 ≤ f1) (hf3 : f1 < 3) (rest : List (Addr × Obj)) (N : News h₀ L s.heap ((L + 3, o3) :: (L + 5, o5) :: (L + 6, o6) :: (fA, { cls := .type "tuple", data := .seq #[.int f0 t3, .int f1 t4] 0 }) :: rest)) (F : Fr h₀ L s.heap (fun y => m y)) (hQ : ∀ h' tk', Fr h₀ L h' (fun y => if y = Str.ofString "inside" then some (.bool (insideB f0 f1 t b)) else m y) → News h₀ L h' ((L + 3, o3) :: (L + 5, o5) :: (L + 6, o6) :: (fA, { cls := .type "tuple", data := .seq #[.int f0 t3, .int f1 t4] 0 }) :: rest) → Q .next { s with heap := h', toks := tk' }) :
   wpAny (model PySem.Challenge.rw_pu0052_01.row.prog w) (callerA.deeper (envOfC (Str.ofString "law") lawScope L fa cd)) (exec (lbst 1) (envOfC (Str.ofString "law") lawScope L fa cd)) Q (fun _ _ => False) s := by
  revert X; k_fill; intro X
  have hStop0 := stop "eval ListComp"
  have hStop1 := stop "CompSrc"
  have hStop2 := stop "call builtin:all"
  conv in (lbst 1) => whnf
  k_steps
  refine Hold.mk (LCg.ListComp_U (F₀ := by k_asm) (by with_unfolding_all rfl) (by decide) (by rfl) (by decide) (by rfl) ?_)
  k_steps
  rename IsRange _ _ _ _ _ _ _ _ => hR
  refine Hold.mk (LCg.CompSrc.range (n := 5) (by rfl) (by k_asm) (by k_asm) hR (by decide) (by rfl) (by rw [PySem.sizeLine_eq]; decide) ?_)
  intro g
  refine comp_pure (fun i y => y = .bool (decide (f0 * (1 + (i : Int)) + f1 < t * (1 + (i : Int)) + b))) trivial ?_ ?_
  · rintro i v I oI C oC D m₂ ys h tk E' hi ⟨tv, rfl⟩ hC hx F2 N2
    k_steps
    exact ⟨_, _, rfl, by k_asm, by k_asm, rfl⟩
  · intro ys hl hys D h tk F2 N2 hoff
    have hb := bools_of ys (fun i => decide (f0 * (1 + (i : Int)) + f1 < t * (1 + (i : Int)) + b)) hys
    rw [hl] at hb
    k_steps
    refine Hold.mk (LSm.all_bools (by k_asm) (by k_asm) rfl ⟨_, (N2 _ List.mem_cons_self).1, rfl, _, rfl⟩ hb ?_)
    clear hb
    intro h' tk' F3 N3
    k_steps
    rename News _ _ _ _ => N9
    exact hQ _ _ (by k_asm) (fun p hp => N9 p (List.mem_cons_of_mem _ hp))

end Mine
end
-- part VI
section
namespace Mine
set_option maxRecDepth 100000
set_option maxHeartbeats 8000000
/-- one cell of the table: the diagonal d, the left r, the upper one up, no two signs alike -/
def stepR (d r up : Int) : Int := if d + 2 < (if up < r then up else r) + 2 then d + 2 else (if up < r then up else r) + 2
local macro_rules | `(tactic| walk_at "call ref") => `(tactic| (k_here; refine' subst_ok _ _ _ _ _ ?p1 ?p2 _ _ _ _ _ _ _ _ _ _ _ _ _ _ _ _ _ _ _ _ _ ?k1 ?k2 ?k3 ?k4 ?k5 ?k6 ?k7 ?k8 ?_; (case p1 => first | assumption | rfl); (case p2 => first | assumption | rfl); (case k1 => k_asm); (case k2 => k_asm); (case k3 => k_asm); (case k4 => k_asm); (case k5 => k_asm); (case k6 => rfl); (case k7 => omega); (case k8 => omega); intro t9 h9 tk9 F9 N9; (try dsimp only)))
theorem lin (w : World) (mean : ExcName → Option Value) (mg mb : Str → Option Value) (dp un : Nat) (gd : Option (List Code)) (cdv : Value) (outer : List Env) (A₀ : Around) (base h₀ : Heap) (L : Addr) (m : Str → Option Value) (s : Shared) (Q : Flow → Shared → Prop) (news : List (Addr × Obj)) (B : Below A₀ base outer h₀) (X : (hd.heap_39 w.params).In h₀) (T : Top hd.view_39 (looseW hd.view_39 [Str.ofString "Whitespace"]) mean mg mb h₀) (hdp : dp + 2 < recursionLimit) (hun : un + 20 < cLine)
   (a b bc : Str) (c d r mn j : Int) (ta tb tbc tc td tr tm tj : Tok) (ha : a.length ≤ 8) (rA : Addr) (vs : List Value) (ns : List Int) (n : Nat) (hI : IntsAre vs ns) (h0 : 0 ≤ j) (h1 : j < ns.length) (h2 : j < a.length) (h8 : ns.length ≤ 8) (hbc : bc.length = 1) (hs : subst bc (Txt.item a j) = 2) (N : News h₀ L s.heap ((rA, listOf vs.toArray n) :: news)) (ho : OwnOff news [rA]) (F : Fr h₀ L s.heap (fun y => if y = Str.ofString "index" then some (.int j tj) else if y = Str.ofString "minimum" then some (.int mn tm) else if y = Str.ofString "distance" then some (.int d td) else if y = Str.ofString "result" then some (.int r tr) else if y = Str.ofString "bchar" then some (.str bc tbc) else if y = Str.ofString "row" then some (.ref rA) else if y = Str.ofString "a" then some (.str a ta) else if y = Str.ofString "b" then some (.str b tb) else if y = Str.ofString "max_cost" then some (.int c tc) else m y)) (hQ : ∀ h' tk' m' vs' mn' t1 t2 t3, m' (Str.ofString "distance") = some (.int (ns.getD j.toNat 0) t1) → m' (Str.ofString "result") = some (.int (stepR d r (ns.getD j.toNat 0)) t2) → m' (Str.ofString "minimum") = some (.int mn' t3) → mn' ≤ (stepR d r (ns.getD j.toNat 0)) → mn' ≤ mn →
     (∀ z, z ≠ Str.ofString "minimum" → z ≠ Str.ofString "distance" → z ≠ Str.ofString "result" → z ≠ Str.ofString "insert_delete" → z ≠ Str.ofString "substitute" → m' z = (fun y => if y = Str.ofString "index" then some (.int j tj) else if y = Str.ofString "minimum" then some (.int mn tm) else if y = Str.ofString "distance" then some (.int d td) else if y = Str.ofString "result" then some (.int r tr) else if y = Str.ofString "bchar" then some (.str bc tbc) else if y = Str.ofString "row" then some (.ref rA) else if y = Str.ofString "a" then some (.str a ta) else if y = Str.ofString "b" then some (.str b tb) else if y = Str.ofString "max_cost" then some (.int c tc) else m y) z) →
     Fr h₀ L h' m' → IntsAre vs' (ns.set j.toNat (stepR d r (ns.getD j.toNat 0))) → News h₀ L h' ((rA, listOf vs'.toArray n) :: news) → Q .next { s with heap := h', toks := tk' }) :
   wpAny (model PySem.Challenge.rw_pu0052_01.row.prog w) (ktrTop dp un gd (Str.ofString "_levenshtein_distance") levScope L 143 cdv [] outer) (execs (forBody (nthS 3 (forBody (lst 15)))) (envOf (Str.ofString "_levenshtein_distance") levScope L 143 cdv)) Q (fun _ _ => False) s := by
  revert X; k_fill; intro X
  conv in (forBody (nthS 3 (forBody (lst 15)))) => whnf
  k_steps
  all_goals
    (rename (IntsAre (List.set _ _ _) _) => hI9
     simp only [hs] at *
     refine hQ _ _ _ _ _ _ _ _ rfl rfl rfl ?_ ?_ ?_ (by k_asm) hI9 (by k_asm)
     · first | exact Int.le_refl _ | exact Int.not_lt.mp (by assumption) | (unfold stepR; omega)
     · first | exact Int.le_refl _ | exact Int.le_of_lt (by assumption) | (unfold stepR; omega)
     · intro z e1 e2 e3 e4 e5
       simp only [e1, e2, e3, e4, e5, if_false])

end Mine
end
-- part VF
section
namespace Mine
set_option maxRecDepth 100000
set_option maxHeartbeats 8000000
/-- the table's row while row i + 1 is reckoned, j places of it done -/
def rowAt (p i j : Nat) : List Int := (List.range p).map fun q => if q < j then 2 * (max (i + 1) (q + 1) : Nat) else 2 * (max i (q + 1) : Nat)
def leftOf (i j : Nat) : Int := if j = 0 then 2 * (i : Int) else 2 * (max (i + 1) j : Nat)
theorem rowAt_length (p i j : Nat) : (rowAt p i j).length = p := by simp [rowAt]
theorem rowAt_get {p i j : Nat} (h : j < p) : (rowAt p i j).getD j 0 = 2 * (max i (j + 1) : Nat) := by
  rw [List.getD_eq_getElem?_getD]
  simp [rowAt, h]
theorem step_up (d r up : Int) (h1 : ¬ up < r) (h2 : ¬ d < r) : stepR d r up = r + 2 := by
  unfold stepR
  rw [if_neg h1, if_neg (fun h => h2 (Int.lt_of_add_lt_add_right h))]
theorem step_d (d r up : Int) (h1 : ¬ up < r) (h2 : d < r) : stepR d r up = d + 2 := by
  unfold stepR
  rw [if_neg h1, if_pos (Int.add_lt_add_right h2 2)]
theorem step_v (d r up : Int) (h1 : up < r) (h2 : ¬ d < up) : stepR d r up = up + 2 := by
  unfold stepR
  rw [if_pos h1, if_neg (fun h => h2 (Int.lt_of_add_lt_add_right h))]
theorem two_le {a b : Nat} (h : a ≤ b) : ¬ 2 * (b : Int) < 2 * (a : Int) := by omega
theorem two_lt {a b : Nat} (h : a < b) : 2 * (a : Int) < 2 * (b : Int) := by omega
theorem two_add (a : Nat) : 2 * (a : Int) + 2 = 2 * ((a + 1 : Nat) : Int) := by omega
theorem step_is (i j : Nat) : stepR (2 * (max i j : Nat)) (leftOf i j) (2 * (max i (j + 1) : Nat)) = leftOf i (j + 1) := by
  unfold leftOf
  rw [if_neg (Nat.succ_ne_zero j)]
  by_cases h : j = 0
  · subst h
    rw [if_pos rfl, Nat.max_eq_left (Nat.zero_le i), Nat.max_eq_left (Nat.succ_le_succ (Nat.zero_le i)), step_up _ _ _ (two_le (Nat.le_max_left i _)) (two_le (Nat.le_refl i)), two_add]
  · rw [if_neg h]
    rcases Nat.lt_trichotomy i j with g | g | g
    · rw [Nat.max_eq_right (Nat.le_of_lt g), Nat.max_eq_right g, Nat.max_eq_right (Nat.le_succ_of_le (Nat.le_of_lt g)), Nat.max_eq_right (Nat.succ_le_succ (Nat.le_of_lt g)), step_up _ _ _ (two_le (Nat.le_succ j)) (two_le (Nat.le_refl j)), two_add]
    · subst g
      rw [Nat.max_self, Nat.max_self, Nat.max_eq_left (Nat.le_succ i), Nat.max_eq_right (Nat.le_succ i), step_d _ _ _ (two_le (Nat.le_refl _)) (two_lt (Nat.lt_succ_self i)), two_add]
    · rw [Nat.max_eq_left (Nat.le_of_lt g), Nat.max_eq_left (Nat.le_succ_of_le (Nat.le_of_lt g)), Nat.max_eq_left g, Nat.max_eq_left (Nat.succ_le_succ (Nat.le_of_lt g)), step_v _ _ _ (two_lt (Nat.lt_succ_self i)) (two_le (Nat.le_refl i)), two_add]
theorem rowAt_set {p i j : Nat} (h : j < p) : (rowAt p i j).set j (leftOf i (j + 1)) = rowAt p i (j + 1) := by
  apply List.ext_getElem?
  intro q
  rw [List.getElem?_set]
  by_cases hq : j = q
  · subst hq
    simp [rowAt, h, leftOf]
  · rw [if_neg hq]
    simp only [rowAt, List.getElem?_map]
    by_cases hp : q < p
    · simp only [List.getElem?_range hp, Option.map_some]
      by_cases h1 : q < j
      · rw [if_pos h1, if_pos (by omega)]
      · rw [if_neg h1, if_neg (by omega)]
    · rw [List.getElem?_eq_none (by simpa using hp)]
      rfl
theorem rowAt_done {p i : Nat} : rowAt p i p = rowAt p (i + 1) 0 := by
  unfold rowAt
  apply List.map_congr_left
  intro q hq
  rw [if_pos (List.mem_range.mp hq), if_neg (Nat.not_lt_zero _)]
theorem lfor (w : World) (mean : ExcName → Option Value) (mg mb : Str → Option Value) (dp un : Nat) (gd : Option (List Code)) (cdv : Value) (outer : List Env) (A₀ : Around) (base h₀ : Heap) (L : Addr) (m : Str → Option Value) (s : Shared) (Q : Flow → Shared → Prop) (news : List (Addr × Obj)) (B : Below A₀ base outer h₀) (X : (hd.heap_39 w.params).In h₀) (T : Top hd.view_39 (looseW hd.view_39 [Str.ofString "Whitespace"]) mean mg mb h₀) (hdp : dp + 2 < recursionLimit) (hun : un + 20 < cLine)
   (a b bc : Str) (c mn : Int) (i : Nat) (ta tb tbc tc td tr tm : Tok) (ha : a.length ≤ 8) (ha1 : 1 ≤ a.length) (rA : Addr) (vs : List Value) (n : Nat) (hI : IntsAre vs (rowAt a.length i 0)) (hbc : bc.length = 1) (hs : ∀ j : Int, 0 ≤ j → j < a.length → subst bc (Txt.item a j) = 2) (N : News h₀ L s.heap ((rA, listOf vs.toArray n) :: news)) (ho : OwnOff news [rA]) (F : Fr h₀ L s.heap (fun y => if y = Str.ofString "minimum" then some (.int mn tm) else if y = Str.ofString "distance" then some (.int (2 * (i : Int)) td) else if y = Str.ofString "result" then some (.int (2 * (i : Int)) tr) else if y = Str.ofString "bchar" then some (.str bc tbc) else if y = Str.ofString "row" then some (.ref rA) else if y = Str.ofString "a" then some (.str a ta) else if y = Str.ofString "b" then some (.str b tb) else if y = Str.ofString "max_cost" then some (.int c tc) else m y)) (hQ : ∀ h' tk' m' vs' (mn' : Int) t2 t3, m' (Str.ofString "result") = some (.int (2 * (max (i + 1) a.length : Nat)) t2) → m' (Str.ofString "minimum") = some (.int mn' t3) → mn' ≤ 2 * ((i : Int) + 1) →
     (∀ z, z ≠ Str.ofString "minimum" → z ≠ Str.ofString "distance" → z ≠ Str.ofString "result" → z ≠ Str.ofString "insert_delete" → z ≠ Str.ofString "substitute" → z ≠ Str.ofString "index" → m' z = (fun y => if y = Str.ofString "minimum" then some (.int mn tm) else if y = Str.ofString "distance" then some (.int (2 * (i : Int)) td) else if y = Str.ofString "result" then some (.int (2 * (i : Int)) tr) else if y = Str.ofString "bchar" then some (.str bc tbc) else if y = Str.ofString "row" then some (.ref rA) else if y = Str.ofString "a" then some (.str a ta) else if y = Str.ofString "b" then some (.str b tb) else if y = Str.ofString "max_cost" then some (.int c tc) else m y) z) →
     Fr h₀ L h' m' → IntsAre vs' (rowAt a.length (i + 1) 0) → News h₀ L h' ((rA, listOf vs'.toArray n) :: news) → Q .next { s with heap := h', toks := tk' }) :
   wpAny (model PySem.Challenge.rw_pu0052_01.row.prog w) (ktrTop dp un gd (Str.ofString "_levenshtein_distance") levScope L 143 cdv [] outer) (exec (nthS 3 (forBody (lst 15))) (envOf (Str.ofString "_levenshtein_distance") levScope L 143 cdv)) Q (fun _ _ => False) s := by
  revert X; k_fill; intro X
  conv in (nthS 3 (forBody (lst 15))) => whnf
  refine For_invV h₀ (by rfl) (by rfl) (wpAny_mono (Q := fun v s₁ => Hold (∃ r t1 t2 t3 h tk, v = .ref r ∧ s₁ = { s with heap := h, toks := tk } ∧ IsRange h r 0 a.length 1 t1 t2 t3 ∧ Fr h₀ L h (fun y => if y = Str.ofString "minimum" then some (.int mn tm) else if y = Str.ofString "distance" then some (.int (2 * (i : Int)) td) else if y = Str.ofString "result" then some (.int (2 * (i : Int)) tr) else if y = Str.ofString "bchar" then some (.str bc tbc) else if y = Str.ofString "row" then some (.ref rA) else if y = Str.ofString "a" then some (.str a ta) else if y = Str.ofString "b" then some (.str b tb) else if y = Str.ofString "max_cost" then some (.int c tc) else m y) ∧ News h₀ L h ((rA, listOf vs.toArray n) :: news))) (E := fun _ _ => False) ?_ ?_ (fun _ _ h => h))
  · k_steps
    exact ⟨_, _, _, _, _, _, rfl, rfl, by assumption, by k_asm, by k_asm⟩
  · rintro v s₁ ⟨r, t1, t2, t3, h, tk, rfl, rfl, hR, F1, N1⟩
    clear F N
    refine iter_rangeJ (n := a.length) (fun j m₁ nx => ∃ (vs' : List Value) (mn' : Int) (t1 t2 t3 : Tok), nx = (rA, listOf vs'.toArray n) :: news ∧ IntsAre vs' (rowAt a.length i j) ∧ m₁ (Str.ofString "distance") = some (.int (2 * (max i j : Nat)) t1) ∧ m₁ (Str.ofString "result") = some (.int (leftOf i j) t2) ∧ m₁ (Str.ofString "minimum") = some (.int mn' t3) ∧ (1 ≤ j → mn' ≤ 2 * ((i : Int) + 1)) ∧ (∀ z, z ≠ Str.ofString "minimum" → z ≠ Str.ofString "distance" → z ≠ Str.ofString "result" → z ≠ Str.ofString "insert_delete" → z ≠ Str.ofString "substitute" → z ≠ Str.ofString "index" → m₁ z = (fun y => if y = Str.ofString "minimum" then some (.int mn tm) else if y = Str.ofString "distance" then some (.int (2 * (i : Int)) td) else if y = Str.ofString "result" then some (.int (2 * (i : Int)) tr) else if y = Str.ofString "bchar" then some (.str bc tbc) else if y = Str.ofString "row" then some (.ref rA) else if y = Str.ofString "a" then some (.str a ta) else if y = Str.ofString "b" then some (.str b tb) else if y = Str.ofString "max_cost" then some (.int c tc) else m y) z)) rfl hR (small_one (by omega) (by omega) (by omega) (by omega)) ((rangeSize_nat _ _).trans (by omega)) F1 N1 ?_ ?_ ?_
    · refine ⟨vs, mn, td, tr, tm, rfl, hI, ?_, ?_, rfl, fun h => absurd h (by omega), fun z _ _ _ _ _ _ => rfl⟩
      · show some _ = some _
        simp
      · show some _ = some _
        simp [leftOf]
    · rintro j t m₁ nx h' tk' own hj hoff ⟨vs', mn', u1, u2, u3, rfl, hI', e1, e2, e3, hmn, hsame⟩ F₂ N₂
      have hl := rowAt_length a.length i j
      have hl9 : ∀ p ∈ [(Str.ofString "index", .int (0 + (j : Nat)) t), (Str.ofString "minimum", .int mn' u3), (Str.ofString "distance", .int (2 * (max i j : Nat)) u1), (Str.ofString "result", .int (leftOf i j) u2), (Str.ofString "bchar", .str bc tbc), (Str.ofString "row", .ref rA), (Str.ofString "a", .str a ta), (Str.ofString "b", .str b tb), (Str.ofString "max_cost", Value.int c tc)], (fun y => if y = Str.ofString "index" then some (Value.int (0 + (j : Nat)) t) else m₁ y) p.1 = some p.2 := by
        refine List.forall_mem_cons.mpr ⟨rfl, List.forall_mem_cons.mpr ⟨e3, List.forall_mem_cons.mpr ⟨e1, List.forall_mem_cons.mpr ⟨e2, List.forall_mem_cons.mpr ⟨?_, List.forall_mem_cons.mpr ⟨?_, List.forall_mem_cons.mpr ⟨?_, List.forall_mem_cons.mpr ⟨?_, List.forall_mem_cons.mpr ⟨?_, fun _ h => nomatch h⟩⟩⟩⟩⟩⟩⟩⟩⟩
        · exact hsame (Str.ofString "bchar") (by decide) (by decide) (by decide) (by decide) (by decide) (by decide)
        · exact hsame (Str.ofString "row") (by decide) (by decide) (by decide) (by decide) (by decide) (by decide)
        · exact hsame (Str.ofString "a") (by decide) (by decide) (by decide) (by decide) (by decide) (by decide)
        · exact hsame (Str.ofString "b") (by decide) (by decide) (by decide) (by decide) (by decide) (by decide)
        · exact hsame (Str.ofString "max_cost") (by decide) (by decide) (by decide) (by decide) (by decide) (by decide)
      have F3 := fr_names F₂ _ hl9
      have ho' : OwnOff (news ++ own) [rA] := fun p hp b hb => by
        rcases List.mem_append.mp hp with hp | hp
        · exact ho p hp b hb
        · exact hoff p hp b (by rw [List.mem_singleton.mp hb]; exact List.mem_cons_self)
      refine lin w mean mg mb dp un gd cdv outer A₀ base h₀ L _ _ _ (news ++ own) B X T hdp hun a b bc c (2 * (max i j : Nat)) (leftOf i j) mn' (0 + (j : Nat)) ta tb tbc tc u1 u2 u3 t ha rA vs' (rowAt a.length i j) n hI' (by omega) (by rw [hl]; omega) (by omega) (by rw [hl]; exact ha) hbc (hs _ (by omega) (by omega)) N₂ ho' F3 ?_
      intro h9 tk9 m9 vs9 mn9 v1 v2 v3 g1 g2 g3 g4 g6 g5 F9 I9 N9
      have ej : (0 + (j : Int)).toNat = j := by omega
      rw [ej, rowAt_get hj] at g1 g2 g4 I9
      rw [step_is] at g2 g4 I9
      rw [rowAt_set hj] at I9
      refine InvEndG.intro F9 N9 (nx := (rA, listOf vs9.toArray n) :: news) ⟨vs9, mn9, v1, v2, v3, rfl, I9, ?_, g2, g3, fun _ => ?_, ?_⟩ ?_ ?_ ?_
      · exact g1
      · by_cases h0 : j = 0
        · subst h0
          refine Int.le_trans g4 ?_
          simp only [leftOf]
          omega
        · have := hmn (by omega)
          omega
      · intro z z1 z2 z3 z4 z5 z6
        rw [g5 z z1 z2 z3 z4 z5, ← hsame z z1 z2 z3 z4 z5 z6]
        have q := kst_same (m := fun y => if y = Str.ofString "index" then some (Value.int (0 + (j : Nat)) t) else m₁ y) hl9 z

        rw [if_neg z6] at q
        exact q
      · exact fun p hp b hb => hoff p hp b hb
      · exact sub_cons
      · exact sub_own
    · rintro m₁ nx h' tk' ⟨vs', mn', u1, u2, u3, rfl, hI', e1, e2, e3, hmn, hsame⟩ F₂ N₂
      rw [rowAt_done] at hI'
      refine hQ _ _ _ _ _ u2 u3 ?_ e3 (hmn ha1) hsame F₂ hI' N₂
      rw [e2]
      unfold leftOf
      rw [if_neg (by omega)]

end Mine
end
-- part VO
section
namespace Mine
set_option maxRecDepth 100000
set_option maxHeartbeats 8000000
theorem lout (w : World) (mean : ExcName → Option Value) (mg mb : Str → Option Value) (dp un : Nat) (gd : Option (List Code)) (cdv : Value) (outer : List Env) (A₀ : Around) (base h₀ : Heap) (L : Addr) (m : Str → Option Value) (s : Shared) (Q : Flow → Shared → Prop) (news : List (Addr × Obj)) (B : Below A₀ base outer h₀) (X : (hd.heap_39 w.params).In h₀) (T : Top hd.view_39 (looseW hd.view_39 [Str.ofString "Whitespace"]) mean mg mb h₀) (hdp : dp + 2 < recursionLimit) (hun : un + 20 < cLine)
   (a b : Str) (c : Int) (i : Nat) (ta tb tc ti : Tok) (ha : a.length ≤ 8) (ha1 : 1 ≤ a.length) (hb : b.length ≤ 4) (hi : i < b.length) (hc : 11 ≤ c) (rA : Addr) (vs : List Value) (n : Nat) (hI : IntsAre vs (rowAt a.length i 0)) (hs : ∀ k j : Int, 0 ≤ k → k < b.length → 0 ≤ j → j < a.length → subst (Txt.item b k) (Txt.item a j) = 2) (N : News h₀ L s.heap ((rA, listOf vs.toArray n) :: news)) (ho : OwnOff news [rA]) (F : Fr h₀ L s.heap (fun y => if y = Str.ofString "bindex" then some (.int (0 + (i : Nat)) ti) else if y = Str.ofString "row" then some (.ref rA) else if y = Str.ofString "a" then some (.str a ta) else if y = Str.ofString "b" then some (.str b tb) else if y = Str.ofString "max_cost" then some (.int c tc) else m y)) (hQ : ∀ h' tk' m' vs' t2, m' (Str.ofString "result") = some (.int (2 * (max (i + 1) a.length : Nat)) t2) →
     (∀ z, z ≠ Str.ofString "minimum" → z ≠ Str.ofString "distance" → z ≠ Str.ofString "result" → z ≠ Str.ofString "insert_delete" → z ≠ Str.ofString "substitute" → z ≠ Str.ofString "index" → z ≠ Str.ofString "bchar" → m' z = (fun y => if y = Str.ofString "bindex" then some (.int (0 + (i : Nat)) ti) else if y = Str.ofString "row" then some (.ref rA) else if y = Str.ofString "a" then some (.str a ta) else if y = Str.ofString "b" then some (.str b tb) else if y = Str.ofString "max_cost" then some (.int c tc) else m y) z) →
     Fr h₀ L h' m' → IntsAre vs' (rowAt a.length (i + 1) 0) → News h₀ L h' ((rA, listOf vs'.toArray n) :: news) → Q .next { s with heap := h', toks := tk' }) :
   wpAny (model PySem.Challenge.rw_pu0052_01.row.prog w) (ktrTop dp un gd (Str.ofString "_levenshtein_distance") levScope L 143 cdv [] outer) (execs (forBody (lst 15)) (envOf (Str.ofString "_levenshtein_distance") levScope L 143 cdv)) Q (fun _ _ => False) s := by
  revert X; k_fill; intro X
  have hStop0 := stop "exec For Name Call cons nil"
  conv in (forBody (lst 15)) => whnf
  k_steps
  rename Fr _ _ _ _ => F9
  have e : (0 + (i : Int)) * 2 = 2 * (i : Int) := by omega
  have e0 : (0 + (i : Int)) = (i : Int) := by omega
  simp only [e] at F9
  have F8 := fr_names F9 [(Str.ofString "minimum", .int 9223372036854775807 _), (Str.ofString "distance", .int (2 * (i : Int)) _), (Str.ofString "result", .int (2 * (i : Int)) _), (Str.ofString "bchar", .str (Txt.item b (0 + (i : Int))) _), (Str.ofString "row", .ref rA), (Str.ofString "a", .str a ta), (Str.ofString "b", .str b tb), (Str.ofString "max_cost", .int c tc)]
    (List.forall_mem_cons.mpr ⟨rfl, List.forall_mem_cons.mpr ⟨rfl, List.forall_mem_cons.mpr ⟨rfl, List.forall_mem_cons.mpr ⟨rfl, List.forall_mem_cons.mpr ⟨rfl, List.forall_mem_cons.mpr ⟨rfl, List.forall_mem_cons.mpr ⟨rfl, List.forall_mem_cons.mpr ⟨rfl, fun _ h => nomatch h⟩⟩⟩⟩⟩⟩⟩⟩)
  refine Hold.mk (lfor w mean mg mb dp un gd cdv outer A₀ base h₀ L _ _ _ news B X T hdp hun a b (Txt.item b (0 + (i : Int))) c 9223372036854775807 i ta tb _ tc _ _ _ ha ha1 rA vs n hI rfl (fun j h1 h2 => hs _ j (by omega) (by omega) h1 h2) (by k_asm) ho F8 ?_)
  clear F8 F9
  intro h' tk' m' vs' mn' t2 t3 g2 g3 g4 g5 F7 I7 N7
  dsimp only
  have F6 := fr_names F7 [(Str.ofString "minimum", .int mn' t3), (Str.ofString "max_cost", .int c tc)] (List.forall_mem_cons.mpr ⟨g3, List.forall_mem_cons.mpr ⟨g5 (Str.ofString "max_cost") (by decide) (by decide) (by decide) (by decide) (by decide) (by decide), fun _ h => nomatch h⟩⟩)
  replace F7 := Hold.mk F7
  dsimp only [kstB] at F6
  k_steps
  refine hQ _ _ _ _ t2 g2 ?_ F7.out I7 N7
  clear hQ F6 F7 g2 g3 I7 N7
  intro z z1 z2 z3 z4 z5 z6 z7
  rw [g5 z z1 z2 z3 z4 z5 z6]
  clear g5
  by_cases w0 : z = Str.ofString "row"
  · subst w0; rfl
  by_cases w1 : z = Str.ofString "a"
  · subst w1; rfl
  by_cases w2 : z = Str.ofString "b"
  · subst w2; rfl
  by_cases w3 : z = Str.ofString "max_cost"
  · subst w3; rfl
  simp only [z1, z2, z3, z7, w0, w1, w2, w3, if_false, kstB]

end Mine
end
-- part VA
section
namespace Mine
set_option maxRecDepth 100000
set_option maxHeartbeats 8000000
theorem lall (w : World) (mean : ExcName → Option Value) (mg mb : Str → Option Value) (dp un : Nat) (gd : Option (List Code)) (cdv : Value) (outer : List Env) (A₀ : Around) (base h₀ : Heap) (L : Addr) (m : Str → Option Value) (s : Shared) (Q : Flow → Shared → Prop) (news : List (Addr × Obj)) (B : Below A₀ base outer h₀) (X : (hd.heap_39 w.params).In h₀) (T : Top hd.view_39 (looseW hd.view_39 [Str.ofString "Whitespace"]) mean mg mb h₀) (hdp : dp + 2 < recursionLimit) (hun : un + 20 < cLine)
   (a b : Str) (c : Int) (ta tb tc tr : Tok) (ha : a.length ≤ 8) (ha1 : 1 ≤ a.length) (hb : b.length ≤ 4) (hb1 : 1 ≤ b.length) (hc : 11 ≤ c) (rA : Addr) (vs : List Value) (n : Nat) (hI : IntsAre vs (rowAt a.length 0 0)) (hs : ∀ k j : Int, 0 ≤ k → k < b.length → 0 ≤ j → j < a.length → subst (Txt.item b k) (Txt.item a j) = 2) (N : News h₀ L s.heap ((rA, listOf vs.toArray n) :: news)) (ho : OwnOff news [rA]) (F : Fr h₀ L s.heap (fun y => if y = Str.ofString "result" then some (.int 0 tr) else if y = Str.ofString "row" then some (.ref rA) else if y = Str.ofString "a" then some (.str a ta) else if y = Str.ofString "b" then some (.str b tb) else if y = Str.ofString "max_cost" then some (.int c tc) else m y)) (hQ : ∀ h' tk' m' vs' t2, m' (Str.ofString "result") = some (.int (2 * (max b.length a.length : Nat)) t2) →
     Fr h₀ L h' m' → News h₀ L h' ((rA, listOf vs' n) :: news) → Q .next { s with heap := h', toks := tk' }) :
   wpAny (model PySem.Challenge.rw_pu0052_01.row.prog w) (ktrTop dp un gd (Str.ofString "_levenshtein_distance") levScope L 143 cdv [] outer) (exec (lst 15) (envOf (Str.ofString "_levenshtein_distance") levScope L 143 cdv)) Q (fun _ _ => False) s := by
  revert X; k_fill; intro X
  conv in (lst 15) => whnf
  refine For_invV h₀ (by rfl) (by rfl) (wpAny_mono (Q := fun v s₁ => Hold (∃ r t1 t2 t3 h tk, v = .ref r ∧ s₁ = { s with heap := h, toks := tk } ∧ IsRange h r 0 b.length 1 t1 t2 t3 ∧ Fr h₀ L h (fun y => if y = Str.ofString "result" then some (.int 0 tr) else if y = Str.ofString "row" then some (.ref rA) else if y = Str.ofString "a" then some (.str a ta) else if y = Str.ofString "b" then some (.str b tb) else if y = Str.ofString "max_cost" then some (.int c tc) else m y) ∧ News h₀ L h ((rA, listOf vs.toArray n) :: news))) (E := fun _ _ => False) ?_ ?_ (fun _ _ h => h))
  · k_steps
    exact ⟨_, _, _, _, _, _, rfl, rfl, by assumption, by k_asm, by k_asm⟩
  · rintro v s₁ ⟨r, t1, t2, t3, h, tk, rfl, rfl, hR, F1, N1⟩
    clear F N
    refine iter_rangeJ (n := b.length) (fun i m₁ nx => ∃ (vs' : List Value) (t2 : Tok), nx = (rA, listOf vs'.toArray n) :: news ∧ IntsAre vs' (rowAt a.length i 0) ∧ m₁ (Str.ofString "result") = some (.int (if i = 0 then 0 else 2 * (max i a.length : Nat)) t2) ∧ (∀ z, z ≠ Str.ofString "minimum" → z ≠ Str.ofString "distance" → z ≠ Str.ofString "result" → z ≠ Str.ofString "insert_delete" → z ≠ Str.ofString "substitute" → z ≠ Str.ofString "index" → z ≠ Str.ofString "bchar" → z ≠ Str.ofString "bindex" → m₁ z = (fun y => if y = Str.ofString "result" then some (.int 0 tr) else if y = Str.ofString "row" then some (.ref rA) else if y = Str.ofString "a" then some (.str a ta) else if y = Str.ofString "b" then some (.str b tb) else if y = Str.ofString "max_cost" then some (.int c tc) else m y) z)) rfl hR (small_one (by omega) (by omega) (by omega) (by omega)) ((rangeSize_nat _ _).trans (by omega)) F1 N1 ?_ ?_ ?_
    · exact ⟨vs, tr, rfl, hI, rfl, fun z _ _ _ _ _ _ _ _ => rfl⟩
    · rintro i t m₁ nx h' tk' own hi hoff ⟨vs', u2, rfl, hI', e2, hsame⟩ F₂ N₂
      have hl9 : ∀ p ∈ [(Str.ofString "bindex", Value.int (0 + (i : Nat)) t), (Str.ofString "row", Value.ref rA), (Str.ofString "a", .str a ta), (Str.ofString "b", .str b tb), (Str.ofString "max_cost", .int c tc)], (fun y => if y = Str.ofString "bindex" then some (Value.int (0 + (i : Nat)) t) else m₁ y) p.1 = some p.2 := by
        refine List.forall_mem_cons.mpr ⟨rfl, List.forall_mem_cons.mpr ⟨?_, List.forall_mem_cons.mpr ⟨?_, List.forall_mem_cons.mpr ⟨?_, List.forall_mem_cons.mpr ⟨?_, fun _ h => nomatch h⟩⟩⟩⟩⟩
        · exact hsame (Str.ofString "row") (by decide) (by decide) (by decide) (by decide) (by decide) (by decide) (by decide) (by decide)
        · exact hsame (Str.ofString "a") (by decide) (by decide) (by decide) (by decide) (by decide) (by decide) (by decide) (by decide)
        · exact hsame (Str.ofString "b") (by decide) (by decide) (by decide) (by decide) (by decide) (by decide) (by decide) (by decide)
        · exact hsame (Str.ofString "max_cost") (by decide) (by decide) (by decide) (by decide) (by decide) (by decide) (by decide) (by decide)
      have F3 := fr_names F₂ _ hl9
      have ho' : OwnOff (news ++ own) [rA] := fun p hp b hb => by
        rcases List.mem_append.mp hp with hp | hp
        · exact ho p hp b hb
        · exact hoff p hp b (by rw [List.mem_singleton.mp hb]; exact List.mem_cons_self)
      refine lout w mean mg mb dp un gd cdv outer A₀ base h₀ L _ _ _ (news ++ own) B X T hdp hun a b c i ta tb tc t ha ha1 hb hi hc rA vs' n hI' hs N₂ ho' F3 ?_
      intro h9 tk9 m9 vs9 v2 g2 g5 F9 I9 N9
      refine InvEndG.intro F9 N9 (nx := (rA, listOf vs9.toArray n) :: news) ⟨vs9, v2, rfl, I9, ?_, ?_⟩ ?_ ?_ ?_
      · rw [g2, if_neg (Nat.succ_ne_zero i)]
      · intro z z1 z2 z3 z4 z5 z6 z7 z8
        rw [g5 z z1 z2 z3 z4 z5 z6 z7, ← hsame z z1 z2 z3 z4 z5 z6 z7 z8]
        have q := kst_same (m := fun y => if y = Str.ofString "bindex" then some (Value.int (0 + (i : Nat)) t) else m₁ y) hl9 z
        rw [if_neg z8] at q
        exact q
      · exact fun p hp b hb => hoff p hp b hb
      · exact sub_cons
      · exact sub_own
    · rintro m₁ nx h' tk' ⟨vs', u2, rfl, hI', e2, hsame⟩ F₂ N₂
      refine hQ _ _ _ _ u2 ?_ F₂ N₂
      rw [e2, if_neg (by omega)]

end Mine
end
-- part VT
section
namespace Mine
set_option maxRecDepth 100000
set_option maxHeartbeats 8000000
theorem row_start (n : Nat) : rangeInts 2 2 n = rowAt n 0 0 := by
  unfold rangeInts rowAt
  apply List.map_congr_left
  intro q _
  rw [if_neg (Nat.not_lt_zero _)]
  omega
theorem evens (n : Nat) (h1 : 1 ≤ n) : Builtin.Range.rangeSize 2 (2 * ((n : Int) + 1)) 2 = (n : Int) := by
  unfold Builtin.Range.rangeSize
  rw [if_pos (by decide), if_pos (by omega)]
  omega
theorem evens_small (n : Nat) (h1 : 1 ≤ n) (h : n ≤ 8) : Builtin.Range.small 2 (2 * ((n : Int) + 1)) 2 = true := by
  have : ∀ k : _root_.Fin 9, 1 ≤ k.val → Builtin.Range.small 2 (2 * ((k.val : Int) + 1)) 2 = true := by decide
  exact this ⟨n, Nat.lt_succ_of_le h⟩ h1
theorem own_one {news : List (Addr × Obj)} {a : Addr} (h : ∀ p ∈ news, p.1 ≠ a) : OwnOff news [a] := fun p hp b hb => by rw [List.mem_singleton.mp hb]; exact h p hp
theorem list_evens {prog : Program} {w : World} {A : Around} {E : Value → Shared → Prop} {s : Shared} {h₀ : Heap} {L r : Addr} {m : Str → Option Value} {t u v : Tok} {n : Nat} {news : List (Addr × Obj)} {Q : Value → Shared → Prop} (hh : A.handled = none) (F : Fr h₀ L s.heap m) (N : News h₀ L s.heap news)
    (hr : IsRange s.heap r 2 (2 * ((n : Int) + 1)) 2 t u v) (h1 : 1 ≤ n) (h8 : n ≤ 8)
    (hQ : ∀ rA ys c1 h' tk, Fr h₀ L h' m → News h₀ L h' ((rA, listOf (List.toArray ys) c1) :: news) → OwnOff news [rA] → IntsAre ys (rowAt n 0 0) → Q (.ref rA) { s with heap := h', toks := tk }) :
    wpAny (model prog w) A (call (.type "list") [.ref r]) Q E s := by
  refine list_rangeD (n := n) hh F N hr (evens_small _ h1 h8) (evens _ h1) (by omega) ?_
  intro h1 tk1 ys F1 N1 hk hnew hlist hplain hcar
  obtain ⟨⟨c1, hget⟩, hne⟩ := hplain
  have hI := IntsAre.ofCarried hcar
  rw [row_start] at hI
  refine hQ _ ys c1 h1 tk1 F1 ?_ (own_one hne) hI
  intro p hp
  rcases List.mem_cons.mp hp with e | hp
  · subst e
    exact ⟨hget, NewPlain.ne_locals ⟨⟨c1, hget⟩, hne⟩ F1, hnew⟩
  · exact N1 p hp
theorem ltail (w : World) (mean : ExcName → Option Value) (mg mb : Str → Option Value) (dp un : Nat) (gd : Option (List Code)) (cdv : Value) (outer : List Env) (A₀ : Around) (base h₀ : Heap) (L : Addr) (m : Str → Option Value) (s : Shared) (Q : Flow → Shared → Prop) (news : List (Addr × Obj)) (B : Below A₀ base outer h₀) (X : (hd.heap_39 w.params).In h₀) (T : Top hd.view_39 (looseW hd.view_39 [Str.ofString "Whitespace"]) mean mg mb h₀) (hdp : dp + 2 < recursionLimit) (hun : un + 20 < cLine)
   (a b : Str) (c : Int) (ta tb tc : Tok) (ha1 : 1 ≤ a.length) (hab : a.length ≤ b.length) (hb : b.length ≤ 4) (hc : 11 ≤ c) (hs : ∀ k j : Int, 0 ≤ k → k < b.length → 0 ≤ j → j < a.length → subst (Txt.item b k) (Txt.item a j) = 2) (N : News h₀ L s.heap news) (F : Fr h₀ L s.heap (fun y => if y = Str.ofString "a" then some (.str a ta) else if y = Str.ofString "b" then some (.str b tb) else if y = Str.ofString "max_cost" then some (.int c tc) else m y)) (hQ : ∀ h' tk' m' t2, Fr h₀ L h' m' → News h₀ L h' news → Q (.ret (.int (2 * (b.length : Int)) t2)) { s with heap := h', toks := tk' }) :
   wpAny (model PySem.Challenge.rw_pu0052_01.row.prog w) (ktrTop dp un gd (Str.ofString "_levenshtein_distance") levScope L 143 cdv [] outer) (execs (dropS 13 (bodyOf levDef)) (envOf (Str.ofString "_levenshtein_distance") levScope L 143 cdv)) Q (fun _ _ => False) s := by
  revert X; k_fill; intro X
  have hStop0 := stop "exec For Name Call cons nil"
  have hStop1 := stop "call type:list"
  conv in (dropS 13 (bodyOf levDef)) => whnf
  k_steps
  rename IsRange _ _ _ _ _ _ _ _ => hR
  refine Hold.mk (list_evens rfl (by k_asm) (by k_asm) hR ha1 (by omega) ?_)
  intro rA ys c1 h1 tk1 F1 N1 ho hI
  k_steps
  rename Fr _ _ _ _ => F9
  refine Hold.mk (lall w mean mg mb dp un gd cdv outer A₀ base h₀ L _ _ _ news B X T hdp hun a b c ta tb tc _ (by omega) ha1 hb (by omega) hc rA ys c1 hI hs (by k_asm) ho F9 ?_)
  intro h' tk' m' vs' t2 g2 F7 N7
  dsimp only
  have F6 := fr_names F7 [(Str.ofString "result", .int _ t2)] (List.forall_mem_cons.mpr ⟨g2, fun _ h => nomatch h⟩)
  clear F9
  dsimp only [kstB] at F6
  replace F7 := Hold.mk F7
  k_steps
  have e : ((max b.length a.length : Nat) : Int) = (b.length : Int) := by omega
  rw [e]
  exact hQ _ _ _ _ F7.out (fun p hp => N7 p (List.mem_cons_of_mem _ hp))

end Mine
end
-- part WD
section
namespace Mine
set_option maxRecDepth 100000
/-- the body of a class at the top -/
def clsAt (x : Str) : List Stmt → List Stmt
  | [] => []
  | .ClassDef n _ _ c _ _ _ _ _ _ _ :: r => if n = x then c else clsAt x r
  | _ :: r => clsAt x r
noncomputable def wsDef : Stmt := defAt (Str.ofString "__init__") (clsAt (Str.ofString "Whitespace") PySem.Challenge.pw_pu0052_01.main.body)
noncomputable def wsScope : Scope := scopeOf wsDef
noncomputable def wst (n : Nat) : Stmt := nthS n (bodyOf wsDef)
section
variable {prog : Program} {w : World} {A : Around} {E : Value → Shared → Prop} {s : Shared} {env : Env} {h₀ : Heap} {x : Str} {body : List Stmt} {Q : Flow → Shared → Prop}
/-- a loop over a text's signs, by what holds of the frame and of the ledger ahead of each turn -/
theorem iter_strJ {tx : Str} {t : Tok} {m₀ : Str → Option Value} {news : List (Addr × Obj)} (J : Nat → (Str → Option Value) → List (Addr × Obj) → Prop)
    (hh : A.handled = none) (F : Fr h₀ env.locals s.heap m₀) (N : News h₀ env.locals s.heap news) (hj : J 0 m₀ news)
    (turn : ∀ i c u m₁ nx h tk own, i < tx.cps.size → tx.cps[i]? = some c → OwnOff own (nx.map (·.1)) → J i m₁ nx → Fr h₀ env.locals h (fun y => if y = x then some (.str ⟨#[c]⟩ u) else m₁ y) → News h₀ env.locals h (nx ++ own) →
      wpAny (model prog w) A (execs body env) (InvPostG h₀ env.locals (J (i + 1)) own { s with heap := h, toks := tk } Q) E { s with heap := h, toks := tk })
    (done : ∀ m₁ nx h tk, J tx.cps.size m₁ nx → Fr h₀ env.locals h m₁ → News h₀ env.locals h nx → Q .next { s with heap := h, toks := tk }) :
    wpAny (model prog w) A (pyIter (.str tx t)) (fun it s₂ => LoopAtV prog w A h₀ env x body Q E it s₂) E s := by
  have go : ∀ (T : String) (o : Obj), Walks prog w A s.heap.objs.size [s.heap.objs.size] [s.heap.objs.size] tx.cps.size (SignAt tx) (fun i h => h.IsStrIter s.heap.objs.size T tx t i) →
      (s.heap.push o).IsStrIter s.heap.objs.size T tx t 0 → LoopAtV prog w A h₀ env x body Q E (.ref s.heap.objs.size) { s with heap := s.heap.push o } := by
    intro T o W hst
    refine kdr_loop (s := { s with heap := s.heap.push o }) J W (fun _ h => h) (fun _ h => h) ?_ ?_ ?_ ?_ hst (F.push _) (fun p hp => ⟨Heap.get?_push_of_some _ (N p hp).1, (N p hp).2⟩) hj ?_ ?_
    · intro i h hi b hb
      rw [List.mem_singleton.mp hb]
      obtain ⟨it, hit, _⟩ := hi
      exact ⟨it, hit⟩
    · intro hm
      exact absurd F.ns.lt ((List.mem_singleton.mp hm) ▸ Nat.lt_irrefl _)
    · intro b hb
      rw [List.mem_singleton.mp hb]
      exact next_is_new F
    · intro p hp hI
      exact absurd (Heap.lt_size (N p hp).1) ((List.mem_singleton.mp hI) ▸ Nat.lt_irrefl _)
    · rintro i v m₁ nx h tk own hi ⟨c, u, hc, rfl⟩ hoff hJ F₁ N₁
      exact turn i c u m₁ nx h tk own hi hc hoff hJ F₁ N₁
    · intro m₁ nx h tk hJ F₁ N₁
      exact done m₁ nx h tk hJ F₁ N₁
  cases ha : tx.cps.all (· < 128)
  · exact wpAny_pyIter_wide ha (go "str_iterator" _ (Walks.strWide hh _ tx t) ⟨_, Heap.get?_push_size _ rfl, rfl, rfl⟩)
  · exact wpAny_pyIter_ascii ha (go "str_ascii_iterator" _ (Walks.strAscii hh _ tx t) ⟨_, Heap.get?_push_size _ rfl, rfl, rfl⟩)
end
end Mine
end
-- part W2
section
namespace Mine
set_option maxRecDepth 100000
set_option maxHeartbeats 8000000
theorem wblank (w : World) (mean : ExcName → Option Value) (mg mb : Str → Option Value) (dp un : Nat) (gd : Option (List Code)) (cdv : Value) (outer : List Env) (A₀ : Around) (base h₀ : Heap) (L : Addr) (m : Str → Option Value) (s : Shared) (Q : Flow → Shared → Prop) (news : List (Addr × Obj)) (B : Below A₀ base outer h₀) (X : (hd.heap_39 w.params).In h₀) (T : Top hd.view_39 (looseW hd.view_39 [Str.ofString "Whitespace"]) mean mg mb h₀) (hdp : dp + 2 < recursionLimit) (hun : un + 20 < cLine)
   (nn bb tt : Int) (tch t1 t2 t3 : Tok) (cA : Nat) (co : Obj) (N : News h₀ L s.heap ((cA, co) :: news)) (F : Fr h₀ L s.heap (fun y => if y = Str.ofString "ch" then some (.str ⟨#[32]⟩ tch) else if y = Str.ofString "nt" then some (.int tt t1) else if y = Str.ofString "n" then some (.int nn t2) else if y = Str.ofString "b" then some (.int bb t3) else if y = Str.ofString "count" then some (.ref cA) else if y = Str.ofString "S" then some (.str (Str.ofString " ") 273) else if y = Str.ofString "T" then some (.str (Str.ofString "\t") 274) else m y)) (hQ : ∀ h' tk' m' u1 u2 u3 , m' (Str.ofString "n") = some (.int (nn + 1) u2) → m' (Str.ofString "nt") = some (.int (tt) u1) → m' (Str.ofString "b") = some (.int (bb + 1) u3) → m' (Str.ofString "count") = some (.ref cA) → (∀ z, z ≠ Str.ofString "nt" → z ≠ Str.ofString "n" → z ≠ Str.ofString "b" → z ≠ Str.ofString "count" → m' z = (fun y => if y = Str.ofString "ch" then some (.str ⟨#[32]⟩ tch) else if y = Str.ofString "nt" then some (.int tt t1) else if y = Str.ofString "n" then some (.int nn t2) else if y = Str.ofString "b" then some (.int bb t3) else if y = Str.ofString "count" then some (.ref cA) else if y = Str.ofString "S" then some (.str (Str.ofString " ") 273) else if y = Str.ofString "T" then some (.str (Str.ofString "\t") 274) else m y) z) → Fr h₀ L h' m' → News h₀ L h' ((cA, co) :: news) → Q .next { s with heap := h', toks := tk' }) :
   wpAny (model PySem.Challenge.rw_pu0052_01.row.prog w) (ktrTop dp un gd (Str.ofString "Whitespace.__init__") wsScope L 80 cdv [] outer) (execs (forBody (wst 4)) (envOf (Str.ofString "Whitespace.__init__") wsScope L 80 cdv)) Q (fun _ _ => False) s := by
  revert X; k_fill; intro X
  conv in (forBody (wst 4)) => whnf
  k_steps
  refine hQ _ _ _ _ _ _ rfl rfl rfl rfl ?_ (by k_asm) (by k_asm)
  intro z z1 z2 z3 z4
  simp only [z1, z2, z3, z4, if_false]

theorem wbreak (w : World) (mean : ExcName → Option Value) (mg mb : Str → Option Value) (dp un : Nat) (gd : Option (List Code)) (cdv : Value) (outer : List Env) (A₀ : Around) (base h₀ : Heap) (L : Addr) (m : Str → Option Value) (s : Shared) (Q : Flow → Shared → Prop) (news : List (Addr × Obj)) (B : Below A₀ base outer h₀) (X : (hd.heap_39 w.params).In h₀) (T : Top hd.view_39 (looseW hd.view_39 [Str.ofString "Whitespace"]) mean mg mb h₀) (hdp : dp + 2 < recursionLimit) (hun : un + 20 < cLine)
   (nn bb tt : Int) (tch t1 t2 t3 : Tok) (cA : Nat) (co : Obj) (N : News h₀ L s.heap ((cA, co) :: news)) (F : Fr h₀ L s.heap (fun y => if y = Str.ofString "ch" then some (.str ⟨#[120]⟩ tch) else if y = Str.ofString "nt" then some (.int tt t1) else if y = Str.ofString "n" then some (.int nn t2) else if y = Str.ofString "b" then some (.int bb t3) else if y = Str.ofString "count" then some (.ref cA) else if y = Str.ofString "S" then some (.str (Str.ofString " ") 273) else if y = Str.ofString "T" then some (.str (Str.ofString "\t") 274) else m y)) (hQ : ∀ h' tk', Fr h₀ L h' (fun y => if y = Str.ofString "ch" then some (.str ⟨#[120]⟩ tch) else if y = Str.ofString "nt" then some (.int tt t1) else if y = Str.ofString "n" then some (.int nn t2) else if y = Str.ofString "b" then some (.int bb t3) else if y = Str.ofString "count" then some (.ref cA) else if y = Str.ofString "S" then some (.str (Str.ofString " ") 273) else if y = Str.ofString "T" then some (.str (Str.ofString "\t") 274) else m y) → News h₀ L h' ((cA, co) :: news) → Q .brk { s with heap := h', toks := tk' }) :
   wpAny (model PySem.Challenge.rw_pu0052_01.row.prog w) (ktrTop dp un gd (Str.ofString "Whitespace.__init__") wsScope L 80 cdv [] outer) (execs (forBody (wst 4)) (envOf (Str.ofString "Whitespace.__init__") wsScope L 80 cdv)) Q (fun _ _ => False) s := by
  revert X; k_fill; intro X
  conv in (forBody (wst 4)) => whnf
  k_steps
  exact hQ _ _ (by k_asm) (by k_asm)

theorem wtab1 (w : World) (mean : ExcName → Option Value) (mg mb : Str → Option Value) (dp un : Nat) (gd : Option (List Code)) (cdv : Value) (outer : List Env) (A₀ : Around) (base h₀ : Heap) (L : Addr) (m : Str → Option Value) (s : Shared) (Q : Flow → Shared → Prop) (news : List (Addr × Obj)) (B : Below A₀ base outer h₀) (X : (hd.heap_39 w.params).In h₀) (T : Top hd.view_39 (looseW hd.view_39 [Str.ofString "Whitespace"]) mean mg mb h₀) (hdp : dp + 2 < recursionLimit) (hun : un + 20 < cLine)
   (nn k : Int) (tch t1 t2 t3 tk0 : Tok) (cA : Nat) (cn : Nat) (ho : OwnOff news [cA]) (N : News h₀ L s.heap ((cA, listOf #[.int k tk0] cn) :: news)) (F : Fr h₀ L s.heap (fun y => if y = Str.ofString "ch" then some (.str ⟨#[9]⟩ tch) else if y = Str.ofString "nt" then some (.int k t1) else if y = Str.ofString "n" then some (.int nn t2) else if y = Str.ofString "b" then some (.int 0 t3) else if y = Str.ofString "count" then some (.ref cA) else if y = Str.ofString "S" then some (.str (Str.ofString " ") 273) else if y = Str.ofString "T" then some (.str (Str.ofString "\t") 274) else m y)) (hQ : ∀ h' tk' m' u1 u2 u3 tk9, m' (Str.ofString "n") = some (.int (nn + 1) u2) → m' (Str.ofString "nt") = some (.int (k + 1) u1) → m' (Str.ofString "b") = some (.int (0) u3) → m' (Str.ofString "count") = some (.ref cA) → (∀ z, z ≠ Str.ofString "nt" → z ≠ Str.ofString "n" → z ≠ Str.ofString "b" → z ≠ Str.ofString "count" → m' z = (fun y => if y = Str.ofString "ch" then some (.str ⟨#[9]⟩ tch) else if y = Str.ofString "nt" then some (.int k t1) else if y = Str.ofString "n" then some (.int nn t2) else if y = Str.ofString "b" then some (.int 0 t3) else if y = Str.ofString "count" then some (.ref cA) else if y = Str.ofString "S" then some (.str (Str.ofString " ") 273) else if y = Str.ofString "T" then some (.str (Str.ofString "\t") 274) else m y) z) → Fr h₀ L h' m' → News h₀ L h' ((cA, listOf #[.int (k + 1) tk9] cn) :: news) → Q .next { s with heap := h', toks := tk' }) :
   wpAny (model PySem.Challenge.rw_pu0052_01.row.prog w) (ktrTop dp un gd (Str.ofString "Whitespace.__init__") wsScope L 80 cdv [] outer) (execs (forBody (wst 4)) (envOf (Str.ofString "Whitespace.__init__") wsScope L 80 cdv)) Q (fun _ _ => False) s := by
  revert X; k_fill; intro X
  conv in (forBody (wst 4)) => whnf
  k_steps
  refine hQ _ _ _ _ _ _ _ rfl rfl rfl rfl ?_ (by k_asm) (by k_asm)
  intro z z1 z2 z3 z4
  simp only [z1, z2, z3, z4, if_false]

theorem wtab0 (w : World) (mean : ExcName → Option Value) (mg mb : Str → Option Value) (dp un : Nat) (gd : Option (List Code)) (cdv : Value) (outer : List Env) (A₀ : Around) (base h₀ : Heap) (L : Addr) (m : Str → Option Value) (s : Shared) (Q : Flow → Shared → Prop) (news : List (Addr × Obj)) (B : Below A₀ base outer h₀) (X : (hd.heap_39 w.params).In h₀) (T : Top hd.view_39 (looseW hd.view_39 [Str.ofString "Whitespace"]) mean mg mb h₀) (hdp : dp + 2 < recursionLimit) (hun : un + 20 < cLine)
   (nn : Int) (tch t1 t2 t3 : Tok) (cA : Nat) (cn : Nat) (ho : OwnOff news [cA]) (N : News h₀ L s.heap ((cA, listOf #[] cn) :: news)) (F : Fr h₀ L s.heap (fun y => if y = Str.ofString "ch" then some (.str ⟨#[9]⟩ tch) else if y = Str.ofString "nt" then some (.int 0 t1) else if y = Str.ofString "n" then some (.int nn t2) else if y = Str.ofString "b" then some (.int 0 t3) else if y = Str.ofString "count" then some (.ref cA) else if y = Str.ofString "S" then some (.str (Str.ofString " ") 273) else if y = Str.ofString "T" then some (.str (Str.ofString "\t") 274) else m y)) (hQ : ∀ h' tk' m' u1 u2 u3 tk9 cB cm, m' (Str.ofString "n") = some (.int (nn + 1) u2) → m' (Str.ofString "nt") = some (.int (0 + 1) u1) → m' (Str.ofString "b") = some (.int (0) u3) → m' (Str.ofString "count") = some (.ref cB) → (∀ p ∈ news, p.1 < cB) → (∀ z, z ≠ Str.ofString "nt" → z ≠ Str.ofString "n" → z ≠ Str.ofString "b" → z ≠ Str.ofString "count" → m' z = (fun y => if y = Str.ofString "ch" then some (.str ⟨#[9]⟩ tch) else if y = Str.ofString "nt" then some (.int 0 t1) else if y = Str.ofString "n" then some (.int nn t2) else if y = Str.ofString "b" then some (.int 0 t3) else if y = Str.ofString "count" then some (.ref cA) else if y = Str.ofString "S" then some (.str (Str.ofString " ") 273) else if y = Str.ofString "T" then some (.str (Str.ofString "\t") 274) else m y) z) → Fr h₀ L h' m' → News h₀ L h' ((cB, listOf #[.int 1 tk9] cm) :: news) → Q .next { s with heap := h', toks := tk' }) :
   wpAny (model PySem.Challenge.rw_pu0052_01.row.prog w) (ktrTop dp un gd (Str.ofString "Whitespace.__init__") wsScope L 80 cdv [] outer) (execs (forBody (wst 4)) (envOf (Str.ofString "Whitespace.__init__") wsScope L 80 cdv)) Q (fun _ _ => False) s := by
  revert X; k_fill; intro X
  conv in (forBody (wst 4)) => whnf
  k_steps
  rename News _ _ _ _ => N9
  rename _ ∧ _ => l9
  refine hQ _ _ _ _ _ _ _ _ _ rfl rfl rfl rfl (allLt_mem l9.2.2.2) ?_ (by k_asm) (fun p hp => N9 p ((List.mem_cons.mp hp).elim (fun e => e ▸ List.mem_cons_self) fun h => List.mem_cons_of_mem _ (List.mem_cons_of_mem _ (List.mem_cons_of_mem _ (List.mem_cons_of_mem _ h)))))
  intro z z1 z2 z3 z4
  simp only [z1, z2, z3, z4, if_false]

end Mine
end
-- part W3
section
namespace Mine
set_option maxRecDepth 100000
set_option maxHeartbeats 8000000
/-- the list of tabs' counts: none yet, or one number -/
def cnt (k : Nat) (tk : Tok) (cn : Nat) : Obj := if k = 0 then listOf #[] cn else listOf #[.int k tk] cn
theorem cnt_zero (tk : Tok) (cn : Nat) : cnt 0 tk cn = listOf #[] cn := rfl
theorem cnt_succ (k : Nat) (tk : Tok) (cn : Nat) : cnt (k + 1) tk cn = listOf #[.int ((k : Int) + 1) tk] cn := by unfold cnt; rw [if_neg (Nat.succ_ne_zero k)]; rfl
section
variable {x : Str} {t b : Nat} {sfx : List Nat} (hx : x.cps.toList = List.replicate t 9 ++ (List.replicate b 32 ++ sfx))
include hx
theorem sign_tab {i c : Nat} (hi : i < t) (h : x.cps[i]? = some c) : c = 9 := by
  rw [← Array.getElem?_toList, hx, List.getElem?_append_left (by simpa using hi), List.getElem?_replicate, if_pos hi] at h
  exact (Option.some.inj h).symm
theorem sign_blank {i c : Nat} (h1 : t ≤ i) (h2 : i < t + b) (h : x.cps[i]? = some c) : c = 32 := by
  rw [← Array.getElem?_toList, hx, List.getElem?_append_right (by simpa using h1), List.length_replicate, List.getElem?_append_left (by simp; omega), List.getElem?_replicate, if_pos (by omega)] at h
  exact (Option.some.inj h).symm
theorem sign_end {c : Nat} (hs : sfx = [] ∨ sfx = [120, 9]) (h : x.cps[t + b]? = some c) : c = 120 := by
  rw [← Array.getElem?_toList, hx, List.getElem?_append_right (by simp), List.length_replicate, List.getElem?_append_right (by simp), List.length_replicate] at h
  rw [show t + b - t - b = 0 by omega] at h
  rcases hs with e | e
  · subst e; simp at h
  · subst e; simpa using h.symm
theorem sign_size (hs : sfx = [] ∨ sfx = [120, 9]) (h : x.cps.size ≤ t + b) : x.cps.size = t + b := by
  have : x.cps.toList.length = t + b + sfx.length := by rw [hx]; simp; omega
  rw [Array.length_toList] at this
  omega
end
theorem wfor (w : World) (mean : ExcName → Option Value) (mg mb : Str → Option Value) (dp un : Nat) (gd : Option (List Code)) (cdv : Value) (outer : List Env) (A₀ : Around) (base h₀ : Heap) (L : Addr) (m : Str → Option Value) (s : Shared) (Q : Flow → Shared → Prop) (news : List (Addr × Obj)) (B : Below A₀ base outer h₀) (X : (hd.heap_39 w.params).In h₀) (T : Top hd.view_39 (looseW hd.view_39 [Str.ofString "Whitespace"]) mean mg mb h₀) (hdp : dp + 2 < recursionLimit) (hun : un + 20 < cLine) (x : Str) (t b : Nat) (sfx : List Nat) (hx : x.cps.toList = List.replicate t 9 ++ (List.replicate b 32 ++ sfx)) (hsf : sfx = [] ∨ sfx = [120, 9]) (tx kt t1 t2 t3 : Tok) (cA x1 dx : Nat) (cn : Nat) (ho : OwnOff ((x1, instObj 125 dx) :: (dx, dictOf [{ hash := PyData.keyHash w.params (Str.ofString "raw"), key := Value.str (Str.ofString "raw") kt, val := Value.str x tx }] 1) :: news) [cA]) (N : News h₀ L s.heap ((cA, listOf #[] cn) :: (x1, instObj 125 dx) :: (dx, dictOf [{ hash := PyData.keyHash w.params (Str.ofString "raw"), key := Value.str (Str.ofString "raw") kt, val := Value.str x tx }] 1) :: news)) (F : Fr h₀ L s.heap (fun y => if y = Str.ofString "nt" then some (.int 0 t1) else if y = Str.ofString "n" then some (.int 0 t2) else if y = Str.ofString "b" then some (.int 0 t3) else if y = Str.ofString "count" then some (.ref cA) else if y = Str.ofString "S" then some (.str (Str.ofString " ") 273) else if y = Str.ofString "T" then some (.str (Str.ofString "\t") 274) else if y = Str.ofString "self" then some (.ref x1) else m y))
   (hQ : ∀ h' tk' m' cB tk9 cn' u1 u2 u3, m' (Str.ofString "n") = some (.int ((t + b : Nat) : Int) u1) → m' (Str.ofString "nt") = some (.int (t : Int) u2) → m' (Str.ofString "b") = some (.int (b : Int) u3) → m' (Str.ofString "count") = some (.ref cB) → OwnOff ((x1, instObj 125 dx) :: (dx, dictOf [{ hash := PyData.keyHash w.params (Str.ofString "raw"), key := Value.str (Str.ofString "raw") kt, val := Value.str x tx }] 1) :: news) [cB] → (∀ z, z ≠ Str.ofString "nt" → z ≠ Str.ofString "n" → z ≠ Str.ofString "b" → z ≠ Str.ofString "count" → z ≠ Str.ofString "ch" → m' z = (fun y => if y = Str.ofString "nt" then some (.int 0 t1) else if y = Str.ofString "n" then some (.int 0 t2) else if y = Str.ofString "b" then some (.int 0 t3) else if y = Str.ofString "count" then some (.ref cA) else if y = Str.ofString "S" then some (.str (Str.ofString " ") 273) else if y = Str.ofString "T" then some (.str (Str.ofString "\t") 274) else if y = Str.ofString "self" then some (.ref x1) else m y) z) → Fr h₀ L h' m' → News h₀ L h' ((cB, cnt t tk9 cn') :: (x1, instObj 125 dx) :: (dx, dictOf [{ hash := PyData.keyHash w.params (Str.ofString "raw"), key := Value.str (Str.ofString "raw") kt, val := Value.str x tx }] 1) :: news) → Q .next { s with heap := h', toks := tk' }) :
   wpAny (model PySem.Challenge.rw_pu0052_01.row.prog w) (ktrTop dp un gd (Str.ofString "Whitespace.__init__") wsScope L 80 cdv [] outer) (exec (wst 4) (envOf (Str.ofString "Whitespace.__init__") wsScope L 80 cdv)) Q (fun _ _ => False) s := by
  revert X; k_fill; intro X
  conv in wst 4 => whnf
  refine For_invV h₀ (by rfl) (by rfl) (wpAny_mono (Q := fun v s₁ => Hold (∃ h tk, v = .str x tx ∧ s₁ = { s with heap := h, toks := tk } ∧ Fr h₀ L h (fun y => if y = Str.ofString "nt" then some (.int 0 t1) else if y = Str.ofString "n" then some (.int 0 t2) else if y = Str.ofString "b" then some (.int 0 t3) else if y = Str.ofString "count" then some (.ref cA) else if y = Str.ofString "S" then some (.str (Str.ofString " ") 273) else if y = Str.ofString "T" then some (.str (Str.ofString "\t") 274) else if y = Str.ofString "self" then some (.ref x1) else m y) ∧ News h₀ L h ((cA, listOf #[] cn) :: (x1, instObj 125 dx) :: (dx, dictOf [{ hash := PyData.keyHash w.params (Str.ofString "raw"), key := Value.str (Str.ofString "raw") kt, val := Value.str x tx }] 1) :: news))) (E := fun _ _ => False) ?_ ?_ (fun _ _ h => h))
  · k_steps
    exact ⟨_, _, rfl, rfl, by k_asm, by k_asm⟩
  · rintro v s₁ ⟨h, tk, rfl, rfl, F1, N1⟩
    clear F N
    refine iter_strJ (fun i m₁ nx => i ≤ t + b ∧ ∃ (cB : Addr) (tk9 : Tok) (cn' : Nat) (u1 u2 u3 : Tok), nx = (cB, cnt (min i t) tk9 cn') :: (x1, instObj 125 dx) :: (dx, dictOf [{ hash := PyData.keyHash w.params (Str.ofString "raw"), key := Value.str (Str.ofString "raw") kt, val := Value.str x tx }] 1) :: news ∧ OwnOff ((x1, instObj 125 dx) :: (dx, dictOf [{ hash := PyData.keyHash w.params (Str.ofString "raw"), key := Value.str (Str.ofString "raw") kt, val := Value.str x tx }] 1) :: news) [cB] ∧ m₁ (Str.ofString "n") = some (.int (i : Int) u1) ∧ m₁ (Str.ofString "nt") = some (.int ((min i t : Nat) : Int) u2) ∧ m₁ (Str.ofString "b") = some (.int ((i - t : Nat) : Int) u3) ∧ m₁ (Str.ofString "count") = some (.ref cB) ∧ (∀ z, z ≠ Str.ofString "nt" → z ≠ Str.ofString "n" → z ≠ Str.ofString "b" → z ≠ Str.ofString "count" → z ≠ Str.ofString "ch" → m₁ z = (fun y => if y = Str.ofString "nt" then some (.int 0 t1) else if y = Str.ofString "n" then some (.int 0 t2) else if y = Str.ofString "b" then some (.int 0 t3) else if y = Str.ofString "count" then some (.ref cA) else if y = Str.ofString "S" then some (.str (Str.ofString " ") 273) else if y = Str.ofString "T" then some (.str (Str.ofString "\t") 274) else if y = Str.ofString "self" then some (.ref x1) else m y) z)) rfl F1 N1 ?_ ?_ ?_
    · refine ⟨by omega, cA, 0, cn, t2, t1, t3, ?_, ho, rfl, ?_, ?_, rfl, fun z _ _ _ _ _ => rfl⟩
      · rw [Nat.zero_min]; rfl
      · rw [Nat.zero_min]; rfl
      · rw [Nat.zero_sub]; rfl
    · rintro i c u m₁ nx h' tk' own hi hc hoff ⟨hle, cB, tk9, cn', u1, u2, u3, rfl, ho', e1, e2, e3, e4, hsame⟩ F₂ N₂
      have hoN : OwnOff ((x1, instObj 125 dx) :: (dx, dictOf [{ hash := PyData.keyHash w.params (Str.ofString "raw"), key := Value.str (Str.ofString "raw") kt, val := Value.str x tx }] 1) :: news ++ own) [cB] := fun p hp b hb => by
        rcases List.mem_append.mp hp with hp | hp
        · exact ho' p hp b hb
        · exact hoff p hp b (by rw [List.mem_singleton.mp hb]; exact List.mem_cons_self)
      by_cases c1 : i < t
      · have ec := sign_tab hx c1 hc
        subst ec
        rw [Nat.min_eq_left (Nat.le_of_lt c1)] at e2 N₂ hoff
        rw [show i - t = 0 by omega] at e3
        cases i with
        | zero =>
          have hl9 : ∀ p ∈ [(Str.ofString "ch", Value.str ⟨#[9]⟩ u), (Str.ofString "nt", .int ((0 : Nat) : Int) u2), (Str.ofString "n", .int ((0 : Nat) : Int) u1), (Str.ofString "b", .int ((0 : Nat) : Int) u3), (Str.ofString "count", .ref cB), (Str.ofString "S", .str (Str.ofString " ") 273), (Str.ofString "T", .str (Str.ofString "\t") 274)], (fun y => if y = Str.ofString "ch" then some (Value.str ⟨#[9]⟩ u) else m₁ y) p.1 = some p.2 := List.forall_mem_cons.mpr ⟨rfl, List.forall_mem_cons.mpr ⟨e2, List.forall_mem_cons.mpr ⟨e1, List.forall_mem_cons.mpr ⟨e3, List.forall_mem_cons.mpr ⟨e4, List.forall_mem_cons.mpr ⟨hsame (Str.ofString "S") (by decide) (by decide) (by decide) (by decide) (by decide), List.forall_mem_cons.mpr ⟨hsame (Str.ofString "T") (by decide) (by decide) (by decide) (by decide) (by decide), fun _ h => nomatch h⟩⟩⟩⟩⟩⟩⟩
          have F3 := fr_names F₂ _ hl9
          refine wtab0 w mean mg mb dp un gd cdv outer A₀ base h₀ L _ _ _ ((x1, instObj 125 dx) :: (dx, dictOf [{ hash := PyData.keyHash w.params (Str.ofString "raw"), key := Value.str (Str.ofString "raw") kt, val := Value.str x tx }] 1) :: news ++ own) B X T hdp hun _ u u2 u1 u3 cB cn' hoN N₂ F3 ?_
          intro h9 tk8 m9 v1 v2 v3 tq cC cm g1 g2 g3 g4 glt g5 F9 N9
          refine InvEndG.intro F9 N9 (nx := (cC, cnt 1 tq cm) :: (x1, instObj 125 dx) :: (dx, dictOf [{ hash := PyData.keyHash w.params (Str.ofString "raw"), key := Value.str (Str.ofString "raw") kt, val := Value.str x tx }] 1) :: news) ⟨by omega, cC, tq, cm, v2, v1, v3, ?_, ?_, g1, ?_, ?_, g4, ?_⟩ ?_ ?_ ?_
          · rw [Nat.min_eq_left (by omega)]
          · exact own_one fun p hp => Nat.ne_of_lt (glt p (List.mem_append_left _ hp))
          · rw [g2, Nat.min_eq_left (by omega)]; rfl
          · rw [g3, show 0 + 1 - t = 0 by omega]; rfl
          · intro z z1 z2 z3 z4 z5
            rw [g5 z z1 z2 z3 z4, ← hsame z z1 z2 z3 z4 z5]
            have q := kst_same (m := (fun y => if y = Str.ofString "ch" then some (Value.str ⟨#[9]⟩ u) else m₁ y)) hl9 z
            rw [if_neg z5] at q
            exact q
          · intro p hp b hb
            rcases List.mem_cons.mp hb with e | hb
            · rw [e]; exact Nat.ne_of_lt (glt p (List.mem_append_right _ hp))
            · exact hoff p hp b (List.mem_cons_of_mem _ hb)
          · exact sub_cons
          · exact sub_own
        | succ i =>
          rw [cnt_succ] at N₂
          have hl9 : ∀ p ∈ [(Str.ofString "ch", Value.str ⟨#[9]⟩ u), (Str.ofString "nt", .int ((i : Int) + 1) u2), (Str.ofString "n", .int ((i + 1 : Nat) : Int) u1), (Str.ofString "b", .int ((0 : Nat) : Int) u3), (Str.ofString "count", .ref cB), (Str.ofString "S", .str (Str.ofString " ") 273), (Str.ofString "T", .str (Str.ofString "\t") 274)], (fun y => if y = Str.ofString "ch" then some (Value.str ⟨#[9]⟩ u) else m₁ y) p.1 = some p.2 := List.forall_mem_cons.mpr ⟨rfl, List.forall_mem_cons.mpr ⟨e2, List.forall_mem_cons.mpr ⟨e1, List.forall_mem_cons.mpr ⟨e3, List.forall_mem_cons.mpr ⟨e4, List.forall_mem_cons.mpr ⟨hsame (Str.ofString "S") (by decide) (by decide) (by decide) (by decide) (by decide), List.forall_mem_cons.mpr ⟨hsame (Str.ofString "T") (by decide) (by decide) (by decide) (by decide) (by decide), fun _ h => nomatch h⟩⟩⟩⟩⟩⟩⟩
          have F3 := fr_names F₂ _ hl9
          refine wtab1 w mean mg mb dp un gd cdv outer A₀ base h₀ L _ _ _ ((x1, instObj 125 dx) :: (dx, dictOf [{ hash := PyData.keyHash w.params (Str.ofString "raw"), key := Value.str (Str.ofString "raw") kt, val := Value.str x tx }] 1) :: news ++ own) B X T hdp hun _ _ u u2 u1 u3 tk9 cB cn' hoN N₂ F3 ?_
          intro h9 tk8 m9 v1 v2 v3 tq g1 g2 g3 g4 g5 F9 N9
          refine InvEndG.intro F9 N9 (nx := (cB, cnt (i + 2) tq cn') :: (x1, instObj 125 dx) :: (dx, dictOf [{ hash := PyData.keyHash w.params (Str.ofString "raw"), key := Value.str (Str.ofString "raw") kt, val := Value.str x tx }] 1) :: news) ⟨by omega, cB, tq, cn', v2, v1, v3, ?_, ho', g1, ?_, ?_, g4, ?_⟩ ?_ ?_ ?_
          · rw [Nat.min_eq_left (by omega)]
          · rw [g2, Nat.min_eq_left (by omega)]; rfl
          · rw [g3, show i + 1 + 1 - t = 0 by omega]; rfl
          · intro z z1 z2 z3 z4 z5
            rw [g5 z z1 z2 z3 z4, ← hsame z z1 z2 z3 z4 z5]
            have q := kst_same (m := (fun y => if y = Str.ofString "ch" then some (Value.str ⟨#[9]⟩ u) else m₁ y)) hl9 z
            rw [if_neg z5] at q
            exact q
          · exact fun p hp b hb => hoff p hp b hb
          · rw [cnt_succ]; exact sub_cons
          · exact sub_own
      · by_cases c2 : i < t + b
        · have ec := sign_blank hx (by omega) c2 hc
          subst ec
          have hl9 : ∀ p ∈ [(Str.ofString "ch", Value.str ⟨#[32]⟩ u), (Str.ofString "nt", .int ((min i t : Nat) : Int) u2), (Str.ofString "n", .int ((i : Nat) : Int) u1), (Str.ofString "b", .int ((i - t : Nat) : Int) u3), (Str.ofString "count", .ref cB), (Str.ofString "S", .str (Str.ofString " ") 273), (Str.ofString "T", .str (Str.ofString "\t") 274)], (fun y => if y = Str.ofString "ch" then some (Value.str ⟨#[32]⟩ u) else m₁ y) p.1 = some p.2 := List.forall_mem_cons.mpr ⟨rfl, List.forall_mem_cons.mpr ⟨e2, List.forall_mem_cons.mpr ⟨e1, List.forall_mem_cons.mpr ⟨e3, List.forall_mem_cons.mpr ⟨e4, List.forall_mem_cons.mpr ⟨hsame (Str.ofString "S") (by decide) (by decide) (by decide) (by decide) (by decide), List.forall_mem_cons.mpr ⟨hsame (Str.ofString "T") (by decide) (by decide) (by decide) (by decide) (by decide), fun _ h => nomatch h⟩⟩⟩⟩⟩⟩⟩
          have F3 := fr_names F₂ _ hl9
          refine wblank w mean mg mb dp un gd cdv outer A₀ base h₀ L _ _ _ ((x1, instObj 125 dx) :: (dx, dictOf [{ hash := PyData.keyHash w.params (Str.ofString "raw"), key := Value.str (Str.ofString "raw") kt, val := Value.str x tx }] 1) :: news ++ own) B X T hdp hun _ _ _ u u2 u1 u3 cB _ N₂ F3 ?_
          intro h9 tk8 m9 v1 v2 v3 g1 g2 g3 g4 g5 F9 N9
          refine InvEndG.intro F9 N9 (nx := (cB, cnt (min i t) tk9 cn') :: (x1, instObj 125 dx) :: (dx, dictOf [{ hash := PyData.keyHash w.params (Str.ofString "raw"), key := Value.str (Str.ofString "raw") kt, val := Value.str x tx }] 1) :: news) ⟨by omega, cB, tk9, cn', v2, v1, v3, ?_, ho', g1, ?_, ?_, g4, ?_⟩ ?_ ?_ ?_
          · rw [Nat.min_eq_right (by omega), Nat.min_eq_right (by omega)]
          · rw [g2, Nat.min_eq_right (by omega), Nat.min_eq_right (by omega)]
          · rw [g3, show i + 1 - t = i - t + 1 by omega]; rfl
          · intro z z1 z2 z3 z4 z5
            rw [g5 z z1 z2 z3 z4, ← hsame z z1 z2 z3 z4 z5]
            have q := kst_same (m := (fun y => if y = Str.ofString "ch" then some (Value.str ⟨#[32]⟩ u) else m₁ y)) hl9 z
            rw [if_neg z5] at q
            exact q
          · exact fun p hp b hb => hoff p hp b hb
          · exact sub_cons
          · exact sub_own
        · have ei : i = t + b := by omega
          subst ei
          have ec := sign_end hx hsf hc
          subst ec
          have hl9 : ∀ p ∈ [(Str.ofString "ch", Value.str ⟨#[120]⟩ u), (Str.ofString "nt", .int ((min (t + b) t : Nat) : Int) u2), (Str.ofString "n", .int ((t + b : Nat) : Int) u1), (Str.ofString "b", .int ((t + b - t : Nat) : Int) u3), (Str.ofString "count", .ref cB), (Str.ofString "S", .str (Str.ofString " ") 273), (Str.ofString "T", .str (Str.ofString "\t") 274)], (fun y => if y = Str.ofString "ch" then some (Value.str ⟨#[120]⟩ u) else m₁ y) p.1 = some p.2 := List.forall_mem_cons.mpr ⟨rfl, List.forall_mem_cons.mpr ⟨e2, List.forall_mem_cons.mpr ⟨e1, List.forall_mem_cons.mpr ⟨e3, List.forall_mem_cons.mpr ⟨e4, List.forall_mem_cons.mpr ⟨hsame (Str.ofString "S") (by decide) (by decide) (by decide) (by decide) (by decide), List.forall_mem_cons.mpr ⟨hsame (Str.ofString "T") (by decide) (by decide) (by decide) (by decide) (by decide), fun _ h => nomatch h⟩⟩⟩⟩⟩⟩⟩
          have F3 := fr_names F₂ _ hl9
          refine wbreak w mean mg mb dp un gd cdv outer A₀ base h₀ L _ _ _ ((x1, instObj 125 dx) :: (dx, dictOf [{ hash := PyData.keyHash w.params (Str.ofString "raw"), key := Value.str (Str.ofString "raw") kt, val := Value.str x tx }] 1) :: news ++ own) B X T hdp hun _ _ _ u u2 u1 u3 cB _ N₂ F3 ?_
          intro h9 tk8 F9 N9
          rw [Nat.min_eq_right (by omega)] at N9
          refine hQ _ _ _ cB tk9 cn' u1 u2 u3 ?_ ?_ ?_ ?_ ho' ?_ F9 (fun p hp => N9 p (sub_cons p hp))
          · rfl
          · show some _ = some _
            rw [Nat.min_eq_right (by omega)]
          · show some _ = some _
            rw [show t + b - t = b by omega]
          · rfl
          · intro z z1 z2 z3 z4 z5
            rw [← hsame z z1 z2 z3 z4 z5]
            have q := kst_same (m := (fun y => if y = Str.ofString "ch" then some (Value.str ⟨#[120]⟩ u) else m₁ y)) hl9 z
            rw [if_neg z5] at q
            exact q
    · rintro m₁ nx h' tk' ⟨hle, cB, tk9, cn', u1, u2, u3, rfl, ho', e1, e2, e3, e4, hsame⟩ F₂ N₂
      have hz := sign_size hx hsf hle
      rw [hz] at e1 e2 e3 N₂
      rw [Nat.min_eq_right (by omega)] at e2 N₂
      rw [show t + b - t = b by omega] at e3
      exact hQ _ _ _ cB tk9 cn' u1 u2 u3 e1 e2 e3 e4 ho' hsame F₂ N₂
end Mine
end
-- part W5
section
namespace Mine
set_option maxRecDepth 100000
set_option maxHeartbeats 8000000
theorem w58a (w : World) (mean : ExcName → Option Value) (mg mb : Str → Option Value) (dp un : Nat) (gd : Option (List Code)) (cdv : Value) (outer : List Env) (A₀ : Around) (base h₀ : Heap) (L : Addr) (m : Str → Option Value) (s : Shared) (Q : Flow → Shared → Prop) (news : List (Addr × Obj)) (B : Below A₀ base outer h₀) (X : (hd.heap_39 w.params).In h₀) (T : Top hd.view_39 (looseW hd.view_39 [Str.ofString "Whitespace"]) mean mg mb h₀) (hdp : dp + 2 < recursionLimit) (hun : un + 20 < cLine) (x : Str) (nn tt bb : Int) (tx kt t1 t2 t3 : Tok) (cB x1 dx : Nat) (cn : Nat) (hlt : dx < x1) (n1 : x1 ≠ cB) (n2 : dx ≠ cB) (ho : OwnOff news [x1, dx]) (N : News h₀ L s.heap ((cB, listOf #[] cn) :: (x1, instObj 125 dx) :: (dx, dictOf [{ hash := PyData.keyHash w.params (Str.ofString "raw"), key := Value.str (Str.ofString "raw") kt, val := Value.str x tx }] 1) :: news)) (F : Fr h₀ L s.heap (fun y => if y = Str.ofString "n" then some (.int nn t1) else if y = Str.ofString "nt" then some (.int tt t2) else if y = Str.ofString "b" then some (.int bb t3) else if y = Str.ofString "count" then some (.ref cB) else if y = Str.ofString "self" then some (.ref x1) else m y))
   (hQ : ∀ h' tk' m' k0 k1 k2 k3 k4 u0 u1 u2 a3, Fr h₀ L h' m' → News h₀ L h' ((x1, instObj 125 dx) :: (dx, dictOf [{ hash := PyData.keyHash w.params (Str.ofString "raw"), key := Value.str (Str.ofString "raw") k0, val := .str x u0 }, { hash := PyData.keyHash w.params (Str.ofString "n"), key := Value.str (Str.ofString "n") k1, val := .int nn u1 }, { hash := PyData.keyHash w.params (Str.ofString "nt"), key := Value.str (Str.ofString "nt") k2, val := .int tt u2 }, { hash := PyData.keyHash w.params (Str.ofString "norm"), key := Value.str (Str.ofString "norm") k3, val := .ref a3 }, { hash := PyData.keyHash w.params (Str.ofString "is_simple"), key := Value.str (Str.ofString "is_simple") k4, val := .bool true }] 5) :: news) → Q .next { s with heap := h', toks := tk' }) :
   wpAny (model PySem.Challenge.rw_pu0052_01.row.prog w) (ktrTop dp un gd (Str.ofString "Whitespace.__init__") wsScope L 80 cdv [] outer) (execs (dropS 5 (bodyOf wsDef)) (envOf (Str.ofString "Whitespace.__init__") wsScope L 80 cdv)) Q (fun _ _ => False) s := by
  revert X; k_fill; intro X
  have e : dropS 5 (bodyOf wsDef) = [wst 5, wst 6, wst 7, wst 8] := rfl
  rw [e]
  conv in wst 5 => whnf
  conv in wst 6 => whnf
  conv in wst 7 => whnf
  conv in wst 8 => whnf
  k_steps
  rename News _ _ _ _ => N9
  exact hQ _ _ _ _ _ _ _ _ _ _ _ _ (by k_asm) (fun p hp => N9 p (List.mem_cons_of_mem _ (List.mem_cons_of_mem _ (List.mem_cons_of_mem _ hp))))
theorem w58b (w : World) (mean : ExcName → Option Value) (mg mb : Str → Option Value) (dp un : Nat) (gd : Option (List Code)) (cdv : Value) (outer : List Env) (A₀ : Around) (base h₀ : Heap) (L : Addr) (m : Str → Option Value) (s : Shared) (Q : Flow → Shared → Prop) (news : List (Addr × Obj)) (B : Below A₀ base outer h₀) (X : (hd.heap_39 w.params).In h₀) (T : Top hd.view_39 (looseW hd.view_39 [Str.ofString "Whitespace"]) mean mg mb h₀) (hdp : dp + 2 < recursionLimit) (hun : un + 20 < cLine) (x : Str) (nn tt bb : Int) (tx kt t1 t2 t3 tq : Tok) (cB x1 dx : Nat) (cn : Nat) (hlt : dx < x1) (n1 : x1 ≠ cB) (n2 : dx ≠ cB) (ho : OwnOff news [x1, dx]) (N : News h₀ L s.heap ((cB, listOf #[.int tt tq] cn) :: (x1, instObj 125 dx) :: (dx, dictOf [{ hash := PyData.keyHash w.params (Str.ofString "raw"), key := Value.str (Str.ofString "raw") kt, val := Value.str x tx }] 1) :: news)) (F : Fr h₀ L s.heap (fun y => if y = Str.ofString "n" then some (.int nn t1) else if y = Str.ofString "nt" then some (.int tt t2) else if y = Str.ofString "b" then some (.int bb t3) else if y = Str.ofString "count" then some (.ref cB) else if y = Str.ofString "self" then some (.ref x1) else m y))
   (hQ : ∀ h' tk' m' k0 k1 k2 k3 k4 u0 u1 u2 a3, Fr h₀ L h' m' → News h₀ L h' ((x1, instObj 125 dx) :: (dx, dictOf [{ hash := PyData.keyHash w.params (Str.ofString "raw"), key := Value.str (Str.ofString "raw") k0, val := .str x u0 }, { hash := PyData.keyHash w.params (Str.ofString "n"), key := Value.str (Str.ofString "n") k1, val := .int nn u1 }, { hash := PyData.keyHash w.params (Str.ofString "nt"), key := Value.str (Str.ofString "nt") k2, val := .int tt u2 }, { hash := PyData.keyHash w.params (Str.ofString "norm"), key := Value.str (Str.ofString "norm") k3, val := .ref a3 }, { hash := PyData.keyHash w.params (Str.ofString "is_simple"), key := Value.str (Str.ofString "is_simple") k4, val := .bool true }] 5) :: news) → Q .next { s with heap := h', toks := tk' }) :
   wpAny (model PySem.Challenge.rw_pu0052_01.row.prog w) (ktrTop dp un gd (Str.ofString "Whitespace.__init__") wsScope L 80 cdv [] outer) (execs (dropS 5 (bodyOf wsDef)) (envOf (Str.ofString "Whitespace.__init__") wsScope L 80 cdv)) Q (fun _ _ => False) s := by
  revert X; k_fill; intro X
  have e : dropS 5 (bodyOf wsDef) = [wst 5, wst 6, wst 7, wst 8] := rfl
  rw [e]
  conv in wst 5 => whnf
  conv in wst 6 => whnf
  conv in wst 7 => whnf
  conv in wst 8 => whnf
  k_steps
  rename News _ _ _ _ => N9
  exact hQ _ _ _ _ _ _ _ _ _ _ _ _ (by k_asm) (fun p hp => N9 p (List.mem_cons_of_mem _ (List.mem_cons_of_mem _ (List.mem_cons_of_mem _ hp))))
end Mine
end
-- part W6
section
namespace Mine
set_option maxRecDepth 100000
set_option maxHeartbeats 8000000
theorem winit (w : World) (mean : ExcName → Option Value) (mg mb : Str → Option Value) (dp un : Nat) (gd : Option (List Code)) (cdv : Value) (outer : List Env) (A₀ : Around) (base h₀ : Heap) (L : Addr) (m : Str → Option Value) (s : Shared) (Q : Flow → Shared → Prop) (news : List (Addr × Obj)) (B : Below A₀ base outer h₀) (X : (hd.heap_39 w.params).In h₀) (T : Top hd.view_39 (looseW hd.view_39 [Str.ofString "Whitespace"]) mean mg mb h₀) (hdp : dp + 2 < recursionLimit) (hun : un + 20 < cLine) (x : Str) (t b : Nat) (sfx : List Nat) (hx : x.cps.toList = List.replicate t 9 ++ (List.replicate b 32 ++ sfx)) (hsf : sfx = [] ∨ sfx = [120, 9]) (tx : Tok) (x1 dx : Nat) (hlt : dx < x1) (ho : OwnOff news [x1, dx]) (N : News h₀ L s.heap ((x1, instObj 125 dx) :: (dx, dictOf [] 0) :: news)) (F : Fr h₀ L s.heap (fun y => if y = Str.ofString "self" then some (.ref x1) else if y = Str.ofString "ws" then some (.str x tx) else m y))
   (hQ : ∀ h' tk' m' k0 k1 k2 k3 k4 u0 u1 u2 a3, Fr h₀ L h' m' → News h₀ L h' ((x1, instObj 125 dx) :: (dx, dictOf [{ hash := PyData.keyHash w.params (Str.ofString "raw"), key := Value.str (Str.ofString "raw") k0, val := .str x u0 }, { hash := PyData.keyHash w.params (Str.ofString "n"), key := Value.str (Str.ofString "n") k1, val := .int ((t + b : Nat) : Int) u1 }, { hash := PyData.keyHash w.params (Str.ofString "nt"), key := Value.str (Str.ofString "nt") k2, val := .int (t : Int) u2 }, { hash := PyData.keyHash w.params (Str.ofString "norm"), key := Value.str (Str.ofString "norm") k3, val := .ref a3 }, { hash := PyData.keyHash w.params (Str.ofString "is_simple"), key := Value.str (Str.ofString "is_simple") k4, val := .bool true }] 5) :: news) → Q .next { s with heap := h', toks := tk' }) :
   wpAny (model PySem.Challenge.rw_pu0052_01.row.prog w) (ktrTop dp un gd (Str.ofString "Whitespace.__init__") wsScope L 80 cdv [] outer) (execs (bodyOf wsDef) (envOf (Str.ofString "Whitespace.__init__") wsScope L 80 cdv)) Q (fun _ _ => False) s := by
  revert X; k_fill; intro X
  have w4 := Hold.mk (wfor w mean mg mb dp un gd cdv outer A₀ base h₀ L)
  have w5a := Hold.mk (w58a w mean mg mb dp un gd cdv outer A₀ base h₀ L)
  have w5b := Hold.mk (w58b w mean mg mb dp un gd cdv outer A₀ base h₀ L)
  have e : bodyOf wsDef = wst 0 :: wst 1 :: wst 2 :: wst 3 :: wst 4 :: dropS 5 (bodyOf wsDef) := rfl
  rw [e]
  clear e
  generalize dropS 5 (bodyOf wsDef) = rest at *
  generalize wst 4 = s4 at *
  generalize hr : s4 :: rest = rest4
  conv in wst 0 => whnf
  conv in wst 1 => whnf
  conv in wst 2 => whnf
  conv in wst 3 => whnf
  k_steps
  subst hr
  dsimp only
  rename Fr _ _ _ _ => F9
  rename News _ _ _ _ => N9
  rename _ ∧ _ => l9
  rename Nat => tk5
  have hne := l9.2.2.2
  refine wpAny_execs_cons (w4.out _ _ _ news B X T hdp hun x t b sfx hx hsf tx _ _ _ _ _ x1 dx 0 (own_one ?_) (fun p hp => N9 p ((List.mem_cons.mp hp).elim (fun e => e ▸ List.mem_cons_self) fun h => List.mem_cons_of_mem _ (List.mem_cons_of_mem _ h))) (fr_names F9 [(Str.ofString "nt", .int 0 _), (Str.ofString "n", .int 0 _), (Str.ofString "b", .int 0 _), (Str.ofString "count", .ref _), (Str.ofString "S", .str (Str.ofString " ") 273), (Str.ofString "T", .str (Str.ofString "\t") 274), (Str.ofString "self", .ref x1)] (List.forall_mem_cons.mpr ⟨rfl, List.forall_mem_cons.mpr ⟨rfl, List.forall_mem_cons.mpr ⟨rfl, List.forall_mem_cons.mpr ⟨rfl, List.forall_mem_cons.mpr ⟨rfl, List.forall_mem_cons.mpr ⟨rfl, List.forall_mem_cons.mpr ⟨rfl, fun _ h => nomatch h⟩⟩⟩⟩⟩⟩⟩)) ?_)
  · exact List.forall_mem_cons.mpr ⟨Nat.ne_of_lt l9.2.1, List.forall_mem_cons.mpr ⟨Nat.ne_of_lt l9.2.2.1, fun p hp => Nat.ne_of_lt (allLt_mem hne p hp)⟩⟩
  · intro h' tk' m' cB tk9 cn' u1 u2 u3 e1 e2 e3 e4 ho' hsame F1 N1
    dsimp only
    have F2 := fr_names F1 [(Str.ofString "n", .int _ u1), (Str.ofString "nt", .int _ u2), (Str.ofString "b", .int _ u3), (Str.ofString "count", .ref cB), (Str.ofString "self", .ref x1)] (List.forall_mem_cons.mpr ⟨e1, List.forall_mem_cons.mpr ⟨e2, List.forall_mem_cons.mpr ⟨e3, List.forall_mem_cons.mpr ⟨e4, List.forall_mem_cons.mpr ⟨hsame (Str.ofString "self") (by decide) (by decide) (by decide) (by decide) (by decide), fun _ h => nomatch h⟩⟩⟩⟩⟩)
    have n1 := ho' _ List.mem_cons_self cB (List.mem_singleton.mpr rfl)
    have n2 := ho' _ (List.mem_cons_of_mem _ List.mem_cons_self) cB (List.mem_singleton.mpr rfl)
    cases t with
    | zero => exact w5a.out _ _ _ news B X T hdp hun x _ _ _ tx _ u1 u2 u3 cB x1 dx cn' hlt n1 n2 ho N1 F2 (fun h9 tk9 m9 k0 k1 k2 k3 k4 v0 v1 v2 a3 f n => hQ h9 tk9 m9 k0 k1 k2 k3 k4 v0 v1 v2 a3 f n)
    | succ t =>
      rw [cnt_succ] at N1
      exact w5b.out _ _ _ news B X T hdp hun x _ _ _ tx _ u1 u2 u3 tk9 cB x1 dx cn' hlt n1 n2 ho N1 F2 (fun h9 tk9 m9 k0 k1 k2 k3 k4 v0 v1 v2 a3 f n => hQ h9 tk9 m9 k0 k1 k2 k3 k4 v0 v1 v2 a3 f n)
theorem white_ok (w : World) (x : Str) (tx : Tok) (t b : Nat) (sfx : List Nat) (hx : x.cps.toList = List.replicate t 9 ++ (List.replicate b 32 ++ sfx)) (hsf : sfx = [] ∨ sfx = [120, 9])
    (mean : ExcName → Option Value) (mg mb : Str → Option Value) (news : List (Addr × Obj)) (dp un : Nat) (gd : Option (List Code)) (cn : Str) (cs : Scope) (a : Addr) (ccd : Value) (cl : List (Str × Addr)) (outer : List Env) (A₀ : Around) (base h₀ : Heap) (L : Addr) (m : Str → Option Value) (s : Shared) (Q E : Value → Shared → Prop)
    (B : Below A₀ base outer h₀) (F : Fr h₀ L s.heap m) (X : (hd.heap_39 w.params).In h₀) (N : News h₀ L s.heap news) (T : Top hd.view_39 (looseW hd.view_39 [Str.ofString "Whitespace"]) mean mg mb h₀) (hk : cs.kind = .function)
    (hdp : dp + 5 < recursionLimit) (hun : un + 30 < cLine)
    (hQ : ∀ x1 dx h' tk' k0 k1 k2 k3 k4 u0 u1 u2 a3, Fr h₀ L h' m → News h₀ L h' ((x1, instObj 125 dx) :: (dx, dictOf [{ hash := PyData.keyHash w.params (Str.ofString "raw"), key := Value.str (Str.ofString "raw") k0, val := .str x u0 }, { hash := PyData.keyHash w.params (Str.ofString "n"), key := Value.str (Str.ofString "n") k1, val := .int ((t + b : Nat) : Int) u1 }, { hash := PyData.keyHash w.params (Str.ofString "nt"), key := Value.str (Str.ofString "nt") k2, val := .int (t : Int) u2 }, { hash := PyData.keyHash w.params (Str.ofString "norm"), key := Value.str (Str.ofString "norm") k3, val := .ref a3 }, { hash := PyData.keyHash w.params (Str.ofString "is_simple"), key := Value.str (Str.ofString "is_simple") k4, val := .bool true }] 5) :: news) → (∀ p ∈ news, p.1 < dx) → dx < x1 → Q (.ref x1) { s with heap := h', toks := tk' }) :
      wpAny (model PySem.Challenge.rw_pu0052_01.row.prog w) (ktrTop dp un gd cn cs L a ccd cl outer) (call (.ref 125) [.str x tx]) Q E s := by
  revert X; k_fill; intro X
  refine call_cls (fI := 80) F X N ?a1 ?a2 ?a3 ?_
  case a1 => k_is
  case a2 => k_is
  case a3 => k_is
  intro x1 dx h1 F1 N1 l1 l2
  k_dflt cell_enter
  rename_i g' L' h' FG' F' N' B' X' T'
  have F9 := fr_names F' [(Str.ofString "self", .ref x1), (Str.ofString "ws", .str x tx)] (List.forall_mem_cons.mpr ⟨rfl, List.forall_mem_cons.mpr ⟨rfl, fun _ h => nomatch h⟩⟩)
  refine wpAny_mono (winit w mean mg mb _ _ gd _ _ _ base g' L' _ _ (fun fl s' => ∃ h9 tk9 m9 k0 k1 k2 k3 k4 u0 u1 u2 a3, fl = .next ∧ s' = { s with heap := h9, toks := tk9 } ∧ Fr g' L' h9 m9 ∧ News g' L' h9 ((x1, instObj 125 dx) :: (dx, dictOf [{ hash := PyData.keyHash w.params (Str.ofString "raw"), key := Value.str (Str.ofString "raw") k0, val := .str x u0 }, { hash := PyData.keyHash w.params (Str.ofString "n"), key := Value.str (Str.ofString "n") k1, val := .int ((t + b : Nat) : Int) u1 }, { hash := PyData.keyHash w.params (Str.ofString "nt"), key := Value.str (Str.ofString "nt") k2, val := .int (t : Int) u2 }, { hash := PyData.keyHash w.params (Str.ofString "norm"), key := Value.str (Str.ofString "norm") k3, val := .ref a3 }, { hash := PyData.keyHash w.params (Str.ofString "is_simple"), key := Value.str (Str.ofString "is_simple") k4, val := .bool true }] 5) :: news)) news B' X' T' ?_ ?_ x t b sfx hx hsf tx x1 dx l2 ?_ N' F9 (fun h9 tk9 m9 k0 k1 k2 k3 k4 u0 u1 u2 a3 f n => ⟨h9, tk9, m9, k0, k1, k2, k3, k4, u0, u1, u2, a3, rfl, rfl, f, n⟩)) ?_ (fun _ _ h => h.elim)
  · show dp + Code.weight (.builtin "type.__call__" ⟨[.ref 125, .str x tx], []⟩) + 1 + 2 < recursionLimit
    have e : Code.weight (.builtin "type.__call__" ⟨[.ref 125, .str x tx], []⟩) = 1 := rfl
    omega
  · show un + Code.cUnits (.builtin "type.__call__" ⟨[.ref 125, .str x tx], []⟩) + 3 + 20 < cLine
    have e : Code.cUnits (.builtin "type.__call__" ⟨[.ref 125, .str x tx], []⟩) = 1 := rfl
    omega
  · intro p hp b hb
    have := l1 p hp
    rcases List.mem_cons.mp hb with e | hb
    · rw [e]; exact Nat.ne_of_lt (Nat.lt_trans this l2)
    · rw [List.mem_singleton.mp hb]; exact Nat.ne_of_lt this
  · rintro fl s' ⟨h9, tk9, m9, k0, k1, k2, k3, k4, u0, u1, u2, a3, rfl, rfl, f, n⟩
    refine leaveK_ f n (fun kF kN => ?_)
    exact ⟨rfl, hQ _ _ _ _ _ _ _ _ _ _ _ _ _ kF kN l1 l2⟩
end Mine
end
-- part B2
section
namespace Mine
set_option maxRecDepth 100000
set_option maxHeartbeats 8000000
theorem lead_list (t b : Int) : (lead t b).cps.toList = List.replicate t.toNat 9 ++ List.replicate b.toNat 32 := by
  have e1 : Str.ofString "\t" = ⟨#[9]⟩ := by decide +kernel
  have e2 : Str.ofString " " = ⟨#[32]⟩ := by decide +kernel
  unfold lead
  rw [e1, e2, ← mul_one_list, ← mul_one_list]
  exact Array.toList_append
theorem no_way {p : Prop} [Decidable p] (h : p) : ¬ ((decide p != true) = true) := by rw [decide_eq_true h]; decide
theorem no_wayF {p : Prop} [Decidable p] (h : ¬ p) : ¬ ((decide p != false) = true) := by rw [decide_eq_false h]; decide
theorem lead_cps (t b : Nat) : (lead t b).cps.toList = List.replicate t 9 ++ (List.replicate b 32 ++ []) := by
  rw [lead_list, List.append_nil]; rfl
local macro_rules | `(tactic| walk_at "call ref") => `(tactic| (k_here; k_dflt (refine' white_ok _ _ _ _ _ _ ?p1 ?p2 _ _ _ _ _ _ _ _ _ _ _ _ _ _ _ _ _ _ _ _ _ ?k1 ?k2 ?k3 ?k4 ?k5 ?k6 ?k7 ?k8 ?_; (case p1 => exact lead_cps _ _); (case p2 => exact .inl rfl); (case k1 => k_asm); (case k2 => k_asm); (case k3 => k_asm); (case k4 => k_asm); (case k5 => k_asm); (case k6 => rfl); (case k7 => decide); (case k8 => decide)); intro x8 d8 h9 tk9 i0 i1 i2 i3 i4 v0 v1 v2 a9 F9 N9 l9 l8; (try k_lt l9); (try k_lt2 l8); (try dsimp only)))
theorem b2a (w : World) (mean : ExcName → Option Value) (mg mb : Str → Option Value) (fa : Addr) (cd : Value) (h₀ : Heap) (L : Nat) (m : Str → Option Value) (s : Shared) (Q : Flow → Shared → Prop) (B : Below callerA h₀ [] h₀) (X : (hd.heap_39 w.params).In h₀) (T : Top hd.view_39 (looseW hd.view_39 [Str.ofString "Whitespace"]) mean mg mb h₀)
   (o7 : Obj) (t b : Nat) (f0 f1 : Int) (xr : Str) (t7 k0 k1 k2 k3 k4 u0 u1 u2 : Tok) (a3 : Addr) (d7 : o7.data = .cell (some (.str (lead t b) t7))) (ht4 : t < 4) (hb4 : b < 4) (hf0 : 0 ≤ f0) (hf1 : f0 < 2) (hf2 : 0 ≤ f1) (hf3 : f1 < 3) (lA ld : Nat) (rest : List (Addr × Obj)) (N : News h₀ L s.heap ((L + 7, o7) :: (lA, instObj 125 ld) :: (ld, dictOf [{ hash := PyData.keyHash w.params (Str.ofString "raw"), key := Value.str (Str.ofString "raw") k0, val := .str xr u0 }, { hash := PyData.keyHash w.params (Str.ofString "n"), key := Value.str (Str.ofString "n") k1, val := .int (f0 + f1) u1 }, { hash := PyData.keyHash w.params (Str.ofString "nt"), key := Value.str (Str.ofString "nt") k2, val := .int f0 u2 }, { hash := PyData.keyHash w.params (Str.ofString "norm"), key := Value.str (Str.ofString "norm") k3, val := .ref a3 }, { hash := PyData.keyHash w.params (Str.ofString "is_simple"), key := Value.str (Str.ofString "is_simple") k4, val := .bool true }] 5) :: rest)) (F : Fr h₀ L s.heap (fun y => if y = Str.ofString "inside" then some (.bool true) else if y = Str.ofString "low" then some (.ref lA) else m y)) (hc : f0 + f1 < t + b) (hc2 : f0 ≤ t) (hQ : ∀ h' tk', Fr h₀ L h' (fun y => if y = Str.ofString "inside" then some (.bool true) else if y = Str.ofString "low" then some (.ref lA) else m y) → News h₀ L h' ((L + 7, o7) :: (lA, instObj 125 ld) :: (ld, dictOf [{ hash := PyData.keyHash w.params (Str.ofString "raw"), key := Value.str (Str.ofString "raw") k0, val := .str xr u0 }, { hash := PyData.keyHash w.params (Str.ofString "n"), key := Value.str (Str.ofString "n") k1, val := .int (f0 + f1) u1 }, { hash := PyData.keyHash w.params (Str.ofString "nt"), key := Value.str (Str.ofString "nt") k2, val := .int f0 u2 }, { hash := PyData.keyHash w.params (Str.ofString "norm"), key := Value.str (Str.ofString "norm") k3, val := .ref a3 }, { hash := PyData.keyHash w.params (Str.ofString "is_simple"), key := Value.str (Str.ofString "is_simple") k4, val := .bool true }] 5) :: rest) → Q .next { s with heap := h', toks := tk' }) :
   wpAny (model PySem.Challenge.rw_pu0052_01.row.prog w) (callerA.deeper (envOfC (Str.ofString "law") lawScope L fa cd)) (exec (lbst 2) (envOfC (Str.ofString "law") lawScope L fa cd)) Q (fun _ _ => False) s := by
  revert X; k_fill; intro X
  conv in (lbst 2) => whnf
  k_steps
  all_goals first
    | (rename News _ _ _ _ => N9
       exact hQ _ _ (by k_asm) (fun p hp => N9 p (List.mem_cons_of_mem _ (List.mem_cons_of_mem _ hp))))
    | exact absurd (by assumption) (no_way hc2)

theorem b2b (w : World) (mean : ExcName → Option Value) (mg mb : Str → Option Value) (fa : Addr) (cd : Value) (h₀ : Heap) (L : Nat) (m : Str → Option Value) (s : Shared) (Q : Flow → Shared → Prop) (B : Below callerA h₀ [] h₀) (X : (hd.heap_39 w.params).In h₀) (T : Top hd.view_39 (looseW hd.view_39 [Str.ofString "Whitespace"]) mean mg mb h₀)
   (o7 : Obj) (t b : Nat) (f0 f1 : Int) (xr : Str) (t7 k0 k1 k2 k3 k4 u0 u1 u2 : Tok) (a3 : Addr) (d7 : o7.data = .cell (some (.str (lead t b) t7))) (ht4 : t < 4) (hb4 : b < 4) (hf0 : 0 ≤ f0) (hf1 : f0 < 2) (hf2 : 0 ≤ f1) (hf3 : f1 < 3) (lA ld : Nat) (rest : List (Addr × Obj)) (N : News h₀ L s.heap ((L + 7, o7) :: (lA, instObj 125 ld) :: (ld, dictOf [{ hash := PyData.keyHash w.params (Str.ofString "raw"), key := Value.str (Str.ofString "raw") k0, val := .str xr u0 }, { hash := PyData.keyHash w.params (Str.ofString "n"), key := Value.str (Str.ofString "n") k1, val := .int (f0 + f1) u1 }, { hash := PyData.keyHash w.params (Str.ofString "nt"), key := Value.str (Str.ofString "nt") k2, val := .int f0 u2 }, { hash := PyData.keyHash w.params (Str.ofString "norm"), key := Value.str (Str.ofString "norm") k3, val := .ref a3 }, { hash := PyData.keyHash w.params (Str.ofString "is_simple"), key := Value.str (Str.ofString "is_simple") k4, val := .bool true }] 5) :: rest)) (F : Fr h₀ L s.heap (fun y => if y = Str.ofString "inside" then some (.bool false) else if y = Str.ofString "low" then some (.ref lA) else m y)) (hc : f0 + f1 < t + b) (hc2 : ¬ f0 ≤ t) (hQ : ∀ h' tk', Fr h₀ L h' (fun y => if y = Str.ofString "inside" then some (.bool false) else if y = Str.ofString "low" then some (.ref lA) else m y) → News h₀ L h' ((L + 7, o7) :: (lA, instObj 125 ld) :: (ld, dictOf [{ hash := PyData.keyHash w.params (Str.ofString "raw"), key := Value.str (Str.ofString "raw") k0, val := .str xr u0 }, { hash := PyData.keyHash w.params (Str.ofString "n"), key := Value.str (Str.ofString "n") k1, val := .int (f0 + f1) u1 }, { hash := PyData.keyHash w.params (Str.ofString "nt"), key := Value.str (Str.ofString "nt") k2, val := .int f0 u2 }, { hash := PyData.keyHash w.params (Str.ofString "norm"), key := Value.str (Str.ofString "norm") k3, val := .ref a3 }, { hash := PyData.keyHash w.params (Str.ofString "is_simple"), key := Value.str (Str.ofString "is_simple") k4, val := .bool true }] 5) :: rest) → Q .next { s with heap := h', toks := tk' }) :
   wpAny (model PySem.Challenge.rw_pu0052_01.row.prog w) (callerA.deeper (envOfC (Str.ofString "law") lawScope L fa cd)) (exec (lbst 2) (envOfC (Str.ofString "law") lawScope L fa cd)) Q (fun _ _ => False) s := by
  revert X; k_fill; intro X
  conv in (lbst 2) => whnf
  k_steps
  all_goals first
    | (rename News _ _ _ _ => N9
       exact hQ _ _ (by k_asm) (fun p hp => N9 p (List.mem_cons_of_mem _ (List.mem_cons_of_mem _ hp))))
    | exact absurd (by assumption) (no_wayF hc2)

theorem b2c (w : World) (mean : ExcName → Option Value) (mg mb : Str → Option Value) (fa : Addr) (cd : Value) (h₀ : Heap) (L : Nat) (m : Str → Option Value) (s : Shared) (Q : Flow → Shared → Prop) (B : Below callerA h₀ [] h₀) (X : (hd.heap_39 w.params).In h₀) (T : Top hd.view_39 (looseW hd.view_39 [Str.ofString "Whitespace"]) mean mg mb h₀)
   (o7 : Obj) (t b : Nat) (f0 f1 : Int) (xr : Str) (t7 k0 k1 k2 k3 k4 u0 u1 u2 : Tok) (a3 : Addr) (d7 : o7.data = .cell (some (.str (lead t b) t7))) (ht4 : t < 4) (hb4 : b < 4) (hf0 : 0 ≤ f0) (hf1 : f0 < 2) (hf2 : 0 ≤ f1) (hf3 : f1 < 3) (lA ld : Nat) (rest : List (Addr × Obj)) (N : News h₀ L s.heap ((L + 7, o7) :: (lA, instObj 125 ld) :: (ld, dictOf [{ hash := PyData.keyHash w.params (Str.ofString "raw"), key := Value.str (Str.ofString "raw") k0, val := .str xr u0 }, { hash := PyData.keyHash w.params (Str.ofString "n"), key := Value.str (Str.ofString "n") k1, val := .int (f0 + f1) u1 }, { hash := PyData.keyHash w.params (Str.ofString "nt"), key := Value.str (Str.ofString "nt") k2, val := .int f0 u2 }, { hash := PyData.keyHash w.params (Str.ofString "norm"), key := Value.str (Str.ofString "norm") k3, val := .ref a3 }, { hash := PyData.keyHash w.params (Str.ofString "is_simple"), key := Value.str (Str.ofString "is_simple") k4, val := .bool true }] 5) :: rest)) (F : Fr h₀ L s.heap (fun y => if y = Str.ofString "inside" then some (.bool false) else if y = Str.ofString "low" then some (.ref lA) else m y)) (hc : ¬ f0 + f1 < t + b) (hQ : ∀ h' tk', Fr h₀ L h' (fun y => if y = Str.ofString "inside" then some (.bool false) else if y = Str.ofString "low" then some (.ref lA) else m y) → News h₀ L h' ((L + 7, o7) :: (lA, instObj 125 ld) :: (ld, dictOf [{ hash := PyData.keyHash w.params (Str.ofString "raw"), key := Value.str (Str.ofString "raw") k0, val := .str xr u0 }, { hash := PyData.keyHash w.params (Str.ofString "n"), key := Value.str (Str.ofString "n") k1, val := .int (f0 + f1) u1 }, { hash := PyData.keyHash w.params (Str.ofString "nt"), key := Value.str (Str.ofString "nt") k2, val := .int f0 u2 }, { hash := PyData.keyHash w.params (Str.ofString "norm"), key := Value.str (Str.ofString "norm") k3, val := .ref a3 }, { hash := PyData.keyHash w.params (Str.ofString "is_simple"), key := Value.str (Str.ofString "is_simple") k4, val := .bool true }] 5) :: rest) → Q .next { s with heap := h', toks := tk' }) :
   wpAny (model PySem.Challenge.rw_pu0052_01.row.prog w) (callerA.deeper (envOfC (Str.ofString "law") lawScope L fa cd)) (exec (lbst 2) (envOfC (Str.ofString "law") lawScope L fa cd)) Q (fun _ _ => False) s := by
  revert X; k_fill; intro X
  conv in (lbst 2) => whnf
  k_steps
  all_goals first
    | (rename News _ _ _ _ => N9
       exact hQ _ _ (by k_asm) (fun p hp => N9 p (List.mem_cons_of_mem _ (List.mem_cons_of_mem _ hp))))
    | exact absurd (by assumption) id

end Mine
end
-- part V2
section
namespace Mine
set_option maxRecDepth 100000
set_option maxHeartbeats 8000000
/-- the first loop's test -/
def go1 (a b : Str) (k : Int) : Bool := decide (((Txt.slice a (some k) none).length : Int) ≠ 0) && (decide (((Txt.slice b (some k) none).length : Int) ≠ 0) && (Txt.item a k == Txt.item b k))
theorem go1_f1 {a b : Str} {k : Int} (h : ((Txt.slice a (some k) none).length : Int) = 0) : go1 a b k = false := by unfold go1; rw [decide_eq_false (fun e => e h)]; rfl
theorem go1_f2 {a b : Str} {k : Int} (h : ((Txt.slice b (some k) none).length : Int) = 0) : go1 a b k = false := by unfold go1; rw [decide_eq_false (p := ((Txt.slice b (some k) none).length : Int) ≠ 0) (fun e => e h)]; simp
theorem go1_f3 {a b : Str} {k : Int} (h : (Txt.item a k == Txt.item b k) = false) : go1 a b k = false := by unfold go1; rw [h]; simp
theorem go1_t {a b : Str} {k : Int} (h1 : ((Txt.slice a (some k) none).length : Int) ≠ 0) (h2 : ((Txt.slice b (some k) none).length : Int) ≠ 0) (h : (Txt.item a k == Txt.item b k) = true) : go1 a b k = true := by
  unfold go1; rw [decide_eq_true h1, decide_eq_true h2, h]; rfl
theorem go1_on {a b : Str} {k : Int} (h : ∀ j, 0 ≤ j → j < k → go1 a b j = true) (hk : go1 a b k = true) : ∀ j, 0 ≤ j → j < k + 1 → go1 a b j = true := by
  intro j h0 h1
  by_cases e : j = k
  · rw [e]; exact hk
  · exact h j h0 (by omega)
theorem l2 (w : World) (mean : ExcName → Option Value) (mg mb : Str → Option Value) (dp un : Nat) (gd : Option (List Code)) (cdv : Value) (outer : List Env) (A₀ : Around) (base h₀ : Heap) (L : Addr) (m : Str → Option Value) (s : Shared) (Q : Flow → Shared → Prop) (news : List (Addr × Obj)) (B : Below A₀ base outer h₀) (X : (hd.heap_39 w.params).In h₀) (T : Top hd.view_39 (looseW hd.view_39 [Str.ofString "Whitespace"]) mean mg mb h₀) (hdp : dp + 2 < recursionLimit) (hun : un + 20 < cLine)
   (N : News h₀ L s.heap news) (a b : Str) (ta tb tc tp : Tok) (c : Int) (ha : a.length ≤ 8) (hb : b.length ≤ 8) (F : Fr h₀ L s.heap (fun y => if y = Str.ofString "pre" then some (.int 0 tp) else if y = Str.ofString "a" then some (.str a ta) else if y = Str.ofString "b" then some (.str b tb) else if y = Str.ofString "max_cost" then some (.int c tc) else m y)) (hQ : ∀ h' tk' k t, 0 ≤ k → k ≤ (a.length : Int) → (∀ j, 0 ≤ j → j < k → go1 a b j = true) → go1 a b k = false → Fr h₀ L h' (fun y => if y = Str.ofString "pre" then some (.int k t) else if y = Str.ofString "a" then some (.str a ta) else if y = Str.ofString "b" then some (.str b tb) else if y = Str.ofString "max_cost" then some (.int c tc) else m y) → News h₀ L h' news → Q .next { s with heap := h', toks := tk' }) :
   wpAny (model PySem.Challenge.rw_pu0052_01.row.prog w) (ktrTop dp un gd (Str.ofString "_levenshtein_distance") levScope L 143 cdv [] outer) (exec (lst 2) (envOf (Str.ofString "_levenshtein_distance") levScope L 143 cdv)) Q (fun _ _ => False) s := by
  revert X; k_fill; intro X
  have hStop0 := stop "KswEnd"
  conv in lst 2 => whnf
  refine ksw_while (σ := Int × Tok) (fun _ => news) (fun c => [(Str.ofString "pre", .int c.1 c.2)]) (fun _ => True) [] (fun c => 0 ≤ c.1 ∧ c.1 ≤ (a.length : Int) ∧ ∀ j, 0 ≤ j → j < c.1 → go1 a b j = true) (fun c => a.length - c.1.toNat) (0, tp) F N trivial ?_ ?_ ?_
  · simp
  · refine ⟨by simp, by simp, fun j h1 h2 => ?_⟩
    dsimp only at h2
    omega
  rintro ⟨k, tk0⟩ u h tk1 - hP F1 N1
  clear F N
  have F2 : Fr h₀ L h (fun y => if y = Str.ofString "pre" then some (.int k tk0) else if y = Str.ofString "a" then some (.str a ta) else if y = Str.ofString "b" then some (.str b tb) else if y = Str.ofString "max_cost" then some (.int c tc) else m y) := by
    refine fr_to F1 fun y => ?_
    simp only [kstB, List.contains_nil, Bool.false_eq_true, if_false]
    split <;> simp_all
  clear F1
  obtain ⟨hp1, hp2, hp3⟩ := hP
  dsimp only at hp1 hp2 hp3 ⊢
  replace hp3 := Hold.mk hp3
  k_steps
  all_goals first
    | exact hQ _ _ k _ hp1 hp2 hp3.out (by first | exact go1_f1 (by assumption) | exact go1_f2 (by assumption) | exact go1_f3 (by assumption)) (by k_asm) (by k_asm)
    | (refine Hold.mk (ksw_end (k + 1, _) (by k_asm) (by k_asm) (fun _ h => h) trivial (by simp; rfl) (by ksw_same) ⟨?_, ?_, go1_on hp3.out (go1_t (by assumption) (by assumption) (by assumption))⟩ ?_)) <;> dsimp only <;> omega

end Mine
end
-- part V6
section
namespace Mine
set_option maxRecDepth 100000
set_option maxHeartbeats 8000000
theorem slice_nn (x : Str) : Txt.slice x none none = x := by
  unfold Txt.slice
  rw [if_pos]
  unfold Builtin.Str.strSliceIndices sliceRange
  simp
  omega
theorem neg_in {x : Str} {k : Int} (h : ((Txt.slice x none (some k)).length : Int) ≠ 0) (hk : k < 0) : -(x.length : Int) ≤ k - 1 := by
  apply Int.not_lt.mp
  intro hlt
  apply h
  unfold Txt.slice
  have e : (Builtin.Str.strSliceIndices none (some k) 1 x.length) = [] := by
    unfold Builtin.Str.strSliceIndices sliceRange
    have e1 : max 0 (min (k + (x.length : Int)) x.length) = 0 := by omega
    simp [hk, e1]
  rw [e]
  split
  · rename_i h1
    simp at h1
    omega
  · rfl
theorem slice_same {prog : Program} {w : World} {A : Around} {E : Value → Shared → Prop} {s : Shared} {value slice : Expr} {x : Str} {t : Tok} {h₀ : Heap} {L : Addr} {m : Str → Option Value} {news : List (Addr × Obj)} {Q : Value → Shared → Prop}
    (hF : Fr h₀ L s.heap m) (hN : News h₀ L s.heap news) (h : ∀ h' t' k, Fr h₀ L h' m → News h₀ L h' news → Q (.str x t') { s with heap := h', toks := k })
    (hs : subscripted slice false (.str x t) (.ref s.heap.objs.size) = operate [.ref s.heap.objs.size, .str x t] (getItem (.str x t) (.ref s.heap.objs.size)) := by with_unfolding_all rfl)
    (ht : ∀ r, letTemporaryGo value (.str x t) r = pure () := by intro _; with_unfolding_all rfl) (hsz : x.length ≤ sizeLine := by size_fits) :
    wpAny (model prog w) A (subscriptTail value slice (.str x t) (.ref s.heap.objs.size)) Q E { s with heap := s.heap.push { cls := .type "slice", data := .fields #[.none, .none, .none] } } :=
  slice_strN_nn hF hN (fun h' t' k a b => by rw [slice_nn]; exact h h' t' k a b) hs ht hsz
/-- a[:p or None] -/
def cutTo (a : Str) (p : Int) : Str := if p = 0 then a else Txt.slice a none (some p)
/-- the second loop's test -/
def go2 (a b : Str) (p : Int) : Bool := decide (((cutTo a p).length : Int) ≠ 0) && (decide (((cutTo b p).length : Int) ≠ 0) && (Txt.item a (p - 1) == Txt.item b (p - 1)))
theorem cut_zero (a : Str) : cutTo a 0 = a := rfl
theorem cut_neg {a : Str} {p : Int} (h : p ≠ 0) : cutTo a p = Txt.slice a none (some p) := if_neg h
theorem go2_f1 {a b : Str} {p : Int} (h : ((cutTo a p).length : Int) = 0) : go2 a b p = false := by unfold go2; rw [decide_eq_false (fun e => e h)]; rfl
theorem go2_f2 {a b : Str} {p : Int} (h : ((cutTo b p).length : Int) = 0) : go2 a b p = false := by unfold go2; rw [decide_eq_false (p := ((cutTo b p).length : Int) ≠ 0) (fun e => e h)]; simp
theorem go2_f3 {a b : Str} {p : Int} (h : (Txt.item a (p - 1) == Txt.item b (p - 1)) = false) : go2 a b p = false := by unfold go2; rw [h]; simp
theorem go2_t {a b : Str} {p : Int} (h1 : ((cutTo a p).length : Int) ≠ 0) (h2 : ((cutTo b p).length : Int) ≠ 0) (h : (Txt.item a (p - 1) == Txt.item b (p - 1)) = true) : go2 a b p = true := by
  unfold go2; rw [decide_eq_true h1, decide_eq_true h2, h]; rfl
theorem go2_on {a b : Str} {k : Int} (h : ∀ j, j ≤ 0 → k < j → go2 a b j = true) (hk : go2 a b k = true) : ∀ j, j ≤ 0 → k - 1 < j → go2 a b j = true := by
  intro j h0 h1
  by_cases e : j = k
  · rw [e]; exact hk
  · exact h j h0 (by omega)
local macro_rules | `(tactic| walk_at "subscriptTail Name Slice str ref") => `(tactic| ((with_reducible show wpAny _ _ (subscriptTail _ (Expr.Slice none (some _) none _) _ _) _ _ _); (refine slice_same (hsz := ?hsz) (s := ⟨_, _, _, _, _⟩) (by k_asm) (by k_asm) ?_); (case hsz => size_fits); intro _ _ _ _ _; (try dsimp only)))
local macro_rules | `(tactic| walk_at "subscriptTail Name BinOp str int") => `(tactic| (refine item_str (fitsSsize_of (N := 9223372036854775808) (by omega) (by omega) (Int.le_refl _)) (by first | omega | exact neg_in (by assumption) (by omega)) (by omega) ?_; intro _; (try dsimp only)))
theorem l6 (w : World) (mean : ExcName → Option Value) (mg mb : Str → Option Value) (dp un : Nat) (gd : Option (List Code)) (cdv : Value) (outer : List Env) (A₀ : Around) (base h₀ : Heap) (L : Addr) (m : Str → Option Value) (s : Shared) (Q : Flow → Shared → Prop) (news : List (Addr × Obj)) (B : Below A₀ base outer h₀) (X : (hd.heap_39 w.params).In h₀) (T : Top hd.view_39 (looseW hd.view_39 [Str.ofString "Whitespace"]) mean mg mb h₀) (hdp : dp + 2 < recursionLimit) (hun : un + 20 < cLine)
   (N : News h₀ L s.heap news) (a b : Str) (ta tb tc tp : Tok) (c : Int) (ha : a.length ≤ 8) (hb : b.length ≤ 8) (F : Fr h₀ L s.heap (fun y => if y = Str.ofString "post" then some (.int 0 tp) else if y = Str.ofString "a" then some (.str a ta) else if y = Str.ofString "b" then some (.str b tb) else if y = Str.ofString "max_cost" then some (.int c tc) else m y)) (hQ : ∀ h' tk' k t, k ≤ 0 → -k ≤ (a.length : Int) → (∀ j, j ≤ 0 → k < j → go2 a b j = true) → go2 a b k = false → Fr h₀ L h' (fun y => if y = Str.ofString "post" then some (.int k t) else if y = Str.ofString "a" then some (.str a ta) else if y = Str.ofString "b" then some (.str b tb) else if y = Str.ofString "max_cost" then some (.int c tc) else m y) → News h₀ L h' news → Q .next { s with heap := h', toks := tk' }) :
   wpAny (model PySem.Challenge.rw_pu0052_01.row.prog w) (ktrTop dp un gd (Str.ofString "_levenshtein_distance") levScope L 143 cdv [] outer) (exec (lst 6) (envOf (Str.ofString "_levenshtein_distance") levScope L 143 cdv)) Q (fun _ _ => False) s := by
  revert X; k_fill; intro X
  have hStop0 := stop "KswEnd"
  conv in lst 6 => whnf
  refine ksw_while (σ := Int × Tok) (fun _ => news) (fun c => [(Str.ofString "post", .int c.1 c.2)]) (fun _ => True) [] (fun c => c.1 ≤ 0 ∧ -c.1 ≤ (a.length : Int) ∧ ∀ j, j ≤ 0 → c.1 < j → go2 a b j = true) (fun c => a.length - (-c.1).toNat) (0, tp) F N trivial ?_ ?_ ?_
  · simp
  · refine ⟨by simp, by simp, fun j h1 h2 => ?_⟩
    dsimp only at h2
    omega
  rintro ⟨k, tk0⟩ u h tk1 - hP F1 N1
  clear F N
  have F2 : Fr h₀ L h (fun y => if y = Str.ofString "post" then some (.int k tk0) else if y = Str.ofString "a" then some (.str a ta) else if y = Str.ofString "b" then some (.str b tb) else if y = Str.ofString "max_cost" then some (.int c tc) else m y) := by
    refine fr_to F1 fun y => ?_
    simp only [kstB, List.contains_nil, Bool.false_eq_true, if_false]
    split <;> simp_all
  clear F1
  obtain ⟨hp1, hp2, hp3⟩ := hP
  dsimp only at hp1 hp2 hp3 ⊢
  replace hp3 := Hold.mk hp3
  by_cases hk : k = 0
  · subst hk
    k_steps
    all_goals first
      | exact hQ _ _ 0 _ hp1 hp2 hp3.out (by first | exact go2_f1 (by rw [cut_zero]; assumption) | exact go2_f2 (by rw [cut_zero]; assumption) | exact go2_f3 (by assumption)) (by k_asm) (by k_asm)
      | (refine Hold.mk (ksw_end (0 - 1, _) (by k_asm) (by k_asm) (fun _ h => h) trivial (by simp; rfl) (by ksw_same) ⟨?_, ?_, go2_on hp3.out (go2_t (by rw [cut_zero]; assumption) (by rw [cut_zero]; assumption) (by assumption))⟩ ?_)) <;> dsimp only <;> omega
  · have hk' : (k != 0) = true := by simpa using hk
    k_steps
    all_goals first
      | exact hQ _ _ k _ hp1 hp2 hp3.out (by first | exact go2_f1 (by rw [cut_neg hk]; assumption) | exact go2_f2 (by rw [cut_neg hk]; assumption) | exact go2_f3 (by assumption)) (by k_asm) (by k_asm)
      | (have hn := neg_in (x := a) (k := k) (by assumption) (by omega)
         refine Hold.mk (ksw_end (k - 1, _) (by k_asm) (by k_asm) (fun _ h => h) trivial (by simp; rfl) (by ksw_same) ⟨?_, ?_, go2_on hp3.out (go2_t (by rw [cut_neg hk]; assumption) (by rw [cut_neg hk]; assumption) (by assumption))⟩ ?_)) <;> dsimp only <;> omega

end Mine
end
-- part VM
section
namespace Mine
set_option maxRecDepth 100000
set_option maxHeartbeats 8000000
local macro_rules | `(tactic| walk_at "subscriptTail Name Slice str ref") => `(tactic| ((with_reducible show wpAny _ _ (subscriptTail _ (Expr.Slice none (some _) none _) _ _) _ _ _); (refine slice_same (hsz := ?hsz) (s := ⟨_, _, _, _, _⟩) (by k_asm) (by k_asm) ?_); (case hsz => size_fits); intro _ _ _ _ _; (try dsimp only)))
theorem l78 (w : World) (mean : ExcName → Option Value) (mg mb : Str → Option Value) (dp un : Nat) (gd : Option (List Code)) (cdv : Value) (outer : List Env) (A₀ : Around) (base h₀ : Heap) (L : Addr) (m : Str → Option Value) (s : Shared) (Q : Flow → Shared → Prop) (news : List (Addr × Obj)) (B : Below A₀ base outer h₀) (X : (hd.heap_39 w.params).In h₀) (T : Top hd.view_39 (looseW hd.view_39 [Str.ofString "Whitespace"]) mean mg mb h₀) (hdp : dp + 2 < recursionLimit) (hun : un + 20 < cLine) (a b : Str) (c p : Int) (ta tb tc tp : Tok) (hp : p ≤ 0) (ha : a.length ≤ 8) (hb : b.length ≤ 8) (N : News h₀ L s.heap news) (F : Fr h₀ L s.heap (fun y => if y = Str.ofString "post" then some (.int p tp) else if y = Str.ofString "a" then some (.str a ta) else if y = Str.ofString "b" then some (.str b tb) else if y = Str.ofString "max_cost" then some (.int c tc) else m y))
   (hQ : ∀ h' tk' t1 t2, Fr h₀ L h' (fun y => if y = Str.ofString "b" then some (.str (cutTo b p) t2) else if y = Str.ofString "a" then some (.str (cutTo a p) t1) else if y = Str.ofString "post" then some (.int p tp) else if y = Str.ofString "a" then some (.str a ta) else if y = Str.ofString "b" then some (.str b tb) else if y = Str.ofString "max_cost" then some (.int c tc) else m y) → News h₀ L h' news → wpAny (model PySem.Challenge.rw_pu0052_01.row.prog w) (ktrTop dp un gd (Str.ofString "_levenshtein_distance") levScope L 143 cdv [] outer) (execs (dropS 9 (bodyOf levDef)) (envOf (Str.ofString "_levenshtein_distance") levScope L 143 cdv)) Q (fun _ _ => False) { s with heap := h', toks := tk' }) :
   wpAny (model PySem.Challenge.rw_pu0052_01.row.prog w) (ktrTop dp un gd (Str.ofString "_levenshtein_distance") levScope L 143 cdv [] outer) (execs (dropS 7 (bodyOf levDef)) (envOf (Str.ofString "_levenshtein_distance") levScope L 143 cdv)) Q (fun _ _ => False) s := by
  revert X; k_fill; intro X
  have e : dropS 7 (bodyOf levDef) = lst 7 :: lst 8 :: dropS 9 (bodyOf levDef) := rfl
  rw [e]
  generalize dropS 9 (bodyOf levDef) = rest at *
  conv in lst 7 => whnf
  conv in lst 8 => whnf
  by_cases hk : p = 0
  · subst hk
    k_steps
    trace_state
    exact hQ _ _ _ _ (by k_asm) (by k_asm)
  · have hk' : (p != 0) = true := by simpa using hk
    k_steps
    simp only [cut_neg hk] at hQ
    exact hQ _ _ _ _ (by k_asm) (by k_asm)
end Mine
end
-- part V9
section
namespace Mine
set_option maxRecDepth 100000
set_option maxHeartbeats 8000000
/-- what is told of two texts with no sign at their ends alike -/
def fin2 (a b : Str) : Int := if a.length = 0 ∨ b.length = 0 then 2 * ((a.length : Int) + b.length) else 2 * (max a.length b.length : Nat)
theorem l9 (w : World) (mean : ExcName → Option Value) (mg mb : Str → Option Value) (dp un : Nat) (gd : Option (List Code)) (cdv : Value) (outer : List Env) (A₀ : Around) (base h₀ : Heap) (L : Addr) (m : Str → Option Value) (s : Shared) (Q : Flow → Shared → Prop) (news : List (Addr × Obj)) (B : Below A₀ base outer h₀) (X : (hd.heap_39 w.params).In h₀) (T : Top hd.view_39 (looseW hd.view_39 [Str.ofString "Whitespace"]) mean mg mb h₀) (hdp : dp + 2 < recursionLimit) (hun : un + 20 < cLine) (a b : Str) (c : Int) (ta tb tc : Tok) (ha : a.length ≤ 8) (hb : b.length ≤ 8) (hab : a.length = 0 ∨ b.length = 0 ∨ (a.length ≤ 4 ∧ b.length ≤ 4)) (hc : 11 ≤ c)
   (hs1 : ∀ k j : Int, 0 ≤ k → k < b.length → 0 ≤ j → j < a.length → subst (Txt.item b k) (Txt.item a j) = 2)
   (hs2 : ∀ k j : Int, 0 ≤ k → k < a.length → 0 ≤ j → j < b.length → subst (Txt.item a k) (Txt.item b j) = 2) (N : News h₀ L s.heap news) (F : Fr h₀ L s.heap (fun y => if y = Str.ofString "b" then some (.str b tb) else if y = Str.ofString "a" then some (.str a ta) else if y = Str.ofString "max_cost" then some (.int c tc) else m y))
   (hQ : ∀ h' tk' m' t, Fr h₀ L h' m' → News h₀ L h' news → Q (.ret (.int (fin2 a b) t)) { s with heap := h', toks := tk' }) :
   wpAny (model PySem.Challenge.rw_pu0052_01.row.prog w) (ktrTop dp un gd (Str.ofString "_levenshtein_distance") levScope L 143 cdv [] outer) (execs (dropS 9 (bodyOf levDef)) (envOf (Str.ofString "_levenshtein_distance") levScope L 143 cdv)) Q (fun _ _ => False) s := by
  revert X; k_fill; intro X
  have tl : ∀ (a b : Str) (ta tb : Tok) (m : Str → Option Value) (h' : Heap) (tk' : Nat), 1 ≤ a.length → a.length ≤ b.length → b.length ≤ 4 → (∀ k j : Int, 0 ≤ k → k < b.length → 0 ≤ j → j < a.length → subst (Txt.item b k) (Txt.item a j) = 2) → News h₀ L h' news → Fr h₀ L h' (fun y => if y = Str.ofString "a" then some (.str a ta) else if y = Str.ofString "b" then some (.str b tb) else if y = Str.ofString "max_cost" then some (.int c tc) else m y) →
      (∀ h9 tk9 m' t2, Fr h₀ L h9 m' → News h₀ L h9 news → Q (.ret (.int (2 * (b.length : Int)) t2)) { s with heap := h9, toks := tk9 }) →
      wpAny (model PySem.Challenge.rw_pu0052_01.row.prog w) (ktrTop dp un gd (Str.ofString "_levenshtein_distance") levScope L 143 cdv [] outer) (execs (dropS 13 (bodyOf levDef)) (envOf (Str.ofString "_levenshtein_distance") levScope L 143 cdv)) Q (fun _ _ => False) { s with heap := h', toks := tk' } := by
    intro a b ta tb m h' tk' h1 h2 h3 h4 N' F' k
    exact ltail w mean mg mb dp un gd cdv outer A₀ base h₀ L m _ Q news B X T hdp hun a b c ta tb tc h1 h2 h3 hc h4 N' F' (fun h9 tk9 m' t2 f n => k h9 tk9 m' t2 f n)
  have e : dropS 9 (bodyOf levDef) = lst 9 :: lst 10 :: lst 11 :: lst 12 :: dropS 13 (bodyOf levDef) := rfl
  rw [e]
  clear e
  generalize dropS 13 (bodyOf levDef) = rest at *
  replace tl := Hold.mk tl
  conv in lst 9 => whnf
  conv in lst 10 => whnf
  conv in lst 11 => whnf
  conv in lst 12 => whnf
  replace hs1 := Hold.mk hs1
  replace hs2 := Hold.mk hs2
  k_steps
  · rename Fr _ _ _ _ => F9
    rename News _ _ _ _ => N9
    refine tl.out b a _ _ _ _ _ (by omega) (by omega) (by omega) hs2.out (fun p hp => N9 p (List.mem_cons_of_mem _ hp)) (fr_names F9 [(Str.ofString "a", .str b _), (Str.ofString "b", .str a _), (Str.ofString "max_cost", .int c tc)] (List.forall_mem_cons.mpr ⟨rfl, List.forall_mem_cons.mpr ⟨rfl, List.forall_mem_cons.mpr ⟨rfl, fun _ h => nomatch h⟩⟩⟩)) ?_
    intro h9 tk9 m9 t9 f n
    have e : fin2 a b = 2 * (a.length : Int) := by
      unfold fin2
      rw [if_neg (by omega)]
      omega
    rw [← e]
    exact hQ _ _ _ _ f n
  · rename Fr _ _ _ _ => F9
    refine tl.out a b _ _ _ _ _ (by omega) (by omega) (by omega) hs1.out (by k_asm) (fr_names F9 [(Str.ofString "a", .str a _), (Str.ofString "b", .str b _), (Str.ofString "max_cost", .int c tc)] (List.forall_mem_cons.mpr ⟨rfl, List.forall_mem_cons.mpr ⟨rfl, List.forall_mem_cons.mpr ⟨rfl, fun _ h => nomatch h⟩⟩⟩)) ?_
    intro h9 tk9 m9 t9 f n
    have e : fin2 a b = 2 * (b.length : Int) := by
      unfold fin2
      rw [if_neg (by omega)]
      omega
    rw [← e]
    exact hQ _ _ _ _ f n
  all_goals
    have e : fin2 a b = 2 * ((a.length : Int) + b.length) := by
      unfold fin2
      rw [if_pos (by omega)]
    rw [← e]
    exact hQ _ _ _ _ (by k_asm) (by k_asm)
end Mine
end
-- part T8
section
namespace Mine
set_option maxRecDepth 100000
def firstN (f : Nat → Bool) : Nat → Nat → Nat
  | 0, i => i
  | n + 1, i => if f i then firstN f n (i + 1) else i
theorem firstN_is (f : Nat → Bool) : ∀ (n i k : Nat), i ≤ k → k ≤ i + n → (∀ j, i ≤ j → j < k → f j = true) → f k = false → firstN f n i = k
  | 0, i, k, h1, h2, _, _ => by unfold firstN; omega
  | n + 1, i, k, h1, h2, h3, h4 => by
    unfold firstN
    by_cases e : i = k
    · subst e; rw [h4]; rfl
    · rw [h3 i (Nat.le_refl _) (by omega)]
      exact firstN_is f n (i + 1) k (by omega) (by omega) (fun j a b => h3 j (by omega) b) h4
def allSubst (a b : Str) : Bool := (List.range b.length).all fun k => (List.range a.length).all fun j => decide (subst (Txt.item b (k : Nat)) (Txt.item a (j : Nat)) = 2)
def levGood (t1 b1 t2 b2 : Nat) : Bool :=
  let a := lead t1 b1
  let b := lead t2 b2
  let k := firstN (fun i => go1 a b (i : Nat)) 8 0
  let a1 := Txt.slice a (some (k : Nat)) none
  let b1' := Txt.slice b (some (k : Nat)) none
  let p := firstN (fun i => go2 a1 b1' (-(i : Nat))) 8 0
  let a2 := cutTo a1 (-(p : Nat))
  let b2' := cutTo b1' (-(p : Nat))
  decide (a2.length ≤ 8) && decide (b2'.length ≤ 8) && (decide (a2.length = 0) || decide (b2'.length = 0) || (decide (a2.length ≤ 4) && decide (b2'.length ≤ 4))) && allSubst a2 b2' && allSubst b2' a2 && decide (fin2 a2 b2' = far ((t1 : Int) - t2) ((b1 : Int) - b2))
theorem lev_good : ∀ t1 b1 t2 b2 : Fin 4, levGood t1 b1 t2 b2 = true := by decide +kernel
end Mine
end
-- part VL
section
namespace Mine
set_option maxRecDepth 100000
set_option maxHeartbeats 8000000

theorem lead_len (t b : Nat) (h1 : t < 4) (h2 : b < 4) : (lead t b).length ≤ 8 := by
  have : ∀ t b : _root_.Fin 4, (lead (t : Nat) (b : Nat)).length ≤ 8 := by decide +kernel
  exact this ⟨t, h1⟩ ⟨b, h2⟩
theorem allSubst_is {a b : Str} (h : allSubst a b = true) : ∀ k j : Int, 0 ≤ k → k < b.length → 0 ≤ j → j < a.length → subst (Txt.item b k) (Txt.item a j) = 2 := by
  intro k j h1 h2 h3 h4
  have := List.all_eq_true.mp h k.toNat (List.mem_range.mpr (by omega))
  have := of_decide_eq_true (List.all_eq_true.mp this j.toNat (List.mem_range.mpr (by omega)))
  rwa [Int.toNat_of_nonneg h1, Int.toNat_of_nonneg h3] at this
/-- what the two loops leave of two leads -/
theorem lev_plain (t1 b1 t2 b2 : Nat) (h1 : t1 < 4) (h2 : b1 < 4) (h3 : t2 < 4) (h4 : b2 < 4) (k p : Int) (hk0 : 0 ≤ k) (hk8 : k ≤ 8) (hk : ∀ j, 0 ≤ j → j < k → go1 (lead t1 b1) (lead t2 b2) j = true) (hk' : go1 (lead t1 b1) (lead t2 b2) k = false)
    (hp0 : p ≤ 0) (hp8 : -p ≤ 8) (hp : ∀ j, j ≤ 0 → p < j → go2 (Txt.slice (lead t1 b1) (some k) none) (Txt.slice (lead t2 b2) (some k) none) j = true) (hp' : go2 (Txt.slice (lead t1 b1) (some k) none) (Txt.slice (lead t2 b2) (some k) none) p = false) :
    let a := cutTo (Txt.slice (lead t1 b1) (some k) none) p
    let b := cutTo (Txt.slice (lead t2 b2) (some k) none) p
    a.length ≤ 8 ∧ b.length ≤ 8 ∧ (a.length = 0 ∨ b.length = 0 ∨ (a.length ≤ 4 ∧ b.length ≤ 4)) ∧ allSubst a b = true ∧ allSubst b a = true ∧ fin2 a b = far ((t1 : Int) - t2) ((b1 : Int) - b2) := by
  have hg := lev_good ⟨t1, h1⟩ ⟨b1, h2⟩ ⟨t2, h3⟩ ⟨b2, h4⟩
  have e1 : firstN (fun i => go1 (lead t1 b1) (lead t2 b2) (i : Nat)) 8 0 = k.toNat := by
    refine firstN_is _ 8 0 k.toNat (by omega) (by omega) (fun j _ hj => hk _ (by omega) (by omega)) ?_
    show go1 _ _ ((k.toNat : Nat) : Int) = false
    rw [Int.toNat_of_nonneg hk0]; exact hk'
  have e2 : firstN (fun i => go2 (Txt.slice (lead t1 b1) (some k) none) (Txt.slice (lead t2 b2) (some k) none) (-(i : Nat))) 8 0 = (-p).toNat := by
    refine firstN_is _ 8 0 (-p).toNat (by omega) (by omega) (fun j _ hj => hp _ (by omega) (by omega)) ?_
    show go2 _ _ (-(((-p).toNat : Nat) : Int)) = false
    rw [Int.toNat_of_nonneg (by omega), Int.neg_neg]; exact hp'
  unfold levGood at hg
  dsimp only at hg
  rw [e1, Int.toNat_of_nonneg hk0, e2, Int.toNat_of_nonneg (by omega), Int.neg_neg] at hg
  simp only [Bool.and_eq_true, Bool.or_eq_true, decide_eq_true_eq] at hg
  dsimp only
  obtain ⟨⟨⟨⟨⟨g1, g2⟩, g3⟩, g4⟩, g5⟩, g6⟩ := hg
  exact ⟨g1, g2, g3.elim (fun x => x.elim .inl (fun y => .inr (.inl y))) (fun x => .inr (.inr x)), g4, g5, g6⟩
theorem lbody (w : World) (mean : ExcName → Option Value) (mg mb : Str → Option Value) (dp un : Nat) (gd : Option (List Code)) (cdv : Value) (outer : List Env) (A₀ : Around) (base h₀ : Heap) (L : Addr) (m : Str → Option Value) (s : Shared) (Q : Flow → Shared → Prop) (news : List (Addr × Obj)) (B : Below A₀ base outer h₀) (X : (hd.heap_39 w.params).In h₀) (T : Top hd.view_39 (looseW hd.view_39 [Str.ofString "Whitespace"]) mean mg mb h₀) (hdp : dp + 2 < recursionLimit) (hun : un + 20 < cLine) (t1 b1 t2 b2 : Nat) (c : Int) (ta tb tc : Tok) (h1 : t1 < 4) (h2 : b1 < 4) (h3 : t2 < 4) (h4 : b2 < 4) (hc : 11 ≤ c) (N : News h₀ L s.heap news) (F : Fr h₀ L s.heap (fun y => if y = Str.ofString "a" then some (.str (lead t1 b1) ta) else if y = Str.ofString "b" then some (.str (lead t2 b2) tb) else if y = Str.ofString "max_cost" then some (.int c tc) else m y))
   (hQ : ∀ h' tk' m' t, Fr h₀ L h' m' → News h₀ L h' news → Q (.ret (.int (far ((t1 : Int) - t2) ((b1 : Int) - b2)) t)) { s with heap := h', toks := tk' }) :
   wpAny (model PySem.Challenge.rw_pu0052_01.row.prog w) (ktrTop dp un gd (Str.ofString "_levenshtein_distance") levScope L 143 cdv [] outer) (execs (bodyOf levDef) (envOf (Str.ofString "_levenshtein_distance") levScope L 143 cdv)) Q (fun _ _ => False) s := by
  revert X; k_fill; intro X
  have hStop0 := stop "exec While BoolOp cons nil"
  have hla := lead_len t1 b1 h1 h2
  have hlb := lead_len t2 b2 h3 h4
  have hsame : lead t1 b1 = lead t2 b2 → far ((t1 : Int) - t2) ((b1 : Int) - b2) = 0 := by
    have : ∀ t1 b1 t2 b2 : _root_.Fin 4, lead (t1 : Nat) (b1 : Nat) = lead (t2 : Nat) (b2 : Nat) → far (((t1 : Nat) : Int) - (t2 : Nat)) (((b1 : Nat) : Int) - (b2 : Nat)) = 0 := by decide +kernel
    exact this ⟨t1, h1⟩ ⟨b1, h2⟩ ⟨t2, h3⟩ ⟨b2, h4⟩
  have hpl := Hold.mk (lev_plain t1 b1 t2 b2 h1 h2 h3 h4)
  generalize far ((t1 : Int) - t2) ((b1 : Int) - b2) = v at *
  generalize lead t1 b1 = a at *
  generalize lead t2 b2 = b at *
  replace hsame := Hold.mk hsame
  have e : bodyOf levDef = lst 0 :: lst 1 :: lst 2 :: lst 3 :: lst 4 :: lst 5 :: lst 6 :: dropS 7 (bodyOf levDef) := rfl
  rw [e]
  clear e
  have tl := Hold.mk (l78 w mean mg mb dp un gd cdv outer A₀ base h₀ L)
  have tl9 := Hold.mk (l9 w mean mg mb dp un gd cdv outer A₀ base h₀ L)
  have w2 := Hold.mk (l2 w mean mg mb dp un gd cdv outer A₀ base h₀ L)
  have w6 := Hold.mk (l6 w mean mg mb dp un gd cdv outer A₀ base h₀ L)
  generalize dropS 7 (bodyOf levDef) = rest at *
  conv in lst 0 => whnf
  conv in lst 1 => whnf
  generalize hr1 : lst 3 :: lst 4 :: lst 5 :: lst 6 :: rest = rest1
  conv in lst 2 => whnf
  k_steps
  · have e : a = b := by first | assumption | (exact eq_of_beq (by assumption))
    have e2 := hsame.out e
    subst e2
    exact hQ _ _ _ _ (by k_asm) (by k_asm)
  · refine Hold.mk (w2.out _ _ _ news B X T hdp hun (by k_asm) a b ta tb tc _ c hla hlb (by k_asm) ?_)
    intro h' tk' k t hk0 hk1 hk2 hk3 F1 N1
    replace hk2 := Hold.mk hk2
    replace hk3 := Hold.mk hk3
    subst hr1
    dsimp only
    conv in lst 3 => whnf
    conv in lst 4 => whnf
    conv in lst 5 => whnf
    conv in lst 6 => whnf
    k_steps
    rename Fr _ _ _ _ => F9
    have F8 := fr_names F9 [(Str.ofString "post", .int 0 _), (Str.ofString "a", .str (Txt.slice a (some k) none) _), (Str.ofString "b", .str (Txt.slice b (some k) none) _), (Str.ofString "max_cost", .int c tc)] (List.forall_mem_cons.mpr ⟨rfl, List.forall_mem_cons.mpr ⟨rfl, List.forall_mem_cons.mpr ⟨rfl, List.forall_mem_cons.mpr ⟨rfl, fun _ h => nomatch h⟩⟩⟩⟩)
    have l1 := PyProof.Txt.length_slice_le a (some k) none
    have l2 := PyProof.Txt.length_slice_le b (some k) none
    refine Hold.mk (w6.out _ _ _ news B X T hdp hun (by k_asm) (Txt.slice a (some k) none) (Txt.slice b (some k) none) _ _ tc _ c (by omega) (by omega) F8 ?_)
    clear F8 F9
    intro h' tk' p t hp0 hp1 hp2 hp3 F1 N1
    dsimp only
    refine tl.out _ _ _ news B X T hdp hun _ _ c p _ _ tc _ hp0 (by omega) (by omega) N1 F1 ?_
    intro h' tk' t1 t2 F1 N1
    obtain ⟨g1, g2, g3, g4, g5, g6⟩ := hpl.out k p hk0 (by omega) hk2.out hk3.out hp0 (by omega) hp2 hp3
    refine tl9.out _ _ _ news B X T hdp hun _ _ c _ _ tc g1 g2 g3 hc (allSubst_is g4) (allSubst_is g5) N1 (fr_names F1 [(Str.ofString "b", .str _ _), (Str.ofString "a", .str _ _), (Str.ofString "max_cost", .int c tc)] (List.forall_mem_cons.mpr ⟨rfl, List.forall_mem_cons.mpr ⟨rfl, List.forall_mem_cons.mpr ⟨rfl, fun _ h => nomatch h⟩⟩⟩)) ?_
    intro h' tk' m' t F1 N1
    rw [g6]
    exact hQ _ _ _ _ F1 N1
end Mine
end
-- part VLC
section
namespace Mine
set_option maxRecDepth 100000
set_option maxHeartbeats 8000000
theorem lev_ok (w : World) (t1 b1 t2 b2 : Nat) (c : Int) (ta tb tc : Tok) (h1 : t1 < 4) (h2 : b1 < 4) (h3 : t2 < 4) (h4 : b2 < 4) (hc : 11 ≤ c) :
   Con 3 23 w 143 [.str (lead t1 b1) ta, .str (lead t2 b2) tb, .int c tc] (fun tk => .int (far ((t1 : Int) - t2) ((b1 : Int) - b2)) tk) := by
  unfold Con PP KK LL
  k_fill
  intro mean mg mb news dp un gd cn cs a ccd cl outer A₀ base h₀ L m s Q E B F X N T hk hdp hun hret
  refine wpAny_call ?_
  k_dflt cell_enter
  rename_i g' L' h' FG' F' N' B' X' T'
  have F9 := fr_names F' [(Str.ofString "a", .str (lead t1 b1) ta), (Str.ofString "b", .str (lead t2 b2) tb), (Str.ofString "max_cost", .int c tc)] (List.forall_mem_cons.mpr ⟨rfl, List.forall_mem_cons.mpr ⟨rfl, List.forall_mem_cons.mpr ⟨rfl, fun _ h => nomatch h⟩⟩⟩)
  refine wpAny_mono (lbody w mean mg mb (dp + 1) (un + 3) gd _ _ _ base g' L' _ _ (fun fl s' => ∃ t h9 tk9 m9, fl = .ret (.int (far ((t1 : Int) - t2) ((b1 : Int) - b2)) t) ∧ s' = { s with heap := h9, toks := tk9 } ∧ Fr g' L' h9 m9 ∧ News g' L' h9 news) news B' X' T' (by omega) (by omega) t1 b1 t2 b2 c ta tb tc h1 h2 h3 h4 hc N' F9 (fun h9 tk9 m9 t f n => ⟨t, h9, tk9, m9, rfl, rfl, f, n⟩)) ?_ (fun _ _ h => h.elim)
  rintro fl s' ⟨t, h9, tk9, m9, rfl, rfl, f, n⟩
  exact leaveK_ f n (fun kF kN => hret _ _ _ kF kN)
end Mine
end
-- part C0
section
namespace Mine
set_option maxRecDepth 100000
set_option maxHeartbeats 8000000
local macro_rules | `(tactic| walk_at "exec Assign cons ListComp") => `(tactic| refine wpAny_Assign_Name ?_)
local macro_rules | `(tactic| walk_at "call ref") => `(tactic| (k_here; k_dflt (refine' lev_ok _ _ _ _ _ _ _ _ _ ?p1 ?p2 ?p3 ?p4 ?p5 _ _ _ _ _ _ _ _ _ _ _ _ _ _ _ _ _ _ _ _ _ ?k1 ?k2 ?k3 ?k4 ?k5 ?k6 ?k7 ?k8 ?_; (case p1 => assumption); (case p2 => assumption); (case p3 => assumption); (case p4 => assumption); (case p5 => assumption); (case k1 => k_asm); (case k2 => k_asm); (case k3 => k_asm); (case k4 => k_asm); (case k5 => k_asm); (case k6 => rfl); (case k7 => decide); (case k8 => decide)); intro t9 h9 tk9 F9 N9; (try dsimp only)))
local macro_rules | `(tactic| walk_at "call ref") => `(tactic| (k_here; k_dflt (refine' lead_ok _ _ _ _ _ ?p1 ?p2 ?p3 ?p4 _ _ _ _ _ _ _ _ _ _ _ _ _ _ _ _ _ _ _ _ _ ?k1 ?k2 ?k3 ?k4 ?k5 ?k6 ?k7 ?k8 ?_; (case p1 => omega); (case p2 => omega); (case p3 => omega); (case p4 => omega); (case k1 => k_asm); (case k2 => k_asm); (case k3 => k_asm); (case k4 => k_asm); (case k5 => k_asm); (case k6 => rfl); (case k7 => decide); (case k8 => decide)); intro t9 h9 tk9 F9 N9; (try dsimp only)))
theorem c0 (w : World) (mean : ExcName → Option Value) (mg mb : Str → Option Value) (fa : Addr) (cd : Value) (h₀ : Heap) (L : Nat) (m : Str → Option Value) (s : Shared) (Q : Flow → Shared → Prop) (B : Below callerA h₀ [] h₀) (X : (hd.heap_39 w.params).In h₀) (T : Top hd.view_39 (looseW hd.view_39 [Str.ofString "Whitespace"]) mean mg mb h₀)
   (o4 o7 o8 : Obj) (v8 : Option Value) (t b : Nat) (bd : Int) (t4 t7 : Tok) (d4 : o4.data = .cell (some (.int bd t4))) (d7 : o7.data = .cell (some (.str (lead t b) t7))) (d8 : o8.data = .cell v8) (ht4 : t < 4) (hb4 : b < 4) (hbd : 11 ≤ bd) (sA : Nat) (its : Array Value) (sn : Nat) (hsz : its.size = 3) (Ts Bs : Nat → Nat) (rest : List (Addr × Obj))
   (hsp : ∀ i v, its[i]? = some v → ∃ a tT tB, v = .ref a ∧ (a, ({ cls := .type "tuple", data := .seq #[.int (Ts i : Nat) tT, .int (Bs i : Nat) tB] 0 } : Obj)) ∈ rest ∧ Ts i < 4 ∧ Bs i < 4) (ho : OwnOff ((sA, listOf its sn) :: rest) [L + 8]) (N : News h₀ L s.heap ((L + 4, o4) :: (L + 7, o7) :: (L + 8, o8) :: (sA, listOf its sn) :: rest)) (F : Fr h₀ L s.heap (fun y => if y = Str.ofString "spots" then some (.ref sA) else m y)) (hQ : ∀ h' tk' (D : Addr) (ys : List Value) o8', ys.length = 3 → (∀ (i : Nat) y, ys[i]? = some y → ∃ u, y = .int (far ((Ts i : Int) - t) ((Bs i : Int) - b)) u) → o8'.data = .cell (some (.ref D)) → Fr h₀ L h' (fun y => if y = Str.ofString "spots" then some (.ref sA) else m y) → News h₀ L h' ((D, LCg.lst ys) :: (L + 4, o4) :: (L + 7, o7) :: (L + 8, o8') :: (sA, listOf its sn) :: rest) → Q .next { s with heap := h', toks := tk' }) :
   wpAny (model PySem.Challenge.rw_pu0052_01.row.prog w) (callerA.deeper (envOfC (Str.ofString "law") lawScope L fa cd)) (exec (nthS 0 (ifBody (lbst 3))) (envOfC (Str.ofString "law") lawScope L fa cd)) Q (fun _ _ => False) s := by
  revert X; k_fill; intro X
  have hStop0 := stop "eval ListComp"
  have hStop1 := stop "CompSrc"
  conv in (nthS 0 (ifBody (lbst 3))) => whnf
  k_steps
  refine Hold.mk (LCg.ListComp_U (F₀ := by k_asm) (by with_unfolding_all rfl) (by decide) (by rfl) (by decide) (by rfl) ?_)
  k_steps
  refine Hold.mk (LCg.CompSrc.ledger (k := sn) (its := its) (by rfl) (by k_asm) (by k_asm) (by k_mem) (by rw [hsz, PySem.sizeLine_eq]; decide) ?_)
  intro g
  rw [hsz]
  refine comp_pure (fun i y => ∃ u, y = .int (far ((Ts i : Int) - t) ((Bs i : Int) - b)) u) (.inr ⟨_, (by k_mem : (sA, listOf its sn) ∈ _), rfl, sn, rfl⟩) ?_ ?_
  · intro i v I oI C oC D m₂ ys h tk E' hi hv hC hx F2 N2
    obtain ⟨a, tT, tB, rfl, hm, hT, hB⟩ := hsp i v hv
    have N3 : News h₀ L h ((a, { cls := .type "tuple", data := .seq #[.int (Ts i : Nat) tT, .int (Bs i : Nat) tB] 0 }) :: (I, oI) :: (C, oC) :: (D, LCg.lst ys) :: (L + 4, o4) :: (L + 7, o7) :: (L + 8, o8) :: (sA, listOf its sn) :: rest) := fun p hp => (List.mem_cons.mp hp).elim (fun e => e ▸ N2 _ (by repeat (first | exact hm | refine List.mem_cons_of_mem _ ?_))) (N2 p)
    replace N2 := Hold.mk N2
    replace hsp := Hold.mk hsp
    have q1 : (Ts i : Int) < 4 := by omega
    have q2 : (Bs i : Int) < 4 := by omega
    k_steps
    rename News _ _ _ _ => N9
    exact ⟨_, _, rfl, by k_asm, fun p hp => N9 p (List.mem_cons_of_mem _ hp), _, rfl⟩
  · intro ys hl hys D h tk F2 N2 hoff
    simp only [LCg.Off1] at hoff
    replace hsp := Hold.mk hsp
    replace hys := Hold.mk hys
    k_steps
    exact hQ _ _ _ _ _ hl hys.out (by assumption) (by k_asm) (by k_asm)

end Mine
end
-- part DC
section
open PySem.Calls
namespace Mine
set_option maxRecDepth 100000
set_option maxHeartbeats 4000000
open LCg
section
variable {prog : Program} {w : World} {A : Around} {E : Value → Shared → Prop} {h₀ : Heap} {L : Addr} {m : Str → Option Value} {env : Env}
/-- a turn of a dict comprehension: key and value are reckoned, nothing else is kept -/
def DTurn (prog : Program) (w : World) (A : Around) (h₀ : Heap) (L : Addr) (m : Str → Option Value) (env : Env) (kx vx : PySem.Expr) (x : Str) (scope : Scope) (cl : List (Str × Addr)) (s₂ : Shared) (P : Nat → Value → Prop) (n : Nat) (news : List (Addr × Obj)) (Rl : Nat → List (Str × Value) → Prop) : Prop :=
  ∀ i v kvs I oI C oC D oD m₂ h tk (E' : Value → Shared → Prop), i < n → P i v → Rl i kvs → NsObj oC m₂ → m₂ x = some v → Fr h₀ L h m → News h₀ L h ((I, oI) :: (C, oC) :: (D, oD) :: news) →
    wpAny (model prog w) A (eval kx (compEnvC scope cl C env)) (fun kv s₃ => wpAny (model prog w) A (eval vx (compEnvC scope cl C env)) (fun vv s₄ => Hold (∃ h' tk' k t, s₄ = { s₂ with heap := h', toks := tk' } ∧ kv = .str k t ∧ Fr h₀ L h' m ∧ News h₀ L h' ((I, oI) :: (C, oC) :: (D, oD) :: news) ∧ Rl (i + 1) (stored kvs k vv))) E' s₃) E' { s₂ with heap := h, toks := tk }

theorem block_D {kx vx iter : PySem.Expr} {x : Str} {px : Pos} {scope : Scope} {cl : List (Str × Addr)} {pos : Pos} {s₂ : Shared} {I : Addr} {fp : List Addr} {n : Nat} {P : Nat → Value → Prop} {St : Nat → Heap → Prop} {news : List (Addr × Obj)}
    {RR : Value → Addr → Result → Shared → Prop} (Rl : Nat → List (Str × Value) → Prop)
    (W : Walks prog w A I fp [I] n P St) (hsz : n ≤ sizeLine) (hIo : ∀ i h, St i h → ∃ o, h.get? I = some o)
    (hSt : ∀ i h h' o nw, St i h → h.get? I = some o → h'.get? I = some o → (∀ b o, h₀.get? b = some o → h'.get? b = some o) → News h₀ L h' nw → (∀ p ∈ news, p ∈ nw) → St i h')
    (hcell : ∀ y ∈ scope.names, y.2 ≠ .cell) (hkind : scope.kind = .function) (hx : scope.names.lookup x = some .local) (hst : St 0 s₂.heap) (hfp : ∀ b ∈ fp, b < s₂.heap.objs.size)
    (F : Fr h₀ L s₂.heap m) (N : News h₀ L s₂.heap news) (hIL : L ≠ I) (hI₀ : h₀.get? I = none) (off : ∀ p ∈ news, p.1 ≠ I)
    (h0 : Rl 0 []) (hlen : ∀ i kvs, Rl i kvs → kvs.length ≤ i) (turn : DTurn prog w A h₀ L m env kx vx x scope cl s₂ P n news Rl)
    (hRR : ∀ D C h tk m' kvs oD, Fr h₀ L h m → News h₀ L h ((D, oD) :: news) → oD.IsDictOf (strKind prog w) kvs → (∀ p ∈ news, p.1 < D) → h.Ns C m' → h₀.get? C = none → h₀.get? D = none → C ≠ L → D ≠ L → C ≠ D → (∀ p ∈ news, p.1 ≠ C) → Rl n kvs → RR (.ref D) C (.ok .next) { s₂ with heap := h, toks := tk }) :
    wpAny (model prog w) A newDict (fun acc s₃ => wpAny (model prog w) A (newFunctionEnv scope env.globals cl [] env.qual none .none (some env)) (fun cenv s₄ =>
      codeAny (model prog w) A (.compStart (.DictComp kx vx [⟨.Name x px, iter, [], 0⟩] scope pos) 0 (.ref I) acc { cenv with scope := relabel scope env }) (RR acc cenv.locals) s₄) E s₃) E s₂ := by
  refine wpAny_newObj_type (wpAny_newFunctionEnv hcell (by intro y hy; simp at hy) (fun h₁ hns₁ hsb₁ => ?_) hkind)
  dsimp only at hns₁ hsb₁ ⊢
  have hnew : (s₂.heap.push { cls := .type "dict", dict := none, data := .dict #[] }).DictOf (strKind prog w) s₂.heap.objs.size [] := Heap.DictOf.new s₂.heap
  generalize hH2 : s₂.heap.push { cls := .type "dict", dict := none, data := .dict #[] } = H2 at hns₁ hsb₁ hnew ⊢
  have hC : H2.objs.size = s₂.heap.objs.size + 1 := by rw [← hH2, Heap.size_push]
  have hDC : s₂.heap.objs.size ≠ H2.objs.size := by rw [hC]; exact Nat.ne_of_lt (Nat.lt_succ_self _)
  have below : ∀ b, b < s₂.heap.objs.size → b ≠ H2.objs.size ∧ b ≠ s₂.heap.objs.size := fun b hb => ⟨by rw [hC]; exact Nat.ne_of_lt (Nat.lt_succ_of_lt hb), Nat.ne_of_lt hb⟩
  have hDf : s₂.heap.objs.size ∉ fp := fun hm => Nat.lt_irrefl _ (hfp _ hm)
  have hCf : H2.objs.size ∉ fp := fun hm => by have := hfp _ hm; rw [hC] at this; exact Nat.lt_irrefl _ (Nat.lt_of_succ_lt this)
  have hIf : I ∈ fp := W.sub I (List.mem_singleton.mpr rfl)
  have hIlt : I < s₂.heap.objs.size := hfp I hIf
  have old : ∀ b o, s₂.heap.get? b = some o → h₁.get? b = some o := fun b o e => hsb₁.extBut b o (below b (Heap.lt_size e)).1 (Heap.get?_push_of_some _ (hH2 ▸ Heap.get?_push_of_some _ e))
  have hacc : h₁.DictOf (strKind prog w) s₂.heap.objs.size [] := hnew.at fun o e => hsb₁.extBut _ _ hDC (Heap.get?_push_of_some _ e)
  have hst₁ : St 0 h₁ := W.frame _ _ _ hst fun b _ o e => old b o e
  have fresh : ∀ a, s₂.heap.objs.size ≤ a → s₂.heap.get? a = none := fun a ha => by
    cases e : s₂.heap.get? a with
    | none => rfl
    | some o' => exact absurd (Heap.lt_size e) (Nat.not_lt.mpr ha)
  have fresh₀ : ∀ a, s₂.heap.objs.size ≤ a → h₀.get? a = none := fun a ha => by
    cases e : h₀.get? a with
    | none => rfl
    | some o' => have := F.keep a o' e; rw [fresh a ha] at this; cases this
  have hD₀ : h₀.get? s₂.heap.objs.size = none := fresh₀ _ (Nat.le_refl _)
  have hC₀ : h₀.get? H2.objs.size = none := fresh₀ _ (by rw [hC]; exact Nat.le_succ _)
  have hLlt : L < s₂.heap.objs.size := F.ns.lt
  have hDL : s₂.heap.objs.size ≠ L := Ne.symm (below L hLlt).2
  have hCL : H2.objs.size ≠ L := Ne.symm (below L hLlt).1
  have hCI : I ≠ H2.objs.size := (below I hIlt).1
  have hDI : I ≠ s₂.heap.objs.size := (below I hIlt).2
  have offI : ∀ p ∈ news, p.1 ≠ I := off
  have offC : ∀ p ∈ news, p.1 ≠ H2.objs.size := fun p hp => (below _ (Heap.lt_size (N p hp).1)).1
  have offD : ∀ p ∈ news, p.1 ≠ s₂.heap.objs.size := fun p hp => (below _ (Heap.lt_size (N p hp).1)).2
  have ltD : ∀ p ∈ news, p.1 < s₂.heap.objs.size := fun p hp => Heap.lt_size (N p hp).1
  have loop : ∀ s₃ : Shared, s₃ = { s₂ with heap := h₁, toks := s₂.toks + ([] : List (Str × Value)).length } →
      codeAny (model prog w) A (.compLoop (.DictComp kx vx [⟨.Name x px, iter, [], 0⟩] scope pos) 0 (.ref I) (.ref s₂.heap.objs.size) (compEnvC scope cl H2.objs.size env))
        (RR (.ref s₂.heap.objs.size) H2.objs.size) s₃ := by
    rintro s₃ rfl
    refine codeAny_compLoop_testsD
      (fun k s' => ∃ h' tk i kvs m', s' = { s₂ with heap := h', toks := tk } ∧ i ≤ n ∧ k = n + 1 - i ∧ Rl i kvs ∧ St i h' ∧ Fr h₀ L h' m ∧ h'.Ns H2.objs.size m' ∧ h'.DictOf (strKind prog w) s₂.heap.objs.size kvs ∧ News h₀ L h' news) ?_ (n + 1)
      ⟨h₁, _, 0, [], _, rfl, Nat.zero_le _, rfl, h0, hst₁, F.keeps old, hns₁, hacc, fun p hp => ⟨old _ _ (N p hp).1, (N p hp).2⟩⟩
    rintro k s' ⟨h', tk, i, kvs, m', rfl, hi, rfl, hR, hst', F', hn', hd', N'⟩
    by_cases hlt : i < n
    · refine W.item i _ _ _ hlt hst' fun v h₂ tk₂ hPv hst₂ hk₂ => ?_
      refine wpAny_assign_Name (wpAny_storeName_local (lookup_relabel_local hx) (hn'.at' fun o e => hk₂ _ o (by simpa using Ne.symm hCI) e) (fun h₃ hn₃ hs₃ => ?_) (by simp [compEnvC, relabel, hkind]))
      refine wpAny_tests_nil ?_
      simp only [if_true]
      have hst₃ : St (i + 1) h₃ := W.frame _ _ _ hst₂ fun b hb o e => hs₃.extBut b o (fun q => hCf (by have q' : b = H2.objs.size := q; rw [← q']; exact hb)) e
      obtain ⟨oI, heI⟩ := hIo _ _ hst₃
      obtain ⟨oC, heC, hoC⟩ := ns_obj hn₃
      have hd₃ : h₃.DictOf (strKind prog w) s₂.heap.objs.size kvs := hd'.at fun o e => hs₃.extBut _ _ hDC (hk₂ _ o (by simpa using Ne.symm hDI) e)
      obtain ⟨oD, heD, hoD⟩ := Heap.dictOf_iff.mp hd₃
      have F₃ : Fr h₀ L h₃ m := (fr_but F' hk₂ hIL hI₀).change hs₃ hCL hC₀
      have N₂ : News h₀ L h₂ news := news_but N' hk₂ offI
      have N₃ : News h₀ L h₃ ((I, oI) :: (H2.objs.size, oC) :: (s₂.heap.objs.size, oD) :: news) := fun p hp => by
        rcases List.mem_cons.mp hp with rfl | hp
        · exact ⟨heI, Ne.symm hIL, hI₀⟩
        · rcases List.mem_cons.mp hp with rfl | hp
          · exact ⟨heC, hCL, hC₀⟩
          · rcases List.mem_cons.mp hp with rfl | hp
            · exact ⟨heD, hDL, hD₀⟩
            · exact ⟨hs₃.extBut _ _ (offC p hp) (N₂ p hp).1, (N₂ p hp).2⟩
      refine wpAny_mono (turn i v kvs I oI H2.objs.size oC s₂.heap.objs.size oD _ h₃ _ _ hlt hPv hR hoC (by simp) F₃ N₃) (fun kv s₄ h₄ => ?_) fun _ _ e => e
      refine wpAny_mono h₄ (fun vv s₅ h₅ => ?_) fun _ _ e => e
      obtain ⟨h₅, tk₅, kk, tt, rfl, rfl, F₅, N₅, hR₅⟩ := h₅
      have zI := (N₅ (I, oI) List.mem_cons_self).1
      have zC := (N₅ (H2.objs.size, oC) (List.mem_cons_of_mem _ List.mem_cons_self)).1
      have zD := (N₅ (s₂.heap.objs.size, oD) (List.mem_cons_of_mem _ (List.mem_cons_of_mem _ List.mem_cons_self))).1
      have N₅' : News h₀ L h₅ news := fun p hp => N₅ p (List.mem_cons_of_mem _ (List.mem_cons_of_mem _ (List.mem_cons_of_mem _ hp)))
      have hst₅ : St (i + 1) h₅ := hSt _ _ _ _ _ hst₃ heI zI F₅.keep N₅' fun _ h => h
      have hkl := hlen i kvs hR
      refine wpAny_dictSet_pairs (knd := strKind prog w) (hsz := by omega) (strKind_is prog w kk tt) (Heap.dictOf_iff.mpr ⟨oD, zD, hoD⟩) fun h₆ hd₆ hs₆ => ?_
      refine ⟨n + 1 - (i + 1), by omega, h₆, _, i + 1, _, _, rfl, hlt, rfl, hR₅, W.frame _ _ _ hst₅ fun b hb o e => hs₆.extBut b o (fun q => hDf (q ▸ hb)) e, F₅.change hs₆ hDL hD₀, (hoC.ns zC).sameBut hs₆ (Ne.symm hDC), hd₆, fun p hp => ?_⟩
      exact ⟨hs₆.extBut _ _ (offD p hp) (N₅' p hp).1, (N₅' p hp).2⟩
    · obtain rfl : i = n := Nat.le_antisymm hi (Nat.not_lt.mp hlt)
      refine W.done _ _ _ hst' fun h₂ tk₂ hk₂ => ?_
      have hd₂ : h₂.DictOf (strKind prog w) s₂.heap.objs.size kvs := hd'.at fun o e => hk₂ _ o (by simpa using Ne.symm hDI) e
      obtain ⟨oD, heD, hoD⟩ := Heap.dictOf_iff.mp hd₂
      have N₂ : News h₀ L h₂ news := news_but N' hk₂ offI
      exact hRR _ _ h₂ tk₂ _ kvs oD (fr_but F' hk₂ hIL hI₀) (fun p hp => (List.mem_cons.mp hp).elim (fun e => e ▸ ⟨heD, hDL, hD₀⟩) (N₂ p)) hoD ltD (hn'.at' fun o e => hk₂ _ o (by simpa using Ne.symm hCI) e) hC₀ hD₀ hCL hDL (Ne.symm hDC) offC hR
  exact codeAny_compStart_dict (loop _ rfl) (W.self 0 _ _ _ hst₁ (loop _ rfl))

/-- what stands behind a dict comprehension -/
def DFin (prog : Program) (w : World) (h₀ : Heap) (L : Addr) (m : Str → Option Value) (s₂ : Shared) (n : Nat) (news : List (Addr × Obj)) (Rl : Nat → List (Str × Value) → Prop) (Q : Value → Shared → Prop) : Prop :=
  ∀ D h tk kvs oD, Fr h₀ L h m → News h₀ L h ((D, oD) :: news) → oD.IsDictOf (strKind prog w) kvs → (∀ p ∈ news, p.1 < D) → Rl n kvs → Q (.ref D) { s₂ with heap := h, toks := tk }
theorem DictComp_R {s : Shared} {kx vx iter : PySem.Expr} {x : Str} {px : Pos} {scope : Scope} {cl : List (Str × Addr)} {pos : Pos} {Q : Value → Shared → Prop} {news : List (Addr × Obj)} (n : Nat) (a b : Int) (Rl : Nat → List (Str × Value) → Prop)
    (hclos : closureFor scope env = pure cl) (hcell : ∀ y ∈ scope.names, y.2 ≠ .cell) (hkind : scope.kind = .function)
    (hnames : ∀ y ∈ scope.names, y.2 = .local → scope.names.lookup y.1 = some .local) (hx : scope.names.lookup x = some .local)
    (hh : A.handled = none) (hsm : Builtin.Range.small a b 1 = true) (hn : Builtin.Range.rangeSize a b 1 = ((n : Nat) : Int)) (hsz : n ≤ sizeLine) (h0 : Rl 0 []) (hlen : ∀ i kvs, Rl i kvs → kvs.length ≤ i)
    (h : wpAny (model prog w) A (eval iter env) (fun xv s₁ => Hold (∃ r t u v h tk, xv = .ref r ∧ s₁ = { s with heap := h, toks := tk } ∧ IsRange h r a b 1 t u v ∧ Fr h₀ L h m ∧ News h₀ L h news)) E s)
    (turn : ∀ tk, DTurn prog w A h₀ L m env kx vx x scope cl { s with toks := tk } (fun i v => ∃ t, v = .int (a + (i : Int)) t) n news Rl)
    (fin : ∀ tk, DFin prog w h₀ L m { s with toks := tk } n news Rl Q)
    (hs : ∀ x, foldedSetIterable iter env x = pure x := by intro _; rfl) :
    wpAny (model prog w) A (eval (.DictComp kx vx [⟨.Name x px, iter, [], 0⟩] scope pos) env) Q E s := by
  rw [arm_eval_DictComp]
  refine wpAny_comprehension_free (use := none) rfl hs hclos hkind hnames (wpAny_mono h (fun xv s₁ h₁ => ?_) fun _ _ e => e)
  obtain ⟨r, t, u, v, hp, tk, rfl, rfl, hr, F, N⟩ := h₁
  refine wpAny_pyIter_range hr hsm ?_
  refine block_D (RR := fun acc C => compPost (model prog w) A E none Q acc C) Rl (range_walks hh a n) hsz (fun i h st => ⟨_, st⟩) (fun i h h' o nw st e e' _ _ _ => range_st (h₀ := h₀) (L := L) i h h' o nw st e e' (by assumption) (by assumption) trivial) hcell hkind hx (by show IsRangeIter _ _ _ _ _; rw [hn]; simpa using Heap.get?_push_size _ rfl) (fun b hb => ?_)
    (F.keeps fun _ _ e => Heap.get?_push_of_some _ e) (N.grown fun _ _ e => Heap.get?_push_of_some _ e) (Nat.ne_of_lt F.ns.lt) (next_is_new F) (fun p hp => Nat.ne_of_lt (Heap.lt_size (N p hp).1)) h0 hlen (turn tk) ?_
  · rw [List.mem_singleton.mp hb]
    show hp.objs.size < (hp.push _).objs.size
    rw [Heap.size_push]; exact Nat.lt_succ_self _
  · intro D C h tk' m' kvs oD F' N' hoD ltD hnC hC₀ hD₀ hCL hDL hCD offC hR
    refine ⟨m', hnC, fun h'' hs'' => fin tk D h'' tk' kvs oD (F'.change hs'' hCL hC₀) (fun p hp => ?_) hoD ltD hR⟩
    refine ⟨hs''.extBut _ _ ?_ (N' p hp).1, (N' p hp).2⟩
    rcases List.mem_cons.mp hp with rfl | hp
    · exact Ne.symm hCD
    · exact offC p hp
theorem DictComp_L {s : Shared} {kx vx iter : PySem.Expr} {x : Str} {px : Pos} {scope : Scope} {cl : List (Str × Addr)} {pos : Pos} {Q : Value → Shared → Prop} {news : List (Addr × Obj)} (n : Nat) (ax : Addr) (its : Array Value) (k : Nat) (Rl : Nat → List (Str × Value) → Prop)
    (hclos : closureFor scope env = pure cl) (hcell : ∀ y ∈ scope.names, y.2 ≠ .cell) (hkind : scope.kind = .function)
    (hnames : ∀ y ∈ scope.names, y.2 = .local → scope.names.lookup y.1 = some .local) (hx : scope.names.lookup x = some .local)
    (hh : A.handled = none) (hm : (ax, ({ cls := .type "list", data := .seq its k } : Obj)) ∈ news) (hn : its.size = n) (hsz : n ≤ sizeLine) (h0 : Rl 0 []) (hlen : ∀ i kvs, Rl i kvs → kvs.length ≤ i)
    (h : wpAny (model prog w) A (eval iter env) (fun xv s₁ => Hold (∃ h tk, xv = .ref ax ∧ s₁ = { s with heap := h, toks := tk } ∧ Fr h₀ L h m ∧ News h₀ L h news)) E s)
    (turn : ∀ tk, DTurn prog w A h₀ L m env kx vx x scope cl { s with toks := tk } (fun i v => its[i]? = some v) n news Rl)
    (fin : ∀ tk, DFin prog w h₀ L m { s with toks := tk } n news Rl Q)
    (hs : ∀ x, foldedSetIterable iter env x = pure x := by intro _; rfl) :
    wpAny (model prog w) A (eval (.DictComp kx vx [⟨.Name x px, iter, [], 0⟩] scope pos) env) Q E s := by
  subst hn
  rw [arm_eval_DictComp]
  refine wpAny_comprehension_free (use := none) rfl hs hclos hkind hnames (wpAny_mono h (fun xv s₁ h₁ => ?_) fun _ _ e => e)
  obtain ⟨hp, tk, rfl, rfl, F, N⟩ := h₁
  have hl : hp.IsList ax its := ⟨_, (N _ hm).1, rfl, k, rfl⟩
  have hlt : ax < hp.objs.size := Heap.lt_size (N _ hm).1
  refine wpAny_pyIter_list hl ?_
  refine block_D (RR := fun acc C => compPost (model prog w) A E none Q acc C) Rl (Walks.list hh hp.objs.size ax (Nat.ne_of_lt hlt) its) hsz (fun i h st => by obtain ⟨o, e, _⟩ := st.1; exact ⟨o, e⟩) ?_ hcell hkind hx ⟨⟨_, Heap.get?_push_size _ rfl, rfl, rfl⟩, hl.push _⟩ (fun b hb => ?_)
    (F.keeps fun _ _ e => Heap.get?_push_of_some _ e) (N.grown fun _ _ e => Heap.get?_push_of_some _ e) (Nat.ne_of_lt F.ns.lt) (next_is_new F) (fun p hp => Nat.ne_of_lt (Heap.lt_size (N p hp).1)) h0 hlen (turn tk) ?_
  · intro i h h' o nw st e e' hk hN hsub
    refine ⟨by obtain ⟨o', q, r⟩ := st.1; rw [e] at q; cases q; exact ⟨o, e', r⟩, ⟨_, (hN _ (hsub _ hm)).1, rfl, k, rfl⟩⟩
  · show b < (hp.push _).objs.size
    rw [Heap.size_push]
    rcases List.mem_cons.mp hb with rfl | hb
    · exact Nat.lt_succ_self _
    · rw [List.mem_singleton.mp hb]; exact Nat.lt_succ_of_lt hlt
  · intro D C h tk' m' kvs oD F' N' hoD ltD hnC hC₀ hD₀ hCL hDL hCD offC hR
    refine ⟨m', hnC, fun h'' hs'' => fin tk D h'' tk' kvs oD (F'.change hs'' hCL hC₀) (fun p hp => ?_) hoD ltD hR⟩
    refine ⟨hs''.extBut _ _ ?_ (N' p hp).1, (N' p hp).2⟩
    rcases List.mem_cons.mp hp with rfl | hp
    · exact Ne.symm hCD
    · exact offC p hp
end
end Mine
end
-- part IV
section
open PySem.Calls
namespace Mine
set_option maxRecDepth 100000
set_option maxHeartbeats 4000000
section
variable {prog : Program} {w : World} {A : Around} {E : Value → Shared → Prop} {s : Shared} {env : Env} {h₀ : Heap} {x : Str} {body : List Stmt} {Q : Flow → Shared → Prop}
/-- a loop over a dict's values, the dict in the ledger -/
theorem iter_valuesJ {r d : Addr} {o : Obj} {kvs : List (Str × Value)} {m₀ : Str → Option Value} {news : List (Addr × Obj)} (J : Nat → (Str → Option Value) → List (Addr × Obj) → Prop)
    (hh : A.handled = none) (hv : s.heap.IsValuesView r d) (hd : (d, o) ∈ news) (ho : o.IsDictOf (strKind prog w) kvs) (F : Fr h₀ env.locals s.heap m₀) (N : News h₀ env.locals s.heap news) (hj : J 0 m₀ news)
    (turn : ∀ i v k m₁ nx h tk own, kvs[i]? = some (k, v) → OwnOff own (nx.map (·.1)) → (d, o) ∈ nx → J i m₁ nx → Fr h₀ env.locals h (fun y => if y = x then some v else m₁ y) → News h₀ env.locals h (nx ++ own) →
      wpAny (model prog w) A (execs body env) (InvPostG h₀ env.locals (fun m' nx => (d, o) ∈ nx ∧ J (i + 1) m' nx) own { s with heap := h, toks := tk } Q) E { s with heap := h, toks := tk })
    (done : ∀ m₁ nx h tk, J kvs.length m₁ nx → Fr h₀ env.locals h m₁ → News h₀ env.locals h nx → Q .next { s with heap := h, toks := tk }) :
    wpAny (model prog w) A (pyIter (.ref r)) (fun it s₂ => LoopAtV prog w A h₀ env x body Q E it s₂) E s := by
  have hol : s.heap.get? d = some o := (N _ hd).1
  obtain ⟨ep, hat⟩ := Heap.DictOf.dictAt (knd := strKind prog w) (Heap.dictOf_iff.mpr ⟨o, hol, ho⟩)
  have hne : d ≠ s.heap.objs.size := Nat.ne_of_lt (Heap.lt_size hol)
  refine wpAny_pyIter_values hv hat ?_
  have W := Walks.dictValues (prog := prog) (w := w) (knd := strKind prog w) hh s.heap.objs.size d hne kvs ep
  refine ⟨_, _, _, kvs.length, _, _, m₀, news, (fun i m nx => (d, o) ∈ nx ∧ J i m nx), rfl, W, ?_, ?_, ?_, ⟨⟨_, Heap.get?_push_size _ rfl, rfl, rfl⟩, hat.push _⟩, F.push _, (fun p hp => ⟨Heap.get?_push_of_some _ (N p hp).1, (N p hp).2⟩), ⟨hd, hj⟩, ?_, ?_⟩
  · intro hm
    rcases List.mem_cons.mp hm with e | hm
    · exact absurd F.ns.lt (e ▸ Nat.lt_irrefl _)
    · exact (N _ hd).2.1 ((List.mem_singleton.mp hm).symm)
  · intro b hb
    rw [List.mem_singleton.mp hb]
    exact next_is_new F
  · intro p hp hI
    exact absurd (Heap.lt_size (N p hp).1) ((List.mem_singleton.mp hI) ▸ Nat.lt_irrefl _)
  · rintro i v m₁ news₁ s₁ own ⟨hh', tk', rfl⟩ hin ⟨k, hP⟩ ⟨hl₁, hJ⟩ hoff hown hget hfp hst F₁ N₁
    have hI0 : h₀.get? s.heap.objs.size = none := next_is_new F
    obtain ⟨⟨oI, hoI, _⟩, _⟩ := id hst
    have hIown : (s.heap.objs.size, oI) ∈ own.filter fun p => decide (p.1 = s.heap.objs.size) := List.mem_filter.mpr ⟨hfp _ (List.mem_cons.mpr (.inl rfl)) hI0 _ hoI, by simp⟩
    have hsep : OwnOff (own.filter fun p => decide (p.1 = s.heap.objs.size)) (news₁.map (·.1)) := by
      intro p hp b hb e
      obtain ⟨q, hq, rfl⟩ := List.mem_map.mp hb
      have h1 : p.1 = s.heap.objs.size := by simpa using (List.mem_filter.mp hp).2
      exact hoff q hq (List.mem_singleton.mpr (e ▸ h1))
    have N₂ : News h₀ env.locals hh' (news₁ ++ own.filter fun p => decide (p.1 = s.heap.objs.size)) := fun p hp => N₁ p ((List.mem_append.mp hp).elim (fun h => List.mem_append.mpr (.inr h)) fun h => List.mem_append.mpr (.inl ((List.mem_filter.mp h).1)))
    have hlo : hh'.get? d = some o := (N₁ _ (List.mem_append.mpr (.inr hl₁))).1
    refine wpAny_mono (turn i v k m₁ news₁ hh' tk' _ hP hsep hl₁ hJ F₁ N₂) (fun f s₂ p => ?_) fun _ _ e => e
    have fin : InvEndG h₀ env.locals (fun m' nx => (d, o) ∈ nx ∧ J (i + 1) m' nx) (own.filter fun p => decide (p.1 = s.heap.objs.size)) { s with heap := hh', toks := tk' } s₂ →
        LoopStepU h₀ env.locals [s.heap.objs.size] own (fun m nx => (d, o) ∈ nx ∧ J (i + 1) m nx) { s with heap := hh', toks := tk' } .next s₂ := by
      rintro ⟨h', tk, m', news', nx, e, F', N', hn, ho', ha, hm⟩
      refine ⟨rfl, h', tk, m', nx, e, F', fun p hp => ?_, fun p hp hq => ?_, hm⟩
      · rcases List.mem_append.mp hp with h | h
        · by_cases hI : p.1 = s.heap.objs.size
          · exact N' p (ho' p (List.mem_filter.mpr ⟨h, by simpa using hI⟩))
          · have h1 : p.1 = d := by
              rcases List.mem_cons.mp (hown p h) with h2 | h2
              · exact absurd h2 hI
              · exact List.mem_singleton.mp h2
            have h2 : hh'.get? p.1 = some p.2 := hget p h
            rw [h1, hlo] at h2
            have h3 : p = (d, o) := Prod.ext h1 (Option.some.inj h2).symm
            rw [h3]
            exact N' _ (hn _ hm.1)
        · exact N' p (hn p h)
      · exact ha _ hIown p.1 (List.mem_map.mpr ⟨p, hp, rfl⟩) (List.mem_singleton.mp hq).symm
    cases f with
    | ret v => exact .ret p
    | brk => exact .brk p
    | next => exact .next (fin p)
    | cont => exact .cont (fin p)
  · rintro h' tk m' news' F' N' _ ⟨_, hJ⟩
    exact done m' news' h' tk hJ F' N'
end
end Mine
end
-- part CC
section
namespace Mine
set_option maxRecDepth 100000
set_option maxHeartbeats 8000000
/-- the ints under a dict's keys -/
def IntVals (kvs : List (Str × Value)) (ns : List Int) : Prop := kvs.length = ns.length ∧ ∀ i k v, kvs[i]? = some (k, v) → ∃ u, v = Value.int (ns.getD i 0) u
theorem count_ok (w : World) (D : Nat) (o : Obj) (kvs : List (Str × Value)) (ns : List Int) (hlo : (D == sysModules) = false) (hdd : o.IsDictOf (strKind PySem.Challenge.rw_pu0052_01.row.prog w) kvs) (hv : IntVals kvs ns) (ds : List (PyData × PyData)) (hf : PyProof.V.FlatPairs PyData.str kvs ds)
    (mean : ExcName → Option Value) (mg mb : Str → Option Value) (news : List (Addr × Obj)) (dp un : Nat) (gd : Option (List Code)) (cn : Str) (cs : Scope) (fa : Addr) (ccd : Value) (cl : List (Str × Addr)) (outer : List Env) (A₀ : Around) (base h₀ : Heap) (L : Addr) (m : Str → Option Value) (s : Shared) (Q E : Value → Shared → Prop)
    (B : Below A₀ base outer h₀) (F : Fr h₀ L s.heap m) (X : (hd.heap_39 w.params).In h₀) (N : News h₀ L s.heap ((D, o) :: news)) (T : Top hd.view_39 (looseW hd.view_39 [Str.ofString "Whitespace"]) mean mg mb h₀) (hk : cs.kind = .function)
    (hdp : dp + 5 < recursionLimit) (hun : un + 30 < cLine)
    (hret : ∀ (t : Tok) (h' : Heap) (tk' : Nat), Fr h₀ L h' m → News h₀ L h' ((D, o) :: news) → Q (.int ns.sum t) { s with heap := h', toks := tk' }) :
    wpAny (model PySem.Challenge.rw_pu0052_01.row.prog w) (ktrTop dp un gd cn cs L fa ccd cl outer) (call (.ref 63) [.ref D]) Q E s := by
  revert X; k_fill; intro X
  have hStop0 := stop "exec For Name Call cons nil"
  refine wpAny_call ?_
  k_dflt cell_enter
  rename_i g' L' h' FG' F' N' B' X' T'
  obtain ⟨mm, F9⟩ : ∃ mm : Str → Option Value, Fr g' L' h' (fun y => if y = Str.ofString "callers" then some (.ref D) else mm y) := ⟨_, fr_names F' [(Str.ofString "callers", .ref D)] (List.forall_mem_cons.mpr ⟨rfl, fun _ h => nomatch h⟩)⟩
  clear F'
  replace hret := Hold.mk hret
  k_steps
  rename Fr _ _ _ _ => F8
  rename News _ _ _ _ => N8
  refine Hold.mk (For_invV g' (by rfl) (by rfl) (wpAny_mono (Q := fun v s₁ => Hold (∃ r h tk m8 t8, v = .ref r ∧ s₁ = { s with heap := h, toks := tk } ∧ h.IsValuesView r D ∧ m8 (Str.ofString "nc") = some (.int 0 t8) ∧ Fr g' L' h m8 ∧ News g' L' h ((D, o) :: news))) (E := fun _ _ => False) ?_ ?_ (fun _ _ h => h.elim)))
  · k_steps
    rename News _ _ _ _ => N7
    exact ⟨_, _, _, _, _, rfl, rfl, ⟨_, (N7 _ List.mem_cons_self).1, rfl, rfl⟩, rfl, by k_asm, fun p hp => N7 p (List.mem_cons_of_mem _ hp)⟩
  · rintro v s₁ ⟨r, h, tk, m8, t8, rfl, rfl, hview, e8, F1, N1⟩
    clear F8 N8
    refine iter_valuesJ (o := o) (kvs := kvs) (fun i m₁ nx => nx = (D, o) :: news ∧ ∃ t, m₁ (Str.ofString "nc") = some (.int (ns.take i).sum t)) rfl hview List.mem_cons_self hdd F1 N1 ⟨rfl, t8, by simpa using e8⟩ ?_ ?_
    · rintro i v k m₁ nx h tk own hkv hoff hmem ⟨rfl, t, e⟩ F2 N2
      obtain ⟨u, rfl⟩ := hv.2 i k v hkv
      have F3 := fr_names F2 [(Str.ofString "calls", .int (ns.getD i 0) u), (Str.ofString "nc", .int (ns.take i).sum t)] (List.forall_mem_cons.mpr ⟨rfl, List.forall_mem_cons.mpr ⟨e, fun _ h => nomatch h⟩⟩)
      dsimp only [kstB] at F3
      replace F2 := Hold.mk F2
      have hi : i < ns.length := by rw [← hv.1]; exact (List.getElem?_eq_some_iff.mp hkv).1
      have es : (ns.take i).sum + ns.getD i 0 = (ns.take (i + 1)).sum := by
        rw [List.take_add_one, List.sum_append, List.getD_eq_getElem?_getD, List.getElem?_eq_getElem hi]
        simp
      k_steps
      rename News _ _ _ _ => N9
      refine InvEndG.intro (by k_asm) N9 (nx := (D, o) :: news) ⟨List.mem_cons_self, rfl, by rw [← es]; exact ⟨_, rfl⟩⟩ hoff sub_cons sub_own
    · rintro m₁ nx h tk ⟨rfl, t, e⟩ F2 N2
      rw [hv.1, List.take_length] at e
      have F3 := fr_names F2 [(Str.ofString "nc", .int ns.sum t)] (List.forall_mem_cons.mpr ⟨e, fun _ h => nomatch h⟩)
      dsimp only [kstB] at F3
      replace F2 := Hold.mk F2
      dsimp only
      k_steps
      exact hret.out _ _ _ (by k_asm) (by k_asm)
end Mine
end
-- part C1
section
namespace Mine
set_option maxRecDepth 100000
set_option maxHeartbeats 8000000
theorem c1 (w : World) (mean : ExcName → Option Value) (mg mb : Str → Option Value) (fa : Addr) (cd : Value) (h₀ : Heap) (L : Nat) (m : Str → Option Value) (s : Shared) (Q : Flow → Shared → Prop) (B : Below callerA h₀ [] h₀) (X : (hd.heap_39 w.params).In h₀) (T : Top hd.view_39 (looseW hd.view_39 [Str.ofString "Whitespace"]) mean mg mb h₀)
   (o2 o8 oc : Obj) (cA D : Nat) (w0 w1 w2 d0 d1 d2 : Int) (t0 t1 t2 u0 u1 u2 : Tok) (e2 : o2.data = .cell (some (.ref cA))) (e8 : o8.data = .cell (some (.ref D))) (hw0 : 0 ≤ w0) (hw0' : w0 ≤ 3) (hw1 : 0 ≤ w1) (hw1' : w1 ≤ 3) (hw2 : 0 ≤ w2) (hw2' : w2 ≤ 3) (hd0 : 0 ≤ d0) (hd0' : d0 ≤ 12) (hd1 : 0 ≤ d1) (hd1' : d1 ≤ 12) (hd2 : 0 ≤ d2) (hd2' : d2 ≤ 12)
   (hcl : (cA == sysModules) = false) (hc : oc.IsDictOf (strKind PySem.Challenge.rw_pu0052_01.row.prog w) [(Str.ofString "f", Value.int w0 t0), (Str.ofString "g", .int w1 t1), (Str.ofString "h", .int w2 t2)]) (hcf : PyProof.V.FlatPairs PyData.str [(Str.ofString "f", Value.int w0 t0), (Str.ofString "g", .int w1 t1), (Str.ofString "h", .int w2 t2)] [(PyData.str (Str.ofString "f"), PyData.int w0), (PyData.str (Str.ofString "g"), PyData.int w1), (PyData.str (Str.ofString "h"), PyData.int w2)])
   (rest : List (Addr × Obj)) (N : News h₀ L s.heap ((L + 2, o2) :: (L + 8, o8) :: (cA, oc) :: (D, LCg.lst [.int d0 u0, .int d1 u1, .int d2 u2]) :: rest)) (F : Fr h₀ L s.heap (fun y => m y)) (hQ : ∀ h' tk' t9, Fr h₀ L h' (fun y => if y = Str.ofString "told" then some (.int (w0 * d0 + w1 * d1 + w2 * d2) t9) else m y) → News h₀ L h' ((L + 2, o2) :: (L + 8, o8) :: (cA, oc) :: (D, LCg.lst [.int d0 u0, .int d1 u1, .int d2 u2]) :: rest) → Q .next { s with heap := h', toks := tk' }) :
   wpAny (model PySem.Challenge.rw_pu0052_01.row.prog w) (callerA.deeper (envOfC (Str.ofString "law") lawScope L fa cd)) (exec (nthS 1 (ifBody (lbst 3))) (envOfC (Str.ofString "law") lawScope L fa cd)) Q (fun _ _ => False) s := by
  revert X; k_fill; intro X
  have hStop0 := stop "eval DictComp"
  have hStop1 := stop "call ref"
  conv in (nthS 1 (ifBody (lbst 3))) => whnf
  k_steps
  refine Hold.mk (DictComp_R (h₀ := h₀) (L := L) (m := m) (news := ((L + 2, o2) :: (L + 8, o8) :: (cA, oc) :: (D, LCg.lst [.int d0 u0, .int d1 u1, .int d2 u2]) :: rest)) 3 0 3 (fun i kvs => ∃ a0 a1 a2, kvs = List.take i [(Str.ofString "f", Value.int (w0 * d0) a0), (Str.ofString "g", .int (w1 * d1) a1), (Str.ofString "h", .int (w2 * d2) a2)]) (by with_unfolding_all rfl) (by decide) (by rfl) (by decide) (by rfl) rfl (by decide) (by rfl) (by rw [PySem.sizeLine_eq]; decide) ⟨0, 0, 0, rfl⟩ ?_ ?_ ?_ ?_)
  · rintro i kvs ⟨a0, a1, a2, rfl⟩
    rw [List.length_take]
    omega
  · k_steps
    exact ⟨_, _, _, _, _, _, rfl, rfl, by assumption, by k_asm, by k_asm⟩
  · intro tk i v kvs I oI C oC D8 oD m₂ h tk8 E' hi hP hR hC hx F2 N2
    obtain ⟨tv, rfl⟩ := hP
    obtain ⟨a0, a1, a2, rfl⟩ := hR
    rcases (by omega : i = 0 ∨ i = 1 ∨ i = 2) with rfl | rfl | rfl
    · k_steps
      exact ⟨_, _, _, _, rfl, rfl, by k_asm, by k_asm, _, a1, a2, rfl⟩
    · k_steps
      exact ⟨_, _, _, _, rfl, rfl, by k_asm, by k_asm, a0, _, a2, rfl⟩
    · k_steps
      exact ⟨_, _, _, _, rfl, rfl, by k_asm, by k_asm, a0, a1, _, rfl⟩
  · intro tk D8 h tk8 kvs oD F2 N2 hoD hlt hR
    obtain ⟨a0, a1, a2, rfl⟩ := hR
    dsimp only [List.take] at hoD
    k_steps
    rename News _ _ _ _ => N9
    refine' Hold.mk (count_ok w D8 oD _ [w0 * d0, w1 * d1, w2 * d2] ?q1 hoD ?q2 _ (.cons (.int _ _) (.cons (.int _ _) (.cons (.int _ _) .nil))) _ _ _ _ _ _ _ _ _ _ _ _ _ _ _ _ _ _ _ _ _ ?k1 ?k2 ?k3 ?k4 ?k5 ?k6 ?k7 ?k8 ?_)
    (case k1 => k_asm)
    (case k2 => k_asm)
    (case k3 => k_asm)
    (case k4 => k_asm)
    (case k5 => k_asm)
    (case k6 => rfl)
    (case k7 => decide)
    (case k8 => decide)
    (case q1 =>
      have := hlt _ List.mem_cons_self
      exact beq_eq_false_iff_ne.mpr (Nat.ne_of_gt (Nat.lt_of_le_of_lt (show 1 ≤ L + 2 by omega) this)))
    (case q2 =>
      refine ⟨rfl, ?_⟩
      intro i k v hv
      match i, hv with
      | 0, hv => cases hv; exact ⟨_, rfl⟩
      | 1, hv => cases hv; exact ⟨_, rfl⟩
      | 2, hv => cases hv; exact ⟨_, rfl⟩
      | n + 3, hv => simp at hv)
    have es : [w0 * d0, w1 * d1, w2 * d2].sum = w0 * d0 + w1 * d1 + w2 * d2 := by
      simp only [List.sum_cons, List.sum_nil, Int.add_zero, Int.add_assoc]
    rw [es]
    intro t9 h9 tk9 F9 N9
    k_steps
    rename News _ _ _ _ => N7
    exact hQ _ _ _ (by k_asm) (fun p hp => N7 p (List.mem_cons_of_mem _ hp))

end Mine
end
-- part C2
section
namespace Mine
set_option maxRecDepth 100000
set_option maxHeartbeats 8000000
/-- a tuple of three ints -/
abbrev tup3 (a b c : Int) (ta tb tc : Tok) : Obj := { cls := .type "tuple", data := .seq #[.int a ta, .int b tb, .int c tc] 0 }
theorem c2 (w : World) (mean : ExcName → Option Value) (mg mb : Str → Option Value) (fa : Addr) (cd : Value) (h₀ : Heap) (L : Nat) (m : Str → Option Value) (s : Shared) (Q : Flow → Shared → Prop) (B : Below callerA h₀ [] h₀) (X : (hd.heap_39 w.params).In h₀) (T : Top hd.view_39 (looseW hd.view_39 [Str.ofString "Whitespace"]) mean mg mb h₀)
   (o5 o6 : Obj) (t b : Nat) (t5 t6 t9 : Tok) (v : Int) (d5 : o5.data = .cell (some (.int (t : Nat) t5))) (d6 : o6.data = .cell (some (.int (b : Nat) t6))) (ht4 : t < 4) (hb4 : b < 4) (rA : Nat) (rv : List Value) (rn : Nat) (hrn : rv.length ≤ 64) (n5 : L + 5 ≠ rA) (n6 : L + 6 ≠ rA) (rest : List (Addr × Obj)) (ho : OwnOff rest [rA]) (N : News h₀ L s.heap ((L + 5, o5) :: (L + 6, o6) :: (rA, listOf rv.toArray rn) :: rest)) (F : Fr h₀ L s.heap (fun y => if y = Str.ofString "told" then some (.int v t9) else if y = Str.ofString "rows" then some (.ref rA) else m y)) (hQ : ∀ h' tk' (D : Nat) u1 u2 u3, L + 6 < D → rA < D → (∀ p ∈ rest, p.1 < D) → Fr h₀ L h' (fun y => if y = Str.ofString "told" then some (.int v t9) else if y = Str.ofString "rows" then some (.ref rA) else m y) → News h₀ L h' ((D, tup3 v ((t : Int) + b) ((t : Int)) u1 u2 u3) :: (L + 5, o5) :: (L + 6, o6) :: (rA, listOf (rv ++ [Value.ref D]).toArray (rn + 1)) :: rest) → Q .next { s with heap := h', toks := tk' }) :
   wpAny (model PySem.Challenge.rw_pu0052_01.row.prog w) (callerA.deeper (envOfC (Str.ofString "law") lawScope L fa cd)) (exec (nthS 2 (ifBody (lbst 3))) (envOfC (Str.ofString "law") lawScope L fa cd)) Q (fun _ _ => False) s := by
  revert X; k_fill; intro X
  conv in (nthS 2 (ifBody (lbst 3))) => whnf
  k_steps
  rename _ ∧ _ => l9
  rename News _ _ _ _ => N9
  rw [List.push_toArray] at N9
  exact hQ _ _ _ _ _ _ l9.2.1 l9.2.2.1 (allLt_mem l9.2.2.2) (by k_asm) N9

theorem c5 (w : World) (mean : ExcName → Option Value) (mg mb : Str → Option Value) (fa : Addr) (cd : Value) (h₀ : Heap) (L : Nat) (m : Str → Option Value) (s : Shared) (Q : Flow → Shared → Prop) (B : Below callerA h₀ [] h₀) (X : (hd.heap_39 w.params).In h₀) (T : Top hd.view_39 (looseW hd.view_39 [Str.ofString "Whitespace"]) mean mg mb h₀)
   (o5 o6 : Obj) (t b : Nat) (t5 t6 t9 : Tok) (v : Int) (d5 : o5.data = .cell (some (.int (t : Nat) t5))) (d6 : o6.data = .cell (some (.int (b : Nat) t6))) (ht4 : t < 4) (hb4 : b < 4) (rA : Nat) (rv : List Value) (rn : Nat) (hrn : rv.length ≤ 64) (n5 : L + 5 ≠ rA) (n6 : L + 6 ≠ rA) (rest : List (Addr × Obj)) (ho : OwnOff rest [rA]) (N : News h₀ L s.heap ((L + 5, o5) :: (L + 6, o6) :: (rA, listOf rv.toArray rn) :: rest)) (F : Fr h₀ L s.heap (fun y => if y = Str.ofString "whole" then some (.int v t9) else if y = Str.ofString "due" then some (.ref rA) else m y)) (hQ : ∀ h' tk' (D : Nat) u1 u2 u3, L + 6 < D → rA < D → (∀ p ∈ rest, p.1 < D) → Fr h₀ L h' (fun y => if y = Str.ofString "whole" then some (.int v t9) else if y = Str.ofString "due" then some (.ref rA) else m y) → News h₀ L h' ((D, tup3 v ((t : Int) + b) (-(t : Int)) u1 u2 u3) :: (L + 5, o5) :: (L + 6, o6) :: (rA, listOf (rv ++ [Value.ref D]).toArray (rn + 1)) :: rest) → Q .next { s with heap := h', toks := tk' }) :
   wpAny (model PySem.Challenge.rw_pu0052_01.row.prog w) (callerA.deeper (envOfC (Str.ofString "law") lawScope L fa cd)) (exec (nthS 5 (ifBody (lbst 3))) (envOfC (Str.ofString "law") lawScope L fa cd)) Q (fun _ _ => False) s := by
  revert X; k_fill; intro X
  conv in (nthS 5 (ifBody (lbst 3))) => whnf
  k_steps
  rename _ ∧ _ => l9
  rename News _ _ _ _ => N9
  rw [List.push_toArray] at N9
  exact hQ _ _ _ _ _ _ l9.2.1 l9.2.2.1 (allLt_mem l9.2.2.2) (by k_asm) N9

end Mine
end
-- part C3
section
namespace Mine
set_option maxRecDepth 100000
set_option maxHeartbeats 8000000
local macro_rules | `(tactic| walk_at "call ref") => `(tactic| (k_here; k_dflt (refine' far_ok _ _ _ _ _ _ _ _ _ _ _ _ _ _ _ _ _ _ _ _ _ _ _ _ _ _ ?k1 ?k2 ?k3 ?k4 ?k5 ?k6 ?k7 ?k8 ?_;  (case k1 => k_asm); (case k2 => k_asm); (case k3 => k_asm); (case k4 => k_asm); (case k5 => k_asm); (case k6 => rfl); (case k7 => decide); (case k8 => decide)); intro t9 h9 tk9 F9 N9; (try dsimp only)))
theorem c3 (w : World) (mean : ExcName → Option Value) (mg mb : Str → Option Value) (fa : Addr) (cd : Value) (h₀ : Heap) (L : Nat) (m : Str → Option Value) (s : Shared) (Q : Flow → Shared → Prop) (B : Below callerA h₀ [] h₀) (X : (hd.heap_39 w.params).In h₀) (T : Top hd.view_39 (looseW hd.view_39 [Str.ofString "Whitespace"]) mean mg mb h₀)
   (o5 o6 : Obj) (t b : Nat) (t5 t6 : Tok) (d5 : o5.data = .cell (some (.int (t : Nat) t5))) (d6 : o6.data = .cell (some (.int (b : Nat) t6))) (ht4 : t < 4) (hb4 : b < 4) (sA : Nat) (its : Array Value) (sn : Nat) (hsz : its.size = 3) (Ts Bs : Nat → Nat) (rest : List (Addr × Obj))
   (hsp : ∀ i v, its[i]? = some v → ∃ a tT tB, v = .ref a ∧ (a, ({ cls := .type "tuple", data := .seq #[.int (Ts i : Nat) tT, .int (Bs i : Nat) tB] 0 } : Obj)) ∈ rest ∧ Ts i < 4 ∧ Bs i < 4) (N : News h₀ L s.heap ((L + 5, o5) :: (L + 6, o6) :: (sA, listOf its sn) :: rest)) (F : Fr h₀ L s.heap (fun y => if y = Str.ofString "spots" then some (.ref sA) else m y)) (hQ : ∀ h' tk' (D : Addr) (ys : List Value), ys.length = 3 → (∀ (i : Nat) y, ys[i]? = some y → ∃ u, y = .int (far ((t : Int) - Ts i) ((b : Int) - Bs i)) u) → Fr h₀ L h' (fun y => if y = Str.ofString "plain" then some (.ref D) else if y = Str.ofString "spots" then some (.ref sA) else m y) → News h₀ L h' ((D, LCg.lst ys) :: (L + 5, o5) :: (L + 6, o6) :: (sA, listOf its sn) :: rest) → Q .next { s with heap := h', toks := tk' }) :
   wpAny (model PySem.Challenge.rw_pu0052_01.row.prog w) (callerA.deeper (envOfC (Str.ofString "law") lawScope L fa cd)) (exec (nthS 3 (ifBody (lbst 3))) (envOfC (Str.ofString "law") lawScope L fa cd)) Q (fun _ _ => False) s := by
  revert X; k_fill; intro X
  have hStop0 := stop "exec Assign cons ListComp"
  have hStop1 := stop "CompSrc"
  conv in (nthS 3 (ifBody (lbst 3))) => whnf
  k_steps
  refine Hold.mk (LCg.Assign_ListComp_U (F₀ := by k_asm) (by rfl) (by with_unfolding_all rfl) (by with_unfolding_all rfl) (by decide) (by rfl) (by decide) (by rfl) (by rfl) (by rfl) ?_)
  k_steps
  refine Hold.mk (LCg.CompSrc.ledger (k := sn) (its := its) (by rfl) (by k_asm) (by k_asm) (by k_mem) (by rw [hsz, PySem.sizeLine_eq]; decide) ?_)
  intro g
  rw [hsz]
  refine comp_pure (fun i y => ∃ u, y = .int (far ((t : Int) - Ts i) ((b : Int) - Bs i)) u) (.inr ⟨_, (by k_mem : (sA, listOf its sn) ∈ _), rfl, sn, rfl⟩) ?_ ?_
  · intro i v I oI C oC D m₂ ys h tk E' hi hv hC hx F2 N2
    obtain ⟨a, tT, tB, rfl, hm, hT, hB⟩ := hsp i v hv
    have N3 : News h₀ L h ((a, { cls := .type "tuple", data := .seq #[.int (Ts i : Nat) tT, .int (Bs i : Nat) tB] 0 }) :: (I, oI) :: (C, oC) :: (D, LCg.lst ys) :: (L + 5, o5) :: (L + 6, o6) :: (sA, listOf its sn) :: rest) := fun p hp => (List.mem_cons.mp hp).elim (fun e => e ▸ N2 _ (by repeat (first | exact hm | refine List.mem_cons_of_mem _ ?_))) (N2 p)
    replace N2 := Hold.mk N2
    replace hsp := Hold.mk hsp
    k_steps
    rename News _ _ _ _ => N9
    exact ⟨_, _, rfl, by k_asm, fun p hp => N9 p (List.mem_cons_of_mem _ hp), _, rfl⟩
  · intro ys hl hys D h tk F2 N2 hoff
    exact hQ _ _ _ _ hl hys F2 N2

end Mine
end
-- part C4
section
namespace Mine
set_option maxRecDepth 100000
set_option maxHeartbeats 8000000
theorem c4 (w : World) (mean : ExcName → Option Value) (mg mb : Str → Option Value) (fa : Addr) (cd : Value) (h₀ : Heap) (L : Nat) (m : Str → Option Value) (s : Shared) (Q : Flow → Shared → Prop) (B : Below callerA h₀ [] h₀) (X : (hd.heap_39 w.params).In h₀) (T : Top hd.view_39 (looseW hd.view_39 [Str.ofString "Whitespace"]) mean mg mb h₀)
   (dA pA : Nat) (dn : Nat) (w0 w1 w2 ag d0 d1 d2 : Int) (t0 t1 t2 ta u0 u1 u2 : Tok) (hw0 : 0 ≤ w0) (hw0' : w0 ≤ 3) (hw1 : 0 ≤ w1) (hw1' : w1 ≤ 3) (hw2 : 0 ≤ w2) (hw2' : w2 ≤ 3) (ha0 : 0 ≤ ag) (ha1 : ag ≤ 1) (hd0 : 0 ≤ d0) (hd0' : d0 ≤ 12) (hd1 : 0 ≤ d1) (hd1' : d1 ≤ 12) (hd2 : 0 ≤ d2) (hd2' : d2 ≤ 12) (rest : List (Addr × Obj)) (N : News h₀ L s.heap ((dA, listOf #[.int w0 t0, .int w1 t1, .int w2 t2] dn) :: (pA, LCg.lst [.int d0 u0, .int d1 u1, .int d2 u2]) :: rest)) (F : Fr h₀ L s.heap (fun y => if y = Str.ofString "drawn" then some (.ref dA) else if y = Str.ofString "again" then some (.int ag ta) else if y = Str.ofString "plain" then some (.ref pA) else m y)) (hQ : ∀ h' tk' t9, Fr h₀ L h' (fun y => if y = Str.ofString "whole" then some (.int (w0 * d0 + (w1 + ag) * d1 + w2 * d2) t9) else if y = Str.ofString "drawn" then some (.ref dA) else if y = Str.ofString "again" then some (.int ag ta) else if y = Str.ofString "plain" then some (.ref pA) else m y) → News h₀ L h' ((dA, listOf #[.int w0 t0, .int w1 t1, .int w2 t2] dn) :: (pA, LCg.lst [.int d0 u0, .int d1 u1, .int d2 u2]) :: rest) → Q .next { s with heap := h', toks := tk' }) :
   wpAny (model PySem.Challenge.rw_pu0052_01.row.prog w) (callerA.deeper (envOfC (Str.ofString "law") lawScope L fa cd)) (exec (nthS 4 (ifBody (lbst 3))) (envOfC (Str.ofString "law") lawScope L fa cd)) Q (fun _ _ => False) s := by
  revert X; k_fill; intro X
  conv in (nthS 4 (ifBody (lbst 3))) => whnf
  k_steps
  exact hQ _ _ _ (by k_asm) (by k_asm)

end Mine
end
-- part J1
section
namespace Mine
set_option maxRecDepth 100000
set_option maxHeartbeats 8000000
/-- a tuple of two ints -/
abbrev tup2 (a b : Int) (ta tb : Tok) : Obj := { cls := .type "tuple", data := .seq #[.int a ta, .int b tb] 0 }
/-- what the law's loops do not change: addresses and numbers -/
structure Cst where
  (lA ld sA dA rA uA cA fA : Nat)
  (f0 f1 bd w0 w1 w2 ag : Int)
  (Ts Bs : Nat → Nat)
  (its : Array Value)
  (sn dn : Nat)
structure Num (c : Cst) : Prop where
  (f00 : 0 ≤ c.f0) (f01 : c.f0 < 2) (f10 : 0 ≤ c.f1) (f11 : c.f1 < 3) (b11 : 11 ≤ c.bd)
  (w00 : 0 ≤ c.w0) (w02 : c.w0 ≤ 2) (w10 : 0 ≤ c.w1) (w12 : c.w1 ≤ 2) (w20 : 0 ≤ c.w2) (w22 : c.w2 ≤ 2) (a0 : 0 ≤ c.ag) (a1 : c.ag ≤ 1)
  (its3 : c.its.size = 3) (T4 : ∀ i, c.Ts i < 4) (B4 : ∀ i, c.Bs i < 4)
abbrev lowD (w : World) (f0 f1 : Int) (xr : Str) (k0 k1 k2 k3 k4 u0 u1 u2 : Tok) (a3 : Addr) : Obj :=
  dictOf [{ hash := PyData.keyHash w.params (Str.ofString "raw"), key := Value.str (Str.ofString "raw") k0, val := .str xr u0 }, { hash := PyData.keyHash w.params (Str.ofString "n"), key := Value.str (Str.ofString "n") k1, val := .int (f0 + f1) u1 }, { hash := PyData.keyHash w.params (Str.ofString "nt"), key := Value.str (Str.ofString "nt") k2, val := .int f0 u2 }, { hash := PyData.keyHash w.params (Str.ofString "norm"), key := Value.str (Str.ofString "norm") k3, val := .ref a3 }, { hash := PyData.keyHash w.params (Str.ofString "is_simple"), key := Value.str (Str.ofString "is_simple") k4, val := .bool true }] 5
/-- what of it stands in the ledger -/
structure Kon (w : World) (L : Nat) (c : Cst) (K : List (Addr × Obj)) : Prop where
  calls : ∃ o, (L + 2, o) ∈ K ∧ o.data = .cell (some (.ref c.cA))
  floor : ∃ o, (L + 3, o) ∈ K ∧ o.data = .cell (some (.ref c.fA))
  bound : ∃ o t, (L + 4, o) ∈ K ∧ o.data = .cell (some (.int c.bd t))
  tup : ∃ t t', (c.fA, tup2 c.f0 c.f1 t t') ∈ K
  low : (c.lA, instObj 125 c.ld) ∈ K
  lowd : ∃ xr k0 k1 k2 k3 k4 u0 u1 u2 a3, (c.ld, lowD w c.f0 c.f1 xr k0 k1 k2 k3 k4 u0 u1 u2 a3) ∈ K
  spots : (c.sA, listOf c.its c.sn) ∈ K
  spot : ∀ i v, c.its[i]? = some v → ∃ a tT tB, v = .ref a ∧ (a, tup2 (c.Ts i : Nat) (c.Bs i : Nat) tT tB) ∈ K
  drawn : ∃ t0 t1 t2, (c.dA, listOf #[.int c.w0 t0, .int c.w1 t1, .int c.w2 t2] c.dn) ∈ K
  dict : ∃ oc t0 t1 t2, (c.cA, oc) ∈ K ∧ (c.cA == sysModules) = false ∧ oc.IsDictOf (strKind PySem.Challenge.rw_pu0052_01.row.prog w) [(Str.ofString "f", Value.int c.w0 t0), (Str.ofString "g", .int (c.w1 + c.ag) t1), (Str.ofString "h", .int c.w2 t2)] ∧ PyProof.V.FlatPairs PyData.str [(Str.ofString "f", Value.int c.w0 t0), (Str.ofString "g", .int (c.w1 + c.ag) t1), (Str.ofString "h", .int c.w2 t2)] [(PyData.str (Str.ofString "f"), PyData.int c.w0), (PyData.str (Str.ofString "g"), PyData.int (c.w1 + c.ag)), (PyData.str (Str.ofString "h"), PyData.int c.w2)]
theorem Kon.mono {w : World} {L : Nat} {c : Cst} {K K' : List (Addr × Obj)} (h : Kon w L c K) (s : ∀ p ∈ K, p ∈ K') : Kon w L c K' where
  calls := let ⟨o, a, b⟩ := h.calls; ⟨o, s _ a, b⟩
  floor := let ⟨o, a, b⟩ := h.floor; ⟨o, s _ a, b⟩
  bound := let ⟨o, t, a, b⟩ := h.bound; ⟨o, t, s _ a, b⟩
  tup := let ⟨t, t', a⟩ := h.tup; ⟨t, t', s _ a⟩
  low := s _ h.low
  lowd := let ⟨x, a, b, d, e, f, u, v, y, z, q⟩ := h.lowd; ⟨x, a, b, d, e, f, u, v, y, z, s _ q⟩
  spots := s _ h.spots
  spot := fun i v e => let ⟨a, x, y, p, q⟩ := h.spot i v e; ⟨a, x, y, p, s _ q⟩
  drawn := let ⟨x, y, z, q⟩ := h.drawn; ⟨x, y, z, s _ q⟩
  dict := let ⟨o, x, y, z, q, r⟩ := h.dict; ⟨o, x, y, z, s _ q, r⟩
/-- the frame's fixed names -/
structure FOk (c : Cst) (m : Str → Option Value) : Prop where
  low : m (Str.ofString "low") = some (.ref c.lA)
  spots : m (Str.ofString "spots") = some (.ref c.sA)
  drawn : m (Str.ofString "drawn") = some (.ref c.dA)
  again : ∃ t, m (Str.ofString "again") = some (.int c.ag t)
  rows : m (Str.ofString "rows") = some (.ref c.rA)
  due : m (Str.ofString "due") = some (.ref c.uA)
/-- two frames that differ at the loops' own names alone -/
def Same (m m' : Str → Option Value) : Prop := ∀ z, z ≠ Str.ofString "inside" → z ≠ Str.ofString "told" → z ≠ Str.ofString "plain" → z ≠ Str.ofString "whole" → m' z = m z
theorem FOk.same {c : Cst} {m m' : Str → Option Value} (h : FOk c m) (e : Same m m') : FOk c m' where
  low := (e _ (by decide) (by decide) (by decide) (by decide)).trans h.low
  spots := (e _ (by decide) (by decide) (by decide) (by decide)).trans h.spots
  drawn := (e _ (by decide) (by decide) (by decide) (by decide)).trans h.drawn
  again := let ⟨t, q⟩ := h.again; ⟨t, (e _ (by decide) (by decide) (by decide) (by decide)).trans q⟩
  rows := (e _ (by decide) (by decide) (by decide) (by decide)).trans h.rows
  due := (e _ (by decide) (by decide) (by decide) (by decide)).trans h.due
theorem Same.set {m m' : Str → Option Value} {x : Str} {v : Option Value} (e : Same m m') (hx : x = Str.ofString "inside" ∨ x = Str.ofString "told" ∨ x = Str.ofString "plain" ∨ x = Str.ofString "whole") : Same m (fun y => if y = x then v else m' y) := by
  intro z h1 h2 h3 h4
  show (if z = x then v else m' z) = m z
  rw [if_neg (fun q => by subst q; rcases hx with h | h | h | h <;> contradiction)]
  exact e z h1 h2 h3 h4
theorem Same.refl {m : Str → Option Value} : Same m m := fun _ _ _ _ _ => rfl
theorem fr_back {h₀ h : Heap} {L : Addr} {m : Str → Option Value} {x : Str} {v : Option Value} {l : List (Str × Value)} (hl : ∀ p ∈ l, m p.1 = some p.2) (F : Fr h₀ L h (fun y => if y = x then v else kstB m l y)) : Fr h₀ L h (fun y => if y = x then v else m y) :=
  fr_to F fun y => by rw [kst_same hl]
theorem fr_back0 {h₀ h : Heap} {L : Addr} {m : Str → Option Value} {l : List (Str × Value)} (hl : ∀ p ∈ l, m p.1 = some p.2) (F : Fr h₀ L h (fun y => kstB m l y)) : Fr h₀ L h m :=
  fr_to F fun y => by rw [kst_same hl]
theorem insideB_is (f0 f1 t b : Int) (h1 : 0 ≤ f0) (h2 : f0 < 2) (h3 : 0 ≤ f1) (h4 : f1 < 3) (h5 : 0 ≤ t) (h6 : t < 4) (h7 : 0 ≤ b) (h8 : b < 4) : insideB f0 f1 t b = (decide (f0 + f1 < t + b) && decide (f0 ≤ t)) := by
  have : ∀ (f0 : _root_.Fin 2) (f1 : _root_.Fin 3) (t b : _root_.Fin 4), insideB (f0.val : Int) (f1.val : Int) (t.val : Int) (b.val : Int) = (decide ((f0.val : Int) + (f1.val : Int) < (t.val : Int) + (b.val : Int)) && decide ((f0.val : Int) ≤ (t.val : Int))) := by decide +kernel
  have q := this ⟨f0.toNat, by omega⟩ ⟨f1.toNat, by omega⟩ ⟨t.toNat, by omega⟩ ⟨b.toNat, by omega⟩
  simpa only [Int.toNat_of_nonneg h1, Int.toNat_of_nonneg h3, Int.toNat_of_nonneg h5, Int.toNat_of_nonneg h7] using q
/-- what a place costs -/
def cost (c : Cst) (t b : Int) : Int := c.w0 * far (t - c.Ts 0) (b - c.Bs 0) + (c.w1 + c.ag) * far (t - c.Ts 1) (b - c.Bs 1) + c.w2 * far (t - c.Ts 2) (b - c.Bs 2)
theorem abs_turn (a b : Int) : (a - b).natAbs = (b - a).natAbs := by rw [← Int.natAbs_neg, Int.neg_sub]
theorem two_sub (x y u v : Int) : (x - u) + (y - v) = (x + y) - (u + v) := by omega
theorem far_neg (x y u v : Int) : far (x - u) (y - v) = far (u - x) (v - y) := by
  unfold far
  rw [two_sub x y u v, two_sub u v x y, abs_turn x u, abs_turn y v, abs_turn (x + y)]
theorem far_le (t b u v : Nat) (h1 : t < 4) (h2 : b < 4) (h3 : u < 4) (h4 : v < 4) : 0 ≤ far ((t : Int) - u) ((b : Int) - v) ∧ far ((t : Int) - u) ((b : Int) - v) ≤ 12 := by unfold far; omega
/-- a place, and the address of a tuple that tells of it -/
structure Row where
  (a : Addr) (t b : Nat)
def Row.pl (r : Row) : Nat × Nat := (r.t, r.b)
def Row.v (r : Row) : Value := .ref r.a
def RowIn (c : Cst) (K : List (Addr × Obj)) (r : Row) : Prop := ∃ x y z, (r.a, tup3 (cost c r.t r.b) ((r.t : Int) + r.b) (r.t : Int) x y z) ∈ K
def DueIn (c : Cst) (K : List (Addr × Obj)) (r : Row) : Prop := ∃ x y z, (r.a, tup3 (cost c r.t r.b) ((r.t : Int) + r.b) (-(r.t : Int)) x y z) ∈ K
/-- the law's ledger in the loops -/
abbrev Zed (L : Nat) (c : Cst) (o5 o6 o7 o8 : Obj) (R U : List Row) (rn un : Nat) (K : List (Addr × Obj)) : List (Addr × Obj) :=
  (L + 5, o5) :: (L + 6, o6) :: (L + 7, o7) :: (L + 8, o8) :: (c.rA, listOf (R.map Row.v).toArray rn) :: (c.uA, listOf (U.map Row.v).toArray un) :: K
/-- what a place adds -/
def Grown (c : Cst) (t b : Nat) (add : List (Addr × Obj)) (R U R' U' : List Row) : Prop :=
  if insideB c.f0 c.f1 t b = true then ∃ r u : Row, R' = R ++ [r] ∧ U' = U ++ [u] ∧ r.pl = (t, b) ∧ u.pl = (t, b) ∧ RowIn c add r ∧ DueIn c add u
  else add = [] ∧ R' = R ∧ U' = U
structure Apart (L : Nat) (c : Cst) : Prop where
  (r5 : L + 5 ≠ c.rA) (r6 : L + 6 ≠ c.rA) (r7 : L + 7 ≠ c.rA) (r8 : L + 8 ≠ c.rA) (u5 : L + 5 ≠ c.uA) (u6 : L + 6 ≠ c.uA) (u7 : L + 7 ≠ c.uA) (u8 : L + 8 ≠ c.uA) (ru : c.rA ≠ c.uA)
theorem off_one {l : List (Addr × Obj)} {a : Addr} (h : ∀ p ∈ l, p.1 ≠ a) : OwnOff l [a] := fun p hp b hb => (List.mem_singleton.mp hb) ▸ h p hp
theorem off_cons {q : Addr × Obj} {l : List (Addr × Obj)} {a : Addr} (h1 : q.1 ≠ a) (h : OwnOff l [a]) : OwnOff (q :: l) [a] := fun p hp b hb => (List.mem_cons.mp hp).elim (fun e => by rw [e, List.mem_singleton.mp hb]; exact h1) (fun hp => h p hp b hb)
theorem off_of {l : List (Addr × Obj)} {as : List Addr} {a : Addr} (h : OwnOff l as) (ha : a ∈ as) : OwnOff l [a] := fun p hp b hb => (List.mem_singleton.mp hb) ▸ h p hp a ha
end Mine
end
-- part J2
section
namespace Mine
set_option maxRecDepth 100000
set_option maxHeartbeats 8000000
theorem news_dup {h₀ h : Heap} {L : Addr} {l : List (Addr × Obj)} {q : Addr × Obj} (N : News h₀ L h l) (hm : q ∈ l) : News h₀ L h (q :: l) := fun p hp => (List.mem_cons.mp hp).elim (fun e => e ▸ N q hm) (N p)
theorem news_perm {h₀ h : Heap} {L : Addr} {l l' : List (Addr × Obj)} (N : News h₀ L h l) (s : ∀ p ∈ l', p ∈ l) : News h₀ L h l' := fun p hp => N p (s p hp)
theorem news_tl {h₀ h : Heap} {L : Addr} {l : List (Addr × Obj)} {q : Addr × Obj} (N : News h₀ L h (q :: l)) : News h₀ L h l := fun p hp => N p (List.mem_cons_of_mem _ hp)
theorem all_cons {α : Type} {P : α → Prop} {a : α} {l : List α} (h : P a) (t : ∀ x ∈ l, P x) : ∀ x ∈ a :: l, P x := List.forall_mem_cons.mpr ⟨h, t⟩
theorem all_nil {α : Type} {P : α → Prop} : ∀ x ∈ ([] : List α), P x := fun _ h => nomatch h
/-- the last statement of the inner body: the place is inside -/
theorem j_in (w : World) (mean : ExcName → Option Value) (mg mb : Str → Option Value) (fa : Addr) (cd : Value) (h₀ : Heap) (L : Nat) (m : Str → Option Value) (s : Shared) (Q : Flow → Shared → Prop) (B : Below callerA h₀ [] h₀) (X : (hd.heap_39 w.params).In h₀) (T : Top hd.view_39 (looseW hd.view_39 [Str.ofString "Whitespace"]) mean mg mb h₀)
   (c : Cst) (hn : Num c) (hap : Apart L c) (t b : Nat) (ht : t < 4) (hb : b < 4) (K : List (Addr × Obj)) (hK : Kon w L c K) (hoff : OwnOff K [L + 5, L + 6, L + 7, L + 8, c.rA, c.uA]) (R U : List Row) (rn un : Nat) (hR : R.length ≤ 64) (hU : U.length ≤ 64) (hm : FOk c m)
   (o5 o6 o7 o8 : Obj) (t5 t6 t7 : Tok) (v8 : Option Value) (d5 : o5.data = .cell (some (.int (t : Nat) t5))) (d6 : o6.data = .cell (some (.int (b : Nat) t6))) (d7 : o7.data = .cell (some (.str (lead t b) t7))) (d8 : o8.data = .cell v8)
   (N : News h₀ L s.heap (Zed L c o5 o6 o7 o8 R U rn un K)) (F : Fr h₀ L s.heap m)
   (hQ : ∀ h' tk' m' o8' v8' r u add rn' un', Same m m' → o8'.data = .cell v8' → (∀ p ∈ K, ∀ q ∈ add, p.1 < q.1) → (∀ q ∈ add, L + 8 < q.1 ∧ c.rA < q.1 ∧ c.uA < q.1) → r.pl = (t, b) → u.pl = (t, b) → RowIn c add r → DueIn c add u → Fr h₀ L h' m' → News h₀ L h' (Zed L c o5 o6 o7 o8' (R ++ [r]) (U ++ [u]) rn' un' (add ++ K)) → Q .next { s with heap := h', toks := tk' }) :
   wpAny (model PySem.Challenge.rw_pu0052_01.row.prog w) (callerA.deeper (envOfC (Str.ofString "law") lawScope L fa cd)) (execs (ifBody (lbst 3)) (envOfC (Str.ofString "law") lawScope L fa cd)) Q (fun _ _ => False) s := by
  have e : ifBody (lbst 3) = [nthS 0 (ifBody (lbst 3)), nthS 1 (ifBody (lbst 3)), nthS 2 (ifBody (lbst 3)), nthS 3 (ifBody (lbst 3)), nthS 4 (ifBody (lbst 3)), nthS 5 (ifBody (lbst 3))] := rfl
  rw [e]
  clear e
  obtain ⟨o4, t4, m4, d4⟩ := hK.bound
  have hz : ∀ (o8 : Obj) (q : Addr × Obj), q ∈ K → q ∈ Zed L c o5 o6 o7 o8 R U rn un K := fun o8 q hq => List.mem_cons_of_mem _ (List.mem_cons_of_mem _ (List.mem_cons_of_mem _ (List.mem_cons_of_mem _ (List.mem_cons_of_mem _ (List.mem_cons_of_mem _ hq)))))
  have ne : ∀ p ∈ K, p.1 ≠ L + 5 ∧ p.1 ≠ L + 6 ∧ p.1 ≠ L + 7 ∧ p.1 ≠ L + 8 ∧ p.1 ≠ c.rA ∧ p.1 ≠ c.uA := fun p hp => ⟨hoff p hp _ (by simp), hoff p hp _ (by simp), hoff p hp _ (by simp), hoff p hp _ (by simp), hoff p hp _ (by simp), hoff p hp _ (by simp)⟩
  -- far
  refine wpAny_execs_cons ?_
  have l1 : ∀ p ∈ [(Str.ofString "spots", Value.ref c.sA)], m p.1 = some p.2 := all_cons hm.spots all_nil
  refine c0 w mean mg mb fa cd h₀ L m s _ B X T o4 o7 o8 v8 t b c.bd t4 t7 d4 d7 d8 ht hb hn.b11 c.sA c.its c.sn hn.its3 c.Ts c.Bs
    ((L + 5, o5) :: (L + 6, o6) :: (L + 7, o7) :: (c.rA, listOf (R.map Row.v).toArray rn) :: (c.uA, listOf (U.map Row.v).toArray un) :: K) (fun i v hv => ?_) ?_ ?_ (fr_names F _ l1) ?_
  · obtain ⟨a, x, y, e, q⟩ := hK.spot i v hv
    exact ⟨a, x, y, e, List.mem_cons_of_mem _ (List.mem_cons_of_mem _ (List.mem_cons_of_mem _ (List.mem_cons_of_mem _ (List.mem_cons_of_mem _ q)))), hn.T4 i, hn.B4 i⟩
  · refine off_cons (ne _ hK.spots).2.2.2.1 (off_cons (by show L + 5 ≠ L + 8; omega) (off_cons (by show L + 6 ≠ L + 8; omega) (off_cons (by show L + 7 ≠ L + 8; omega) (off_cons (Ne.symm hap.r8) (off_cons (Ne.symm hap.u8) (off_of hoff (by simp)))))))
  · refine news_perm N ?_
    refine all_cons (hz _ _ m4) (all_cons (by k_mem) (all_cons (by k_mem) (all_cons (hz _ _ hK.spots) (all_cons (by k_mem) (all_cons (by k_mem) (all_cons (by k_mem) (all_cons (by k_mem) (all_cons (by k_mem) (hz _)))))))))
  intro h1 tk1 D ys o8' hl hys d8' F1 N1
  replace F1 := fr_back0 l1 F1
  dsimp only
  obtain ⟨y0, y1, y2, rfl⟩ := len3 hl
  obtain ⟨u0, rfl⟩ := hys 0 _ rfl
  obtain ⟨u1, rfl⟩ := hys 1 _ rfl
  obtain ⟨u2, rfl⟩ := hys 2 _ rfl
  -- told
  refine wpAny_execs_cons ?_
  obtain ⟨o2, m2, d2⟩ := hK.calls
  obtain ⟨oc, s0, s1, s2, mc, hcl, hc, hcf⟩ := hK.dict
  obtain ⟨g0, g0'⟩ := far_le (c.Ts 0) (c.Bs 0) t b (hn.T4 0) (hn.B4 0) ht hb
  obtain ⟨g1, g1'⟩ := far_le (c.Ts 1) (c.Bs 1) t b (hn.T4 1) (hn.B4 1) ht hb
  obtain ⟨g2, g2'⟩ := far_le (c.Ts 2) (c.Bs 2) t b (hn.T4 2) (hn.B4 2) ht hb
  have nw := hn.w00; have nw' := hn.w02; have nx := hn.w10; have nx' := hn.w12; have ny := hn.w20; have ny' := hn.w22; have na := hn.a0; have na' := hn.a1
  have N2 : News h₀ L h1 ((D, LCg.lst [Value.int (far ((c.Ts 0 : Int) - t) ((c.Bs 0 : Int) - b)) u0, Value.int (far ((c.Ts 1 : Int) - t) ((c.Bs 1 : Int) - b)) u1, Value.int (far ((c.Ts 2 : Int) - t) ((c.Bs 2 : Int) - b)) u2]) :: Zed L c o5 o6 o7 o8' R U rn un K) := by
    refine news_perm N1 (all_cons (by k_mem) (all_cons (by k_mem) (all_cons (by k_mem) (all_cons (by k_mem) (all_cons (by k_mem) (all_cons (by k_mem) (all_cons (by k_mem) (fun q hq => ?_))))))))
    repeat (first | exact hq | refine List.mem_cons_of_mem _ ?_)
  refine c1 w mean mg mb fa cd h₀ L m _ _ B X T o2 o8' oc c.cA D c.w0 (c.w1 + c.ag) c.w2 _ _ _ s0 s1 s2 u0 u1 u2 d2 d8' nw (by omega) (by omega) (by omega) ny (by omega) g0 g0' g1 g1' g2 g2' hcl hc hcf (Zed L c o5 o6 o7 o8' R U rn un K) ?_ F1 ?_
  · refine news_perm N2 (all_cons (List.mem_cons_of_mem _ (hz _ _ m2)) (all_cons (by k_mem) (all_cons (List.mem_cons_of_mem _ (hz _ _ mc)) (fun q hq => hq))))
  intro h2 tk2 t9 F2 N3
  replace N3 := news_tl (news_tl (news_tl (news_tl N3)))
  have ec : c.w0 * far ((c.Ts 0 : Int) - t) ((c.Bs 0 : Int) - b) + (c.w1 + c.ag) * far ((c.Ts 1 : Int) - t) ((c.Bs 1 : Int) - b) + c.w2 * far ((c.Ts 2 : Int) - t) ((c.Bs 2 : Int) - b) = cost c t b := by
    unfold cost
    rw [far_neg (t : Int), far_neg (t : Int), far_neg (t : Int)]
  rw [ec] at F2
  clear N2 N1
  obtain ⟨m2, em2, S2, F2⟩ : ∃ m2 : Str → Option Value, m2 (Str.ofString "told") = some (Value.int (cost c t b) t9) ∧ Same m m2 ∧ Fr h₀ L h2 m2 := ⟨_, rfl, Same.refl.set (.inr (.inl rfl)), F2⟩
  have hm2 := hm.same S2
  dsimp only
  -- rows.append
  refine wpAny_execs_cons ?_
  have l2 : ∀ p ∈ [(Str.ofString "told", Value.int (cost c t b) t9), (Str.ofString "rows", Value.ref c.rA)], m2 p.1 = some p.2 := all_cons em2 (all_cons hm2.rows all_nil)
  refine c2 w mean mg mb fa cd h₀ L m2 _ _ B X T o5 o6 t b t5 t6 t9 (cost c t b) d5 d6 ht hb c.rA (R.map Row.v) rn (by rw [List.length_map]; exact hR) hap.r5 hap.r6
    ((L + 7, o7) :: (L + 8, o8') :: (c.uA, listOf (U.map Row.v).toArray un) :: K) ?_ ?_ (fr_names F2 _ l2) ?_
  · refine off_cons hap.r7 (off_cons hap.r8 (off_cons (Ne.symm hap.ru) (off_of hoff (by simp))))
  · refine news_perm N3 (all_cons (by k_mem) (all_cons (by k_mem) (all_cons (by k_mem) (all_cons (by k_mem) (all_cons (by k_mem) (all_cons (by k_mem) (hz _)))))))
  intro h3 tk3 D1 x1 y1 z1 lt1 lt2 lt3 F3 N4
  replace F3 := fr_back0 l2 F3
  clear l2 F2
  have eR : R.map Row.v ++ [Value.ref D1] = (R ++ [(⟨D1, t, b⟩ : Row)]).map Row.v := by rw [List.map_append]; rfl
  rw [eR] at N4
  dsimp only
  -- plain
  refine wpAny_execs_cons ?_
  have l3 : ∀ p ∈ [(Str.ofString "spots", Value.ref c.sA)], m2 p.1 = some p.2 := all_cons hm2.spots all_nil
  have kk : ∀ q ∈ K, q ∈ (D1, tup3 (cost c t b) ((t : Int) + b) (t : Int) x1 y1 z1) :: (L + 5, o5) :: (L + 6, o6) :: (c.rA, listOf ((R ++ [(⟨D1, t, b⟩ : Row)]).map Row.v).toArray (rn + 1)) :: (L + 7, o7) :: (L + 8, o8') :: (c.uA, listOf (U.map Row.v).toArray un) :: K := fun q hq => by repeat (first | exact hq | refine List.mem_cons_of_mem _ ?_)
  refine c3 w mean mg mb fa cd h₀ L m2 _ _ B X T o5 o6 t b t5 t6 d5 d6 ht hb c.sA c.its c.sn hn.its3 c.Ts c.Bs _ (fun i v hv => ?_) (news_perm N4 (all_cons (by k_mem) (all_cons (by k_mem) (all_cons (kk _ hK.spots) (fun q hq => hq))))) (fr_names F3 _ l3) ?_
  · obtain ⟨a, x, y, e, q⟩ := hK.spot i v hv
    exact ⟨a, x, y, e, kk _ q, hn.T4 i, hn.B4 i⟩
  intro h4 tk4 D2 ys hl hys F4 N5
  replace F4 := fr_back l3 F4
  obtain ⟨m5, em5, S5, F4⟩ : ∃ m5 : Str → Option Value, m5 (Str.ofString "plain") = some (Value.ref D2) ∧ Same m m5 ∧ Fr h₀ L h4 m5 := ⟨_, rfl, S2.set (.inr (.inr (.inl rfl))), F4⟩
  have hm5 := hm.same S5
  dsimp only
  obtain ⟨y0, y1, y2, rfl⟩ := len3 hl
  obtain ⟨u0, rfl⟩ := hys 0 _ rfl
  obtain ⟨u1, rfl⟩ := hys 1 _ rfl
  obtain ⟨u2, rfl⟩ := hys 2 _ rfl
  -- whole
  refine wpAny_execs_cons ?_
  obtain ⟨p0, p1, p2, md⟩ := hK.drawn
  obtain ⟨ta, ea⟩ := hm5.again
  obtain ⟨g0, g0'⟩ := far_le t b (c.Ts 0) (c.Bs 0) ht hb (hn.T4 0) (hn.B4 0)
  obtain ⟨g1, g1'⟩ := far_le t b (c.Ts 1) (c.Bs 1) ht hb (hn.T4 1) (hn.B4 1)
  obtain ⟨g2, g2'⟩ := far_le t b (c.Ts 2) (c.Bs 2) ht hb (hn.T4 2) (hn.B4 2)
  have l4 : ∀ p ∈ [(Str.ofString "drawn", Value.ref c.dA), (Str.ofString "again", Value.int c.ag ta), (Str.ofString "plain", Value.ref D2)], m5 p.1 = some p.2 :=
    all_cons hm5.drawn (all_cons ea (all_cons em5 all_nil))
  refine c4 w mean mg mb fa cd h₀ L m5 _ _ B X T c.dA D2 c.dn c.w0 c.w1 c.w2 c.ag _ _ _ p0 p1 p2 ta u0 u1 u2 nw (by omega) nx (by omega) ny (by omega) na na' g0 g0' g1 g1' g2 g2' _ (news_perm N5 (all_cons ?_ (all_cons (by k_mem) (fun q hq => List.mem_cons_of_mem _ (List.mem_cons_of_mem _ (List.mem_cons_of_mem _ (List.mem_cons_of_mem _ hq))))))) (fr_names F4 _ l4) ?_
  · exact List.mem_cons_of_mem _ (List.mem_cons_of_mem _ (List.mem_cons_of_mem _ (List.mem_cons_of_mem _ (kk _ md))))
  intro h5 tk5 t8 F5 N6
  replace F5 := fr_back l4 F5
  replace N6 := news_tl (news_tl N6)
  have ed : c.w0 * far ((t : Int) - c.Ts 0) ((b : Int) - c.Bs 0) + (c.w1 + c.ag) * far ((t : Int) - c.Ts 1) ((b : Int) - c.Bs 1) + c.w2 * far ((t : Int) - c.Ts 2) ((b : Int) - c.Bs 2) = cost c t b := rfl
  rw [ed] at F5
  clear N5 N4 l4
  clear F4
  obtain ⟨m6, em6, S6, F5⟩ : ∃ m6 : Str → Option Value, m6 (Str.ofString "whole") = some (Value.int (cost c t b) t8) ∧ Same m m6 ∧ Fr h₀ L h5 m6 := ⟨_, rfl, S5.set (.inr (.inr (.inr rfl))), F5⟩
  have hm6 := hm.same S6
  dsimp only
  -- due.append
  refine wpAny_execs_cons ?_
  have l6 : ∀ p ∈ [(Str.ofString "whole", Value.int (cost c t b) t8), (Str.ofString "due", Value.ref c.uA)], m6 p.1 = some p.2 := all_cons em6 (all_cons hm6.due all_nil)
  refine c5 w mean mg mb fa cd h₀ L m6 _ _ B X T o5 o6 t b t5 t6 t8 (cost c t b) d5 d6 ht hb c.uA (U.map Row.v) un (by rw [List.length_map]; exact hU) hap.u5 hap.u6
    ((D1, tup3 (cost c t b) ((t : Int) + b) (t : Int) x1 y1 z1) :: (c.rA, listOf ((R ++ [(⟨D1, t, b⟩ : Row)]).map Row.v).toArray (rn + 1)) :: (L + 7, o7) :: (L + 8, o8') :: K) ?_ ?_ (fr_names F5 _ l6) ?_
  · refine off_cons (Nat.ne_of_gt (lt3 (c.uA, _) (by k_mem))) (off_cons hap.ru (off_cons hap.u7 (off_cons hap.u8 (off_of hoff (by simp)))))
  · refine news_perm N6 (all_cons (by k_mem) (all_cons (by k_mem) (all_cons (by k_mem) (all_cons (by k_mem) (all_cons (by k_mem) (all_cons (by k_mem) (all_cons (by k_mem) (fun q hq => by repeat (first | exact hq | refine List.mem_cons_of_mem _ ?_)))))))))
  intro h6 tk6 D3 x2 y2 z2 lt4 lt5 lt6 F6 N7
  replace F6 := fr_back0 l6 F6
  have eU : U.map Row.v ++ [Value.ref D3] = (U ++ [(⟨D3, t, b⟩ : Row)]).map Row.v := by rw [List.map_append]; rfl
  rw [eU] at N7
  refine wpAny_execs_nil ?_
  have k1 : c.uA < D1 := lt3 (c.uA, _) (by k_mem)
  have k2 : L + 8 < D1 := lt3 (L + 8, _) (by k_mem)
  have k3 : L + 8 < D3 := lt6 (L + 8, _) (by k_mem)
  have k4 : c.rA < D3 := lt6 (c.rA, _) (by k_mem)
  refine hQ h6 tk6 _ o8' _ ⟨D1, t, b⟩ ⟨D3, t, b⟩ [(D3, tup3 (cost c t b) ((t : Int) + b) (-(t : Int)) x2 y2 z2), (D1, tup3 (cost c t b) ((t : Int) + b) (t : Int) x1 y1 z1)] (rn + 1) (un + 1) S6 d8' (fun p hp => all_cons (lt6 p (by repeat (first | exact hp | refine List.mem_cons_of_mem _ ?_))) (all_cons (lt3 p (by repeat (first | exact hp | refine List.mem_cons_of_mem _ ?_))) all_nil)) (all_cons ⟨k3, k4, lt5⟩ (all_cons ⟨k2, lt2, k1⟩ all_nil)) rfl rfl ⟨x1, y1, z1, by k_mem⟩ ⟨x2, y2, z2, by k_mem⟩ F6 ?_
  refine news_perm N7 (all_cons (by k_mem) (all_cons (by k_mem) (all_cons (by k_mem) (all_cons (by k_mem) (all_cons (by k_mem) (all_cons (by k_mem) (all_cons (by k_mem) (all_cons (by k_mem) (fun q hq => by repeat (first | exact hq | refine List.mem_cons_of_mem _ ?_))))))))))
end Mine
end
-- part J3
section
open PySem.Spec
namespace Mine
set_option maxRecDepth 100000
set_option maxHeartbeats 8000000
section
variable {M : Model} {A : Around} {E : Value → Shared → Prop} {s : Shared} {h₀ : Heap} {L : Addr} {m : Str → Option Value}
/-- a cell at the ledger's head is stored into -/
theorem put_cell {env : Env} {x : Str} {c : Addr} {o : Obj} {v₀ : Option Value} {v : Value} {rest : List (Addr × Obj)} {Q : Unit → Shared → Prop} (hk : env.scope.kind = .function) (hl : env.kindOf x = some .cell) (hc : env.cells.lookup x = some c) (d : o.data = .cell v₀)
    (N : News h₀ L s.heap ((c, o) :: rest)) (ho : OwnOff rest [c]) (F : Fr h₀ L s.heap m)
    (hQ : ∀ h' o', o'.data = .cell (some v) → Fr h₀ L h' m → News h₀ L h' ((c, o') :: rest) → Q () { s with heap := h' }) :
    wpAny M A (storeName env x v) Q E s := by
  have hc0 := N (c, o) List.mem_cons_self
  refine wpAny_storeName_cell hk hl hc ⟨o, hc0.1, d⟩ fun h' hv hs => ?_
  obtain ⟨o', e', d'⟩ := hv
  refine hQ h' o' d' ⟨F.ns.sameBut hs (Ne.symm hc0.2.1), fun b ob e => (hs.2 b (fun q => ?_)).trans (F.keep b ob e), F.above⟩ (all_cons ⟨e', hc0.2⟩ fun p hp => ?_)
  · rw [q] at e
    rw [hc0.2.2] at e
    cases e
  · exact ⟨(hs.2 p.1 (ho p hp c List.mem_cons_self)).trans (N p (List.mem_cons_of_mem _ hp)).1, (N p (List.mem_cons_of_mem _ hp)).2⟩
end
theorem if_word (w : World) (L : Nat) (fa : Addr) (cd : Value) (h₀ : Heap) (m : Str → Option Value) (s : Shared) (Q : Flow → Shared → Prop) (i : Bool) (F : Fr h₀ L s.heap (fun y => if y = Str.ofString "inside" then some (.bool i) else m y))
   (h : (i = true → wpAny (model PySem.Challenge.rw_pu0052_01.row.prog w) (callerA.deeper (envOfC (Str.ofString "law") lawScope L fa cd)) (execs (ifBody (lbst 3)) (envOfC (Str.ofString "law") lawScope L fa cd)) Q (fun _ _ => False) s) ∧ (i = false → Q .next s)) :
   wpAny (model PySem.Challenge.rw_pu0052_01.row.prog w) (callerA.deeper (envOfC (Str.ofString "law") lawScope L fa cd)) (exec (lbst 3) (envOfC (Str.ofString "law") lawScope L fa cd)) Q (fun _ _ => False) s := by
  generalize hb : ifBody (lbst 3) = body at *
  conv in (lbst 3) => whnf
  conv at hb => lhs; whnf
  subst hb
  refine wpAny_If ?_
  cases i with
  | true =>
    have h' := h.1 rfl
    clear h
    generalize execs _ _ = prg at *
    k_steps
    exact h'
  | false =>
    have h' := h.2 rfl
    clear h
    generalize execs _ _ = prg at *
    k_steps
    exact h'
/-- the inner body -/
theorem j_body (w : World) (mean : ExcName → Option Value) (mg mb : Str → Option Value) (fa : Addr) (cd : Value) (h₀ : Heap) (L : Nat) (m : Str → Option Value) (s : Shared) (Q : Flow → Shared → Prop) (B : Below callerA h₀ [] h₀) (X : (hd.heap_39 w.params).In h₀) (T : Top hd.view_39 (looseW hd.view_39 [Str.ofString "Whitespace"]) mean mg mb h₀)
   (c : Cst) (hn : Num c) (hap : Apart L c) (t b : Nat) (ht : t < 4) (hb : b < 4) (K : List (Addr × Obj)) (hK : Kon w L c K) (hoff : OwnOff K [L + 5, L + 6, L + 7, L + 8, c.rA, c.uA]) (R U : List Row) (rn un : Nat) (hR : R.length ≤ 64) (hU : U.length ≤ 64) (hm : FOk c m)
   (o5 o6 o7 o8 : Obj) (t5 t6 : Tok) (v7 v8 : Option Value) (d5 : o5.data = .cell (some (.int (t : Nat) t5))) (d6 : o6.data = .cell (some (.int (b : Nat) t6))) (d7 : o7.data = .cell v7) (d8 : o8.data = .cell v8)
   (N : News h₀ L s.heap (Zed L c o5 o6 o7 o8 R U rn un K)) (F : Fr h₀ L s.heap m)
   (hQ : ∀ h' tk' m' o7' o8' v7' v8' R' U' add rn' un', Same m m' → o7'.data = .cell v7' → o8'.data = .cell v8' → (∀ p ∈ K, ∀ q ∈ add, p.1 < q.1) → (∀ q ∈ add, L + 8 < q.1 ∧ c.rA < q.1 ∧ c.uA < q.1) → Grown c t b add R U R' U' → Fr h₀ L h' m' → News h₀ L h' (Zed L c o5 o6 o7' o8' R' U' rn' un' (add ++ K)) → Q .next { s with heap := h', toks := tk' }) :
   wpAny (model PySem.Challenge.rw_pu0052_01.row.prog w) (callerA.deeper (envOfC (Str.ofString "law") lawScope L fa cd)) (execs (forBody (nthS 0 (forBody (st 10)))) (envOfC (Str.ofString "law") lawScope L fa cd)) Q (fun _ _ => False) s := by
  have e : forBody (nthS 0 (forBody (st 10))) = [lbst 0, lbst 1, lbst 2, lbst 3] := rfl
  rw [e]
  clear e
  have nf0 := hn.f00; have nf0' := hn.f01; have nf1 := hn.f10; have nf1' := hn.f11
  refine wpAny_execs_cons ?_
  refine b0 w mean mg mb fa cd h₀ L m s _ B X T o5 o6 o7 v7 t b t5 t6 d5 d6 d7 (by omega) (by omega) (by omega) (by omega) _ ?_ N F ?_
  · exact off_cons (by show L + 8 ≠ L + 7; omega) (off_cons (Ne.symm hap.r7) (off_cons (Ne.symm hap.u7) (off_of hoff (by simp))))
  intro h1 tk1 o7' t9 d7' F1 N1
  dsimp only
  refine wpAny_execs_cons ?_
  have hz : ∀ q ∈ K, q ∈ Zed L c o5 o6 o7' o8 R U rn un K := fun q hq => List.mem_cons_of_mem _ (List.mem_cons_of_mem _ (List.mem_cons_of_mem _ (List.mem_cons_of_mem _ (List.mem_cons_of_mem _ (List.mem_cons_of_mem _ hq)))))
  obtain ⟨o3, m3, d3⟩ := hK.floor
  obtain ⟨tt, tt', mt⟩ := hK.tup
  refine b1 w mean mg mb fa cd h₀ L m _ _ B X T o3 o5 o6 c.fA c.f0 c.f1 t b t5 t6 tt tt' d3 d5 d6 (by omega) (by omega) (by omega) (by omega) nf0 nf0' nf1 nf1' (Zed L c o5 o6 o7' o8 R U rn un K) ?_ F1 ?_
  · exact news_perm N1 (all_cons (hz _ m3) (all_cons (by k_mem) (all_cons (by k_mem) (all_cons (hz _ mt) (fun q hq => hq)))))
  intro h2 tk2 F2 N2
  replace N2 := news_tl (news_tl (news_tl (news_tl N2)))
  dsimp only
  refine wpAny_execs_cons ?_
  obtain ⟨xr, k0, k1, k2, k3, k4, u0, u1, u2, a3, ml⟩ := hK.lowd
  have N3 : News h₀ L h2 ((L + 7, o7') :: (c.lA, instObj 125 c.ld) :: (c.ld, lowD w c.f0 c.f1 xr k0 k1 k2 k3 k4 u0 u1 u2 a3) :: Zed L c o5 o6 o7' o8 R U rn un K) := news_perm N2 (all_cons (by k_mem) (all_cons (hz _ hK.low) (all_cons (hz _ ml) (fun q hq => hq))))
  clear N1 N2
  have l1 : ∀ p ∈ [(Str.ofString "low", Value.ref c.lA)], m p.1 = some p.2 := all_cons hm.low all_nil
  have fin : ∀ i : Bool, insideB c.f0 c.f1 t b = i → ∀ h' tk', Fr h₀ L h' (fun y => if y = Str.ofString "inside" then some (.bool i) else m y) → News h₀ L h' (Zed L c o5 o6 o7' o8 R U rn un K) →
      wpAny (model PySem.Challenge.rw_pu0052_01.row.prog w) (callerA.deeper (envOfC (Str.ofString "law") lawScope L fa cd)) (execs [lbst 3] (envOfC (Str.ofString "law") lawScope L fa cd)) Q (fun _ _ => False) { s with heap := h', toks := tk' } := by
    intro i hi h' tk' F4 N4
    refine wpAny_execs_cons ?_
    have S4 : Same m (fun y => if y = Str.ofString "inside" then some (.bool i) else m y) := Same.refl.set (.inl rfl)
    refine if_word w L fa cd h₀ m _ _ i F4 ⟨fun e => ?_, fun e => ?_⟩
    · subst e
      refine j_in w mean mg mb fa cd h₀ L _ _ _ B X T c hn hap t b ht hb K hK hoff R U rn un hR hU (hm.same S4) o5 o6 o7' o8 t5 t6 t9 v8 d5 d6 d7' d8 N4 F4 ?_
      intro h5 tk5 m5 o8' v8' r u add rn' un' S5 d8' la lb er eu hr hu F5 N5
      refine wpAny_execs_nil (hQ h5 tk5 m5 o7' o8' _ v8' _ _ add rn' un' (fun z a b c d => (S5 z a b c d).trans (S4 z a b c d)) d7' d8' la lb ?_ F5 N5)
      unfold Grown
      rw [if_pos hi]
      exact ⟨r, u, rfl, rfl, er, eu, hr, hu⟩
    · subst e
      refine wpAny_execs_nil (hQ h' tk' _ o7' o8 _ v8 R U [] rn un S4 d7' d8 (fun _ _ _ h => nomatch h) (fun _ h => nomatch h) ?_ F4 N4)
      unfold Grown
      rw [if_neg (by rw [hi]; decide)]
      exact ⟨rfl, rfl, rfl⟩
  have hin := insideB_is c.f0 c.f1 t b nf0 nf0' nf1 nf1' (by omega) (by omega) (by omega) (by omega)
  by_cases hc : c.f0 + c.f1 < (t : Int) + b
  · by_cases hc2 : c.f0 ≤ (t : Int)
    · rw [decide_eq_true hc, decide_eq_true hc2] at hin
      rw [hin] at F2
      refine b2a w mean mg mb fa cd h₀ L m _ _ B X T o7' t b c.f0 c.f1 xr t9 k0 k1 k2 k3 k4 u0 u1 u2 a3 d7' ht hb nf0 nf0' nf1 nf1' c.lA c.ld _ N3 (fr_to F2 fun y => ?_) hc hc2 ?_
      · by_cases q : y = Str.ofString "inside"
        · simp only [q, if_true]
          rfl
        · simp only [q, if_false]
          exact kst_same l1 y
      · intro h4 tk4 F4 N4
        exact fin true hin h4 tk4 (fr_back l1 F4) (news_tl (news_tl (news_tl N4)))
    · rw [decide_eq_true hc, decide_eq_false hc2] at hin
      rw [hin] at F2
      refine b2b w mean mg mb fa cd h₀ L m _ _ B X T o7' t b c.f0 c.f1 xr t9 k0 k1 k2 k3 k4 u0 u1 u2 a3 d7' ht hb nf0 nf0' nf1 nf1' c.lA c.ld _ N3 (fr_to F2 fun y => ?_) hc hc2 ?_
      · by_cases q : y = Str.ofString "inside"
        · simp only [q, if_true]
          rfl
        · simp only [q, if_false]
          exact kst_same l1 y
      · intro h4 tk4 F4 N4
        exact fin false hin h4 tk4 (fr_back l1 F4) (news_tl (news_tl (news_tl N4)))
  · rw [decide_eq_false hc] at hin
    rw [hin] at F2
    refine b2c w mean mg mb fa cd h₀ L m _ _ B X T o7' t b c.f0 c.f1 xr t9 k0 k1 k2 k3 k4 u0 u1 u2 a3 d7' ht hb nf0 nf0' nf1 nf1' c.lA c.ld _ N3 (fr_to F2 fun y => ?_) hc ?_
    · by_cases q : y = Str.ofString "inside"
      · simp only [q, if_true]
        rfl
      · simp only [q, if_false]
        exact kst_same l1 y
    · intro h4 tk4 F4 N4
      exact fin false hin h4 tk4 (fr_back l1 F4) (news_tl (news_tl (news_tl N4)))
end Mine
end
-- part J4
section
open PySem.Spec
namespace Mine
set_option maxRecDepth 100000
set_option maxHeartbeats 8000000
/-- the places of one row of tabs, of all rows, that are inside -/
def inRow (f0 f1 : Int) (t n : Nat) : List (Nat × Nat) := ((List.range n).map fun b => (t, b)).filter fun p => insideB f0 f1 p.1 p.2
def inAll (f0 f1 : Int) (n : Nat) : List (Nat × Nat) := (List.range n).flatMap fun t => inRow f0 f1 t 4
theorem inRow_succ (f0 f1 : Int) (t n : Nat) : inRow f0 f1 t (n + 1) = inRow f0 f1 t n ++ (if insideB f0 f1 t n = true then [(t, n)] else []) := by
  unfold inRow
  rw [List.range_succ, List.map_append, List.filter_append]
  congr 1
  simp only [List.map_cons, List.map_nil, List.filter_cons, List.filter_nil]
theorem inAll_succ (f0 f1 : Int) (n : Nat) : inAll f0 f1 (n + 1) = inAll f0 f1 n ++ inRow f0 f1 n 4 := by
  unfold inAll
  rw [List.range_succ, List.flatMap_append]
  simp
theorem inRow_len (f0 f1 : Int) (t n : Nat) : (inRow f0 f1 t n).length ≤ n := by
  unfold inRow
  refine Nat.le_trans (List.length_filter_le _ _) ?_
  rw [List.length_map, List.length_range]
  exact Nat.le_refl n
theorem inAll_len (f0 f1 : Int) (n : Nat) : (inAll f0 f1 n).length ≤ n * 4 := by
  induction n with
  | zero => exact Nat.le_refl _
  | succ n ih =>
    rw [inAll_succ, List.length_append]
    have := inRow_len f0 f1 n 4
    omega
/-- what the two lists tell -/
structure Told (c : Cst) (K : List (Addr × Obj)) (R U : List Row) (P : List (Nat × Nat)) : Prop where
  (rp : R.map Row.pl = P) (up : U.map Row.pl = P) (ri : ∀ r ∈ R, RowIn c K r) (ui : ∀ u ∈ U, DueIn c K u)
theorem Told.mono {c : Cst} {K K' : List (Addr × Obj)} {R U : List Row} {P : List (Nat × Nat)} (h : Told c K R U P) (s : ∀ p ∈ K, p ∈ K') : Told c K' R U P :=
  ⟨h.rp, h.up, fun r hr => let ⟨x, y, z, q⟩ := h.ri r hr; ⟨x, y, z, s _ q⟩, fun r hr => let ⟨x, y, z, q⟩ := h.ui r hr; ⟨x, y, z, s _ q⟩⟩
theorem Told.grown {c : Cst} {K add : List (Addr × Obj)} {R U R' U' : List Row} {P : List (Nat × Nat)} {t b : Nat} (h : Told c K R U P) (g : Grown c t b add R U R' U') : Told c (add ++ K) R' U' (P ++ (if insideB c.f0 c.f1 t b = true then [(t, b)] else [])) := by
  have h' := h.mono (K' := add ++ K) (fun p hp => List.mem_append_right _ hp)
  unfold Grown at g
  split at g
  · obtain ⟨r, u, rfl, rfl, er, eu, hr, hu⟩ := g
    rename_i hi
    rw [if_pos hi]
    refine ⟨by rw [List.map_append, h.rp, List.map_singleton, er], by rw [List.map_append, h.up, List.map_singleton, eu], fun q hq => ?_, fun q hq => ?_⟩
    · rcases List.mem_append.mp hq with hq | hq
      · exact h'.ri q hq
      · obtain ⟨x, y, z, m⟩ := hr
        rw [List.mem_singleton.mp hq]
        exact ⟨x, y, z, List.mem_append_left _ m⟩
    · rcases List.mem_append.mp hq with hq | hq
      · exact h'.ui q hq
      · obtain ⟨x, y, z, m⟩ := hu
        rw [List.mem_singleton.mp hq]
        exact ⟨x, y, z, List.mem_append_left _ m⟩
  · obtain ⟨rfl, rfl, rfl⟩ := g
    rename_i hi
    rw [if_neg hi, List.append_nil]
    exact h'
theorem off_app {a b : List (Addr × Obj)} {as : List Addr} (h1 : OwnOff a as) (h2 : OwnOff b as) : OwnOff (a ++ b) as := fun p hp => (List.mem_append.mp hp).elim (h1 p) (h2 p)
theorem off_sub {a : List (Addr × Obj)} {as bs : List Addr} (h : OwnOff a as) (s : ∀ b ∈ bs, b ∈ as) : OwnOff a bs := fun p hp b hb => h p hp b (s b hb)
theorem off_cons' {q : Addr × Obj} {l : List (Addr × Obj)} {as : List Addr} (h1 : ∀ a ∈ as, q.1 ≠ a) (h : OwnOff l as) : OwnOff (q :: l) as := fun p hp b hb => (List.mem_cons.mp hp).elim (fun e => by rw [e]; exact h1 b hb) (fun hp => h p hp b hb)
/-- above all that the law's loops write -/
def High (L : Nat) (c : Cst) (K₀ tl : List (Addr × Obj)) : Prop := (∀ p ∈ K₀, ∀ q ∈ tl, p.1 < q.1) ∧ ∀ q ∈ tl, L + 8 < q.1 ∧ c.rA < q.1 ∧ c.uA < q.1
theorem High.off {L : Nat} {c : Cst} {K₀ tl : List (Addr × Obj)} (h : High L c K₀ tl) : OwnOff tl [L + 5, L + 6, L + 7, L + 8, c.rA, c.uA] := by
  intro p hp b hb
  obtain ⟨h1, h2, h3⟩ := h.2 p hp
  have g : ∀ {x y : Nat}, x < y → y ≠ x := fun h => Nat.ne_of_gt h
  simp only [List.mem_cons, List.not_mem_nil, or_false] at hb
  rcases hb with rfl | rfl | rfl | rfl | rfl | rfl
  · exact g (Nat.lt_of_le_of_lt (by omega) h1)
  · exact g (Nat.lt_of_le_of_lt (by omega) h1)
  · exact g (Nat.lt_of_le_of_lt (by omega) h1)
  · exact g h1
  · exact g h2
  · exact g h3
/-- what holds between the turns of the law's loops over the places -/
def Jin (L : Nat) (c : Cst) (m₀ : Str → Option Value) (K₀ K₁ : List (Addr × Obj)) (o5 : Obj) (P : List (Nat × Nat)) (m : Str → Option Value) (nx : List (Addr × Obj)) : Prop :=
  ∃ o6 o7 o8 v6 v7 v8 R U rn un tl, nx = Zed L c o5 o6 o7 o8 R U rn un (tl ++ K₀) ∧ o6.data = .cell v6 ∧ o7.data = .cell v7 ∧ o8.data = .cell v8 ∧ Same m₀ m ∧ High L c K₀ tl ∧ Told c (tl ++ K₁) R U P
theorem told_len {c : Cst} {K : List (Addr × Obj)} {R U : List Row} {P : List (Nat × Nat)} (h : Told c K R U P) : R.length = P.length ∧ U.length = P.length := ⟨by rw [← h.rp, List.length_map], by rw [← h.up, List.length_map]⟩
/-- a turn of the loop over the blanks -/
theorem j_turn (w : World) (mean : ExcName → Option Value) (mg mb : Str → Option Value) (fa : Addr) (cd : Value) (h₀ : Heap) (L : Nat) (m₀ : Str → Option Value) (s : Shared) (Q : Flow → Shared → Prop) (B : Below callerA h₀ [] h₀) (X : (hd.heap_39 w.params).In h₀) (T : Top hd.view_39 (looseW hd.view_39 [Str.ofString "Whitespace"]) mean mg mb h₀)
   (c : Cst) (hn : Num c) (hap : Apart L c) (t : Nat) (ht : t < 4) (hm : FOk c m₀) (o5 : Obj) (t5 : Tok) (d5 : o5.data = .cell (some (.int (t : Nat) t5))) (P : List (Nat × Nat)) (hP : P.length ≤ 16) (K₀ K₁ : List (Addr × Obj)) (hK : Kon w L c K₀) (hoff : OwnOff K₀ [L + 5, L + 6, L + 7, L + 8, c.rA, c.uA]) :
   TurnC PySem.Challenge.rw_pu0052_01.row.prog w (callerA.deeper (envOfC (Str.ofString "law") lawScope L fa cd)) h₀ (envOfC (Str.ofString "law") lawScope L fa cd) (Str.ofString "blanks") (forBody (nthS 0 (forBody (st 10)))) Q (fun _ _ => False) s 4 (fun i v => ∃ t, v = .int (0 + (i : Int)) t) (fun i => Jin L c m₀ K₀ K₁ o5 (P ++ inRow c.f0 c.f1 t i)) := by
  rintro i v m₁ nx h tk own hi ⟨tb, rfl⟩ hown ⟨o6, o7, o8, v6, v7, v8, R, U, rn, un, tl, rfl, d6, d7, d8, S1, hh, hT⟩ F N
  have own1 : OwnOff own [L + 5, L + 6, L + 7, L + 8, c.rA, c.uA] := off_sub hown (by
    intro b hb
    simp only [List.map_cons]
    simp only [List.mem_cons, List.not_mem_nil, or_false] at hb ⊢
    rcases hb with h | h | h | h | h | h <;> simp [h])
  have own2 : OwnOff own ((tl ++ K₀).map (·.1)) := off_sub hown (by
    intro b hb
    simp only [List.map_cons]
    exact List.mem_cons_of_mem _ (List.mem_cons_of_mem _ (List.mem_cons_of_mem _ (List.mem_cons_of_mem _ (List.mem_cons_of_mem _ (List.mem_cons_of_mem _ hb))))))
  have koff : OwnOff (tl ++ K₀ ++ own) [L + 5, L + 6, L + 7, L + 8, c.rA, c.uA] := off_app (off_app hh.off hoff) own1
  have N1 : News h₀ L h ((L + 6, o6) :: (L + 5, o5) :: (L + 7, o7) :: (L + 8, o8) :: (c.rA, listOf (R.map Row.v).toArray rn) :: (c.uA, listOf (U.map Row.v).toArray un) :: (tl ++ K₀ ++ own)) := by
    refine news_perm N (all_cons (by k_mem) (all_cons (by k_mem) (all_cons (by k_mem) (all_cons (by k_mem) (all_cons (by k_mem) (all_cons (by k_mem) (fun q hq => ?_)))))))
    exact List.mem_cons_of_mem _ (List.mem_cons_of_mem _ (List.mem_cons_of_mem _ (List.mem_cons_of_mem _ (List.mem_cons_of_mem _ (List.mem_cons_of_mem _ hq)))))
  refine put_cell (c := L + 6) rfl (by rfl) (by rfl) d6 N1 ?_ F ?_
  · exact off_cons (by show L + 5 ≠ L + 6; omega) (off_cons (by show L + 7 ≠ L + 6; omega) (off_cons (by show L + 8 ≠ L + 6; omega) (off_cons (Ne.symm hap.r6) (off_cons (Ne.symm hap.u6) (off_of koff (by simp))))))
  intro h1 o6' d6' F1 N2
  have e0 : (0 : Int) + (i : Int) = (i : Nat) := Int.zero_add _
  rw [e0] at d6'
  obtain ⟨lr, lu⟩ := told_len hT
  have lp := inRow_len c.f0 c.f1 t i
  rw [List.length_append] at lr lu
  refine j_body w mean mg mb fa cd h₀ L m₁ _ _ B X T c hn hap t i ht hi (tl ++ K₀ ++ own) (hK.mono fun p hp => List.mem_append_left _ (List.mem_append_right _ hp)) koff R U rn un (by omega) (by omega) (hm.same S1) o5 o6' o7 o8 t5 tb v7 v8 d5 d6' d7 d8 (news_perm N2 ?_) F1 ?_
  · refine all_cons (by k_mem) (all_cons (by k_mem) (all_cons (by k_mem) (all_cons (by k_mem) (all_cons (by k_mem) (all_cons (by k_mem) (fun q hq => ?_))))))
    exact List.mem_cons_of_mem _ (List.mem_cons_of_mem _ (List.mem_cons_of_mem _ (List.mem_cons_of_mem _ (List.mem_cons_of_mem _ (List.mem_cons_of_mem _ hq)))))
  intro h2 tk2 m2 o7' o8' v7' v8' R' U' add rn' un' S2 d7' d8' la lb hg F2 N3
  have hi2 : High L c K₀ (add ++ tl) := ⟨fun p hp q hq => (List.mem_append.mp hq).elim (fun hq => la p (List.mem_append_left _ (List.mem_append_right _ hp)) q hq) (fun hq => hh.1 p hp q hq), fun q hq => (List.mem_append.mp hq).elim (lb q) (hh.2 q)⟩
  have hT2 : Told c ((add ++ tl) ++ K₁) R' U' (P ++ inRow c.f0 c.f1 t (i + 1)) := by
    have := hT.grown hg
    rw [inRow_succ, ← List.append_assoc P, List.append_assoc add]
    exact this
  refine InvEndG.intro F2 N3 (nx := Zed L c o5 o6' o7' o8' R' U' rn' un' ((add ++ tl) ++ K₀)) ⟨o6', o7', o8', _, v7', v8', R', U', rn', un', add ++ tl, rfl, d6', d7', d8', fun z a b c d => (S2 z a b c d).trans (S1 z a b c d), hi2, hT2⟩ ?_ ?_ ?_
  · intro p hp b hb
    simp only [List.map_cons, List.map_append] at hb
    have lo : ∀ q ∈ add, p.1 < q.1 := la p (List.mem_append_right _ hp)
    have o1 := own1 p hp
    have o2 := own2 p hp
    simp only [List.map_append] at o2
    simp only [List.mem_cons, List.mem_append] at hb
    rcases hb with rfl | rfl | rfl | rfl | rfl | rfl | (hb | hb) | hb
    · exact o1 _ (by simp)
    · exact o1 _ (by simp)
    · exact o1 _ (by simp)
    · exact o1 _ (by simp)
    · exact o1 _ (by simp)
    · exact o1 _ (by simp)
    · obtain ⟨q, hq, rfl⟩ := List.mem_map.mp hb
      exact Nat.ne_of_lt (lo q hq)
    · exact o2 b (List.mem_append_left _ hb)
    · exact o2 b (List.mem_append_right _ hb)
  · refine all_cons (by k_mem) (all_cons (by k_mem) (all_cons (by k_mem) (all_cons (by k_mem) (all_cons (by k_mem) (all_cons (by k_mem) (fun q hq => ?_))))))
    refine List.mem_cons_of_mem _ (List.mem_cons_of_mem _ (List.mem_cons_of_mem _ (List.mem_cons_of_mem _ (List.mem_cons_of_mem _ (List.mem_cons_of_mem _ ?_)))))
    simp only [List.mem_append] at hq ⊢
    rcases hq with (h | h) | h
    · exact .inl h
    · exact .inr (.inl (.inl h))
    · exact .inr (.inl (.inr h))
  · intro q hq
    exact List.mem_cons_of_mem _ (List.mem_cons_of_mem _ (List.mem_cons_of_mem _ (List.mem_cons_of_mem _ (List.mem_cons_of_mem _ (List.mem_cons_of_mem _ (List.mem_append_right _ (List.mem_append_right _ hq)))))))
end Mine
end
-- part J5
section
open PySem.Spec
namespace Mine
set_option maxRecDepth 100000
set_option maxHeartbeats 8000000
def forIter : Stmt → PySem.Expr
  | .For _ it _ _ _ => it
  | _ => .Name (Str.ofString "") ⟨0, 0, 0, 0⟩
/-- range(4) -/
theorem range4 (w : World) (mean : ExcName → Option Value) (mg mb : Str → Option Value) (fa : Addr) (cd : Value) (h₀ : Heap) (L : Nat) (m : Str → Option Value) (s : Shared) (news : List (Addr × Obj)) (X : (hd.heap_39 w.params).In h₀) (T : Top hd.view_39 (looseW hd.view_39 [Str.ofString "Whitespace"]) mean mg mb h₀)
   (N : News h₀ L s.heap news) (F : Fr h₀ L s.heap (fun y => m y)) (it : PySem.Expr) (hit : it = forIter (st 10) ∨ it = forIter (nthS 0 (forBody (st 10)))) :
   wpAny (model PySem.Challenge.rw_pu0052_01.row.prog w) (callerA.deeper (envOfC (Str.ofString "law") lawScope L fa cd)) (eval it (envOfC (Str.ofString "law") lawScope L fa cd)) (fun xv s₁ => Hold (∃ r t u v h tk, xv = .ref r ∧ s₁ = { s with heap := h, toks := tk } ∧ IsRange h r 0 4 1 t u v ∧ Fr h₀ L h m ∧ News h₀ L h news)) (fun _ _ => False) s := by
  revert X; k_fill; intro X
  rcases hit with rfl | rfl
  · conv in (forIter _) => whnf
    k_steps
    exact ⟨_, _, _, _, _, _, rfl, rfl, by assumption, by k_asm, by k_asm⟩
  · conv in (forIter _) => whnf
    k_steps
    exact ⟨_, _, _, _, _, _, rfl, rfl, by assumption, by k_asm, by k_asm⟩
/-- the loop over the blanks -/
theorem j_inner (w : World) (mean : ExcName → Option Value) (mg mb : Str → Option Value) (fa : Addr) (cd : Value) (h₀ : Heap) (L : Nat) (m₀ m : Str → Option Value) (s : Shared) (Q : Flow → Shared → Prop) (B : Below callerA h₀ [] h₀) (X : (hd.heap_39 w.params).In h₀) (T : Top hd.view_39 (looseW hd.view_39 [Str.ofString "Whitespace"]) mean mg mb h₀)
   (c : Cst) (hn : Num c) (hap : Apart L c) (t : Nat) (ht : t < 4) (hm : FOk c m₀) (o5 : Obj) (t5 : Tok) (d5 : o5.data = .cell (some (.int (t : Nat) t5))) (P : List (Nat × Nat)) (hP : P.length ≤ 16) (K₀ K₁ : List (Addr × Obj)) (hK : Kon w L c K₀) (hoff : OwnOff K₀ [L + 5, L + 6, L + 7, L + 8, c.rA, c.uA]) (nx : List (Addr × Obj))
   (hJ : Jin L c m₀ K₀ K₁ o5 P m nx) (N : News h₀ L s.heap nx) (F : Fr h₀ L s.heap m)
   (hQ : ∀ h' tk' m' nx', Jin L c m₀ K₀ K₁ o5 (P ++ inRow c.f0 c.f1 t 4) m' nx' → Fr h₀ L h' m' → News h₀ L h' nx' → Q .next { s with heap := h', toks := tk' }) :
   wpAny (model PySem.Challenge.rw_pu0052_01.row.prog w) (callerA.deeper (envOfC (Str.ofString "law") lawScope L fa cd)) (exec (nthS 0 (forBody (st 10))) (envOfC (Str.ofString "law") lawScope L fa cd)) Q (fun _ _ => False) s := by
  obtain ⟨p1, p2, e⟩ : ∃ p1 p2, nthS 0 (forBody (st 10)) = .For (.Name (Str.ofString "blanks") p1) (forIter (nthS 0 (forBody (st 10)))) (forBody (nthS 0 (forBody (st 10)))) [] p2 := ⟨_, _, rfl⟩
  rw [e]
  refine For_any h₀ (wpAny_mono (range4 w mean mg mb fa cd h₀ L m s nx X T N F _ (.inr rfl)) ?_ (fun _ _ h => h))
  rintro xv s₁ ⟨r, x, u, v, h1, tk1, rfl, rfl, hr, F1, N1⟩
  refine it_range (n := 4) (fun i => Jin L c m₀ K₀ K₁ o5 (P ++ inRow c.f0 c.f1 t i)) rfl hr (by decide) (by rfl) F1 N1 ?_ (j_turn w mean mg mb fa cd h₀ L m₀ _ Q B X T c hn hap t ht hm o5 t5 d5 P hP K₀ K₁ hK hoff) ?_
  · show Jin L c m₀ K₀ K₁ o5 (P ++ inRow c.f0 c.f1 t 0) m nx
    rw [show inRow c.f0 c.f1 t 0 = [] from rfl, List.append_nil]
    exact hJ
  · intro m' nx' h' tk' hJ' F' N'
    exact hQ h' tk' m' nx' hJ' F' N'
/-- what holds between the turns of the loop over the tabs -/
def Jout (L : Nat) (c : Cst) (m₀ : Str → Option Value) (K₀ K₁ : List (Addr × Obj)) (P : List (Nat × Nat)) (m : Str → Option Value) (nx : List (Addr × Obj)) : Prop := ∃ o5 v5, o5.data = .cell v5 ∧ Jin L c m₀ K₀ K₁ o5 P m nx
theorem j_tabs (w : World) (mean : ExcName → Option Value) (mg mb : Str → Option Value) (fa : Addr) (cd : Value) (h₀ : Heap) (L : Nat) (m₀ : Str → Option Value) (s : Shared) (Q : Flow → Shared → Prop) (B : Below callerA h₀ [] h₀) (X : (hd.heap_39 w.params).In h₀) (T : Top hd.view_39 (looseW hd.view_39 [Str.ofString "Whitespace"]) mean mg mb h₀)
   (c : Cst) (hn : Num c) (hap : Apart L c) (hm : FOk c m₀) (K₀ K₁ : List (Addr × Obj)) (hK : Kon w L c K₀) (hoff : OwnOff K₀ [L + 5, L + 6, L + 7, L + 8, c.rA, c.uA]) :
   TurnC PySem.Challenge.rw_pu0052_01.row.prog w (callerA.deeper (envOfC (Str.ofString "law") lawScope L fa cd)) h₀ (envOfC (Str.ofString "law") lawScope L fa cd) (Str.ofString "tabs") (forBody (st 10)) Q (fun _ _ => False) s 4 (fun i v => ∃ t, v = .int (0 + (i : Int)) t) (fun i => Jout L c m₀ K₀ K₁ (inAll c.f0 c.f1 i)) := by
  rintro i v m₁ nx h tk own hi ⟨tb, rfl⟩ hown ⟨o5, v5, d5, o6, o7, o8, v6, v7, v8, R, U, rn, un, tl, rfl, d6, d7, d8, S1, hh, hT⟩ F N
  have own1 : OwnOff own [L + 5, L + 6, L + 7, L + 8, c.rA, c.uA] := off_sub hown (by
    intro b hb
    simp only [List.map_cons]
    simp only [List.mem_cons, List.not_mem_nil, or_false] at hb ⊢
    rcases hb with h | h | h | h | h | h <;> simp [h])
  have own2 : OwnOff own ((tl ++ K₀).map (·.1)) := off_sub hown (by
    intro b hb
    simp only [List.map_cons]
    exact List.mem_cons_of_mem _ (List.mem_cons_of_mem _ (List.mem_cons_of_mem _ (List.mem_cons_of_mem _ (List.mem_cons_of_mem _ (List.mem_cons_of_mem _ hb))))))
  have koff : OwnOff (tl ++ K₀ ++ own) [L + 5, L + 6, L + 7, L + 8, c.rA, c.uA] := off_app (off_app hh.off hoff) own1
  refine put_cell (c := L + 5) (rest := (L + 6, o6) :: (L + 7, o7) :: (L + 8, o8) :: (c.rA, listOf (R.map Row.v).toArray rn) :: (c.uA, listOf (U.map Row.v).toArray un) :: (tl ++ K₀ ++ own)) rfl (by rfl) (by rfl) d5 N ?_ F ?_
  · exact off_cons (by show L + 6 ≠ L + 5; omega) (off_cons (by show L + 7 ≠ L + 5; omega) (off_cons (by show L + 8 ≠ L + 5; omega) (off_cons (Ne.symm hap.r5) (off_cons (Ne.symm hap.u5) (off_of koff (by simp))))))
  intro h1 o5' d5' F1 N2
  have e0 : (0 : Int) + (i : Int) = (i : Nat) := Int.zero_add _
  rw [e0] at d5'
  have e1 : forBody (st 10) = [nthS 0 (forBody (st 10))] := rfl
  rw [e1]
  refine wpAny_execs_cons ?_
  have hP := inAll_len c.f0 c.f1 i
  refine j_inner w mean mg mb fa cd h₀ L m₀ m₁ _ _ B X T c hn hap i hi hm o5' tb d5' (inAll c.f0 c.f1 i) (by omega) (tl ++ K₀ ++ own) (tl ++ K₁) (hK.mono fun p hp => List.mem_append_left _ (List.mem_append_right _ hp)) koff _ ⟨o6, o7, o8, v6, v7, v8, R, U, rn, un, [], rfl, d6, d7, d8, S1, ⟨fun _ _ _ h => (nomatch h), fun _ h => (nomatch h)⟩, hT⟩ N2 F1 ?_
  rintro h2 tk2 m2 nx2 ⟨o6', o7', o8', v6', v7', v8', R', U', rn', un', add, rfl, d6', d7', d8', S2, hh2, hT2⟩ F2 N3
  refine wpAny_execs_nil ?_
  have hi2 : High L c K₀ (add ++ tl) := ⟨fun p hp q hq => (List.mem_append.mp hq).elim (fun hq => hh2.1 p (List.mem_append_left _ (List.mem_append_right _ hp)) q hq) (fun hq => hh.1 p hp q hq), fun q hq => (List.mem_append.mp hq).elim (hh2.2 q) (hh.2 q)⟩
  have sub : ∀ p ∈ (add ++ tl) ++ K₀, p ∈ add ++ (tl ++ K₀ ++ own) := by
    intro p hp
    simp only [List.mem_append] at hp ⊢
    rcases hp with (h | h) | h
    · exact .inl h
    · exact .inr (.inl (.inl h))
    · exact .inr (.inl (.inr h))
  refine InvEndG.intro F2 N3 (nx := Zed L c o5' o6' o7' o8' R' U' rn' un' ((add ++ tl) ++ K₀)) ⟨o5', _, d5', o6', o7', o8', v6', v7', v8', R', U', rn', un', add ++ tl, rfl, d6', d7', d8', S2, hi2, by rw [inAll_succ, List.append_assoc add]; exact hT2⟩ ?_ ?_ ?_
  · intro p hp b hb
    simp only [List.map_cons, List.map_append] at hb
    have lo : ∀ q ∈ add, p.1 < q.1 := hh2.1 p (List.mem_append_right _ hp)
    have o1 := own1 p hp
    have o2 := own2 p hp
    simp only [List.map_append] at o2
    simp only [List.mem_cons, List.mem_append] at hb
    rcases hb with rfl | rfl | rfl | rfl | rfl | rfl | (hb | hb) | hb
    · exact o1 _ (by simp)
    · exact o1 _ (by simp)
    · exact o1 _ (by simp)
    · exact o1 _ (by simp)
    · exact o1 _ (by simp)
    · exact o1 _ (by simp)
    · obtain ⟨q, hq, rfl⟩ := List.mem_map.mp hb
      exact Nat.ne_of_lt (lo q hq)
    · exact o2 b (List.mem_append_left _ hb)
    · exact o2 b (List.mem_append_right _ hb)
  · refine all_cons (by k_mem) (all_cons (by k_mem) (all_cons (by k_mem) (all_cons (by k_mem) (all_cons (by k_mem) (all_cons (by k_mem) (fun q hq => ?_))))))
    exact List.mem_cons_of_mem _ (List.mem_cons_of_mem _ (List.mem_cons_of_mem _ (List.mem_cons_of_mem _ (List.mem_cons_of_mem _ (List.mem_cons_of_mem _ (sub q hq))))))
  · intro q hq
    exact List.mem_cons_of_mem _ (List.mem_cons_of_mem _ (List.mem_cons_of_mem _ (List.mem_cons_of_mem _ (List.mem_cons_of_mem _ (List.mem_cons_of_mem _ (List.mem_append_right _ (List.mem_append_right _ hq)))))))
/-- the law's loops over the places -/
theorem j_outer (w : World) (mean : ExcName → Option Value) (mg mb : Str → Option Value) (fa : Addr) (cd : Value) (h₀ : Heap) (L : Nat) (m : Str → Option Value) (s : Shared) (Q : Flow → Shared → Prop) (B : Below callerA h₀ [] h₀) (X : (hd.heap_39 w.params).In h₀) (T : Top hd.view_39 (looseW hd.view_39 [Str.ofString "Whitespace"]) mean mg mb h₀)
   (c : Cst) (hn : Num c) (hap : Apart L c) (hm : FOk c m) (K₀ : List (Addr × Obj)) (hK : Kon w L c K₀) (hoff : OwnOff K₀ [L + 5, L + 6, L + 7, L + 8, c.rA, c.uA])
   (o5 o6 o7 o8 : Obj) (v5 v6 v7 v8 : Option Value) (d5 : o5.data = .cell v5) (d6 : o6.data = .cell v6) (d7 : o7.data = .cell v7) (d8 : o8.data = .cell v8) (rn un : Nat)
   (N : News h₀ L s.heap (Zed L c o5 o6 o7 o8 [] [] rn un K₀)) (F : Fr h₀ L s.heap m)
   (hQ : ∀ h' tk' m' o5' o6' o7' o8' v5' v6' v7' v8' R U rn' un' tl, o5'.data = .cell v5' → o6'.data = .cell v6' → o7'.data = .cell v7' → o8'.data = .cell v8' → Same m m' → High L c K₀ tl → Told c tl R U (inAll c.f0 c.f1 4) → Fr h₀ L h' m' → News h₀ L h' (Zed L c o5' o6' o7' o8' R U rn' un' (tl ++ K₀)) → Q .next { s with heap := h', toks := tk' }) :
   wpAny (model PySem.Challenge.rw_pu0052_01.row.prog w) (callerA.deeper (envOfC (Str.ofString "law") lawScope L fa cd)) (exec (st 10) (envOfC (Str.ofString "law") lawScope L fa cd)) Q (fun _ _ => False) s := by
  obtain ⟨p1, p2, e⟩ : ∃ p1 p2, st 10 = .For (.Name (Str.ofString "tabs") p1) (forIter (st 10)) (forBody (st 10)) [] p2 := ⟨_, _, rfl⟩
  rw [e]
  refine For_any h₀ (wpAny_mono (range4 w mean mg mb fa cd h₀ L m s _ X T N F _ (.inl rfl)) ?_ (fun _ _ h => h))
  rintro xv s₁ ⟨r, x, u, v, h1, tk1, rfl, rfl, hr, F1, N1⟩
  refine it_range (n := 4) (fun i => Jout L c m K₀ [] (inAll c.f0 c.f1 i)) rfl hr (by decide) (by rfl) F1 N1 ?_ (j_tabs w mean mg mb fa cd h₀ L m _ Q B X T c hn hap hm K₀ [] hK hoff) ?_
  · exact ⟨o5, v5, d5, o6, o7, o8, v6, v7, v8, [], [], rn, un, [], rfl, d6, d7, d8, Same.refl, ⟨fun _ _ _ h => (nomatch h), fun _ h => (nomatch h)⟩, rfl, rfl, fun _ h => (nomatch h), fun _ h => (nomatch h)⟩
  · rintro m' nx' h' tk' ⟨o5', v5', d5', o6', o7', o8', v6', v7', v8', R, U, rn', un', tl, rfl, d6', d7', d8', S, hh, hT⟩ F' N'
    rw [List.append_nil] at hT
    exact hQ h' tk' m' o5' o6' o7' o8' v5' v6' v7' v8' R U rn' un' tl d5' d6' d7' d8' S hh hT F' N'
end Mine
end
-- part LT
section
namespace Mine
set_option maxRecDepth 100000
/-- three ints before three others -/
def lex3 (x1 x2 x3 y1 y2 y3 : Int) : Bool := if x1 = y1 then (if x2 = y2 then decide (x3 < y3) else decide (x2 < y2)) else decide (x1 < y1)
section
variable {prog : Program} {w : World} {A : Around} {E : Value → Shared → Prop} {s : Shared}
theorem lt3_tree {x1 x2 x3 y1 y2 y3 : Int} {t1 t2 t3 u1 u2 u3 : Tok} {a b : Addr} {P : PySem.Fin → Shared → Prop} (ha : s.heap.get? a = some { cls := .type "tuple", data := .seq #[.int x1 t1, .int x2 t2, .int x3 t3] 0 }) (hb : s.heap.get? b = some { cls := .type "tuple", data := .seq #[.int y1 u1, .int y2 u2, .int y3 u3] 0 })
    (h : P (.done (.ret (.bool (lex3 x1 x2 x3 y1 y2 y3)))) s) : wpAny (model prog w) A (Builtin.«tuple.__lt__» ⟨[.ref a, .ref b], []⟩) P E s := by
  show wpAny _ _ (isInstance (.ref b) (.type "tuple") >>= _) _ _ s
  refine wpAny_bind (wpAny_isInstance (b := true) ⟨_, hb, rfl⟩ isSubtype_tuple_tuple ?_)
  simp only [Bool.not_true, Bool.false_eq_true, if_false]
  refine wpAny_bind (wpAny_tupleItemsOf ha rfl ?_)
  refine wpAny_bind (wpAny_tupleItemsOf hb rfl ?_)
  refine wpAny_bind ?_
  simp only [List.zip_cons_cons, List.zip_nil_left, List.forIn_cons, List.forIn_nil]
  have gt : ∀ (x y : Int) (t u : Tok) (Q : Value → Shared → Prop), Q (.bool (decide (x < y))) s → wpAny (model prog w) A (richCompare .Lt (.int x t) (.int y u)) Q E s := fun x y t u Q hq => wpAny_lt_int hq
  unfold lex3 at h
  refine wpAny_bind (wpAny_bind (wpAny_eqBool_int ?_))
  by_cases e1 : x1 = y1
  · rw [if_pos e1] at h
    rw [if_neg (by simp [e1])]
    refine wpAny_pure ?_
    refine wpAny_bind (wpAny_bind (wpAny_eqBool_int ?_))
    by_cases e2 : x2 = y2
    · rw [if_pos e2] at h
      rw [if_neg (by simp [e2])]
      refine wpAny_pure ?_
      refine wpAny_bind (wpAny_bind (wpAny_eqBool_int ?_))
      by_cases e3 : x3 = y3
      · rw [if_neg (by simp [e3])]
        refine wpAny_pure (wpAny_pure (wpAny_pure ?_))
        have e : decide (x3 < y3) = false := decide_eq_false (by omega)
        rw [e] at h
        exact h
      · rw [if_pos (by simp [e3])]
        refine wpAny_bind (wpAny_rule (wpAny_bind (gt _ _ _ _ _ ?_)))
        exact wpAny_bind (wpAny_pure (wpAny_pure (wpAny_pure (wpAny_pure h))))
    · rw [if_neg e2] at h
      rw [if_pos (by simp [e2])]
      refine wpAny_bind (wpAny_rule (wpAny_bind (gt _ _ _ _ _ ?_)))
      exact wpAny_bind (wpAny_pure (wpAny_pure (wpAny_pure (wpAny_pure h))))
  · rw [if_neg e1] at h
    rw [if_pos (by simp [e1])]
    refine wpAny_bind (wpAny_rule (wpAny_bind (gt _ _ _ _ _ ?_)))
    exact wpAny_bind (wpAny_pure (wpAny_pure (wpAny_pure (wpAny_pure h))))
theorem lt3 {x1 x2 x3 y1 y2 y3 : Int} {t1 t2 t3 u1 u2 u3 : Tok} {a b : Addr} {Q : Value → Shared → Prop} (ha : s.heap.get? a = some { cls := .type "tuple", data := .seq #[.int x1 t1, .int x2 t2, .int x3 t3] 0 }) (hb : s.heap.get? b = some { cls := .type "tuple", data := .seq #[.int y1 u1, .int y2 u2, .int y3 u3] 0 })
    (hu : A.units < cLine) (h : Q (.bool (lex3 x1 x2 x3 y1 y2 y3)) s) : wpAny (model prog w) A (richCompare .Lt (.ref a) (.ref b)) Q E s :=
  wpAny_richCompare_same_room (op := .Lt) (T := "tuple") ⟨_, ha, rfl⟩ ⟨_, hb, rfl⟩ PySem.F.slot_tuple_lt (wpAny_call_entry PySem.F.slot_tuple_lt ⟨_, ha, rfl⟩ PySem.F.entry_tuple_lt (lt3_tree ha hb ⟨_, rfl, (fun e => nomatch e), h⟩) (PySem.F.args_tuple_lt_2 _ _)) hu
end
end Mine
end
-- part MN
section
open PySem.Calls
namespace Mine
set_option maxRecDepth 100000
section
variable {prog : Program} {w : World} {A : Around} {R : Result → Shared → Prop} {I S : Addr} {fp wr : List Addr} {n : Nat} {P : Nat → Value → Prop} {St : Nat → Heap → Prop}
/-- what a comparison may lean on of the heap -/
def CmpG (prog : Program) (w : World) (A : Around) (G : Heap → Prop) (P : Nat → Value → Prop) (bt : Nat → Nat → Bool) : Prop :=
  ∀ i j vi vj (s : Shared) (Q : Value → Shared → Prop) (E : Value → Shared → Prop), G s.heap → P i vi → P j vj → Q (.bool (bt i j)) s → wpAny (model prog w) A (richCompare .Lt vi vj) Q E s
/-- all that stood stands, but for the iterator and the scratch list -/
def Kept (wr : List Addr) (S : Addr) (h h' : Heap) : Prop := ∀ b o, b ∉ wr → b ≠ S → h.get? b = some o → h'.get? b = some o
theorem Kept.trans {h₁ h₂ h₃ : Heap} (a : Kept wr S h₁ h₂) (b : Kept wr S h₂ h₃) : Kept wr S h₁ h₃ := fun x o hw hS e => b x o hw hS (a x o hw hS e)
theorem min_name : (toString "min" ++ toString ".loop" : String) = "min.loop" := by decide
theorem min_go (W : Walks prog w A.in1 I fp wr n P St) (bt : Nat → Nat → Bool) (G : Heap → Prop) (hG : ∀ h h', G h → Kept wr S h h' → G h') (hc : CmpG prog w A.in1 G P bt) (hSf : S ∉ fp) :
    ∀ (k j : Nat) (s : Shared) (vb : Value) (c : Nat), j + 1 + k = n → St (j + 1) s.heap → G s.heap → P (argBest bt j) vb → s.heap.get? S = some { cls := .type "list", dict := none, data := .seq #[vb, vb] c, slots := #[] } →
      (∀ v h' tk, P (argBest bt (n - 1)) v → Kept wr S s.heap h' → R (.ok (.ret v)) { s with heap := h', toks := tk }) →
      codeAny (model prog w) A (.builtin "min.loop" ⟨[.ref I, .none, .ref S], []⟩) R s := by
  have hSw : S ∉ wr := fun h => hSf (W.sub _ h)
  have upd : ∀ (h : Heap) (f : Obj → Obj), Kept wr S h (h.update S f) := fun h f b o _ hb e => (Heap.get?_update_other _ _ (Ne.symm hb)).trans e
  intro k
  induction k with
  | zero =>
    intro j s vb c hk hst hg hP hS hR
    have hn : j + 1 = n := hk
    refine codeAny_builtin PySem.F.entry_min_loop ?_
    rw [Around.under_plainId PySem.F.plain_min_loop _]
    refine wpAny_bind (wpAny_seqItems hS rfl ?_)
    refine wpAny_bind (wpAny_tryCatch (W.done s _ _ (hn ▸ hst) fun h' tk hk' => ?_))
    refine wpAny_bind (wpAny_updateSeq (hk' S _ hSw hS) rfl (wpAny_bind (wpAny_letGo (wpAny_pure ?_))))
    have e : n - 1 = j := by omega
    exact hR vb _ tk (e ▸ hP) (Kept.trans (fun b o hw _ e => hk' b o hw e) (upd _ _))
  | succ k ih =>
    intro j s vb c hk hst hg hP hS hR
    refine codeAny_builtin PySem.F.entry_min_loop ?_
    rw [Around.under_plainId PySem.F.plain_min_loop _]
    refine wpAny_bind (wpAny_seqItems hS rfl ?_)
    refine wpAny_bind (wpAny_tryCatch (W.item (j + 1) s _ _ (by omega) hst fun v h' tk hPv hst' hk' => ?_))
    have hS' := hk' S _ hSw hS
    have kp : Kept wr S s.heap h' := fun b o hw _ e => hk' b o hw e
    show wpAny _ A.in1 (tryCatch (holding [v, v] (richCompare .Lt v vb >>= _)) _ >>= _) _ _ _
    refine wpAny_bind (wpAny_tryCatch (wpAny_holding (wpAny_bind (hc (j + 1) (argBest bt j) v vb _ _ _ (hG _ _ hg kp) hPv hP ?_))))
    refine wpAny_bind (wpAny_holding (wpAny_truthy_bool ?_))
    refine wpAny_bind (wpAny_letGo (wpAny_pure ?_))
    have eb : argBest bt (j + 1) = if bt (j + 1) (argBest bt j) then j + 1 else argBest bt j := rfl
    cases hb : bt (j + 1) (argBest bt j) with
    | true =>
      rw [hb, if_pos rfl] at eb
      simp only [if_true]
      refine wpAny_bind (wpAny_updateSeq hS' rfl (wpAny_bind (wpAny_letGo ?_)))
      rw [min_name]
      refine wpAny_pure ⟨plainId_quiet PySem.F.plain_min_loop _, ih (j + 1) _ v _ (by omega) (W.frame _ _ _ hst' fun b hbf o e => ?_) (hG _ _ (hG _ _ hg kp) (upd _ _)) (by rw [eb]; exact hPv) (Heap.get?_update_self _ hS' rfl) fun v' h'' tk'' hP' hk'' => ?_⟩
      · exact (Heap.get?_update_other _ _ (fun h : S = b => hSf (h ▸ hbf))).trans e
      · exact hR v' h'' tk'' hP' ((kp.trans (upd _ _)).trans hk'')
    | false =>
      rw [hb, if_neg Bool.false_ne_true] at eb
      simp only [Bool.false_eq_true, if_false]
      refine wpAny_bind (wpAny_letGo ?_)
      rw [min_name]
      exact wpAny_pure ⟨plainId_quiet PySem.F.plain_min_loop _, ih (j + 1) _ vb c (by omega) hst' (hG _ _ hg kp) (by rw [eb]; exact hP) hS' fun v' h'' tk'' hP' hk'' => hR v' h'' tk'' hP' (kp.trans hk'')⟩
theorem min_first (W : Walks prog w A.in1 I fp wr n P St) (bt : Nat → Nat → Bool) (G : Heap → Prop) (hG : ∀ h h', G h → Kept wr S h h' → G h') (hc : CmpG prog w A.in1 G P bt) (hSf : S ∉ fp) (hn : 0 < n) {s : Shared} {c : Nat} (hst : St 0 s.heap) (hg : G s.heap)
    (hS : s.heap.get? S = some { cls := .type "list", dict := none, data := .seq #[] c, slots := #[] })
    (hR : ∀ v h' tk, P (argBest bt (n - 1)) v → Kept wr S s.heap h' → R (.ok (.ret v)) { s with heap := h', toks := tk }) :
    codeAny (model prog w) A (.builtin "min.loop" ⟨[.ref I, .none, .ref S], []⟩) R s := by
  have hSw : S ∉ wr := fun h => hSf (W.sub _ h)
  have upd : ∀ (h : Heap) (f : Obj → Obj), Kept wr S h (h.update S f) := fun h f b o _ hb e => (Heap.get?_update_other _ _ (Ne.symm hb)).trans e
  refine codeAny_builtin PySem.F.entry_min_loop ?_
  rw [Around.under_plainId PySem.F.plain_min_loop _]
  refine wpAny_bind (wpAny_seqItems hS rfl ?_)
  refine wpAny_bind (wpAny_tryCatch (W.item 0 s _ _ hn hst fun v h' tk hPv hst' hk' => ?_))
  have kp : Kept wr S s.heap h' := fun b o hw _ e => hk' b o hw e
  have hS' := hk' S _ hSw hS
  show wpAny _ A.in1 (updateSeq S (fun _ => #[v, v]) >>= _) _ _ _
  refine wpAny_bind (wpAny_updateSeq hS' rfl ?_)
  rw [min_name]
  refine wpAny_pure ⟨plainId_quiet PySem.F.plain_min_loop _, min_go W bt G hG hc hSf (n - 1) 0 _ v _ (by omega) (W.frame _ _ _ hst' fun b hbf o e => ?_) (hG _ _ (hG _ _ hg kp) (upd _ _)) hPv (Heap.get?_update_self _ hS' rfl) fun v' h'' tk'' hP' hk'' => ?_⟩
  · exact (Heap.get?_update_other _ _ (fun h : S = b => hSf (h ▸ hbf))).trans e
  · exact hR v' h'' tk'' hP' ((kp.trans (upd _ _)).trans hk'')
end
section
variable {prog : Program} {w : World} {A : Around} {E : Value → Shared → Prop} {s : Shared} {h₀ : Heap} {L : Addr} {m : Str → Option Value} {news : List (Addr × Obj)}
/-- min of a list of the ledger, by a comparison that leans on the ledger -/
theorem min_ledger {l : Addr} {its : Array Value} {k : Nat} {Q : Value → Shared → Prop} (bt : Nat → Nat → Bool) (hh : A.handled = none) (F : Fr h₀ L s.heap m) (N : News h₀ L s.heap news) (hl : (l, listOf its k) ∈ news) (hn : 0 < its.size)
    (hc : ∀ i j vi vj (s' : Shared) (Q : Value → Shared → Prop) (E : Value → Shared → Prop), News h₀ L s'.heap news → its[i]? = some vi → its[j]? = some vj → Q (.bool (bt i j)) s' → wpAny (model prog w) A.in1 (richCompare .Lt vi vj) Q E s')
    (h : ∀ v h' tk, its[argBest bt (its.size - 1)]? = some v → Fr h₀ L h' m → News h₀ L h' news → Q v { s with heap := h', toks := tk }) :
    wpAny (model prog w) A (call (.builtin "min") [.ref l]) Q E s := by
  have hls : s.heap.IsList l its := ⟨_, (N _ hl).1, rfl, k, rfl⟩
  have hlt := Heap.lt_size (N _ hl).1
  refine call_function_tree PySem.F.kind_min PySem.F.plain_min PySem.F.entry_min (PySem.F.args_min1 _) ?_
  show wpAny _ A.in1 (Builtin.Builtins.bindParams "min" ["key", "default"] 0 ⟨[], []⟩ >>= _) _ _ s
  refine wpAny_bind (wpAny_of_eq (show Builtin.Builtins.bindParams "min" ["key", "default"] 0 ⟨[], []⟩ = pure [none, none] from rfl) ?_)
  refine wpAny_bind (wpAny_pure ?_)
  refine wpAny_bind (wpAny_pyIter_list hls ?_)
  refine wpAny_bind (wpAny_newObj_type ?_)
  rw [min_name]
  have old : ∀ b o, s.heap.get? b = some o → b ∉ [s.heap.objs.size] := fun b o e hb => Nat.lt_irrefl _ ((List.mem_singleton.mp hb) ▸ Heap.lt_size e)
  generalize hit : ({ cls := .type "list_iterator", data := .fields #[.ref l, .int 0 0] } : Obj) = oI
  have ez : (s.heap.push oI).objs.size = s.heap.objs.size + 1 := Heap.size_push ..
  have N1 : News h₀ L (s.heap.push oI) news := N.grown fun _ _ e => Heap.get?_push_of_some _ e
  have oldS : ∀ b o, s.heap.get? b = some o → b ≠ s.heap.objs.size + 1 := fun b o e h => Nat.lt_irrefl _ (Nat.lt_of_succ_lt (h ▸ Heap.lt_size e))
  rw [ez]
  refine wpAny_pure ⟨plainId_quiet PySem.F.plain_min_loop _, min_first (S := s.heap.objs.size + 1) (Walks.list (A := A.in1) hh s.heap.objs.size l (Nat.ne_of_lt hlt) its) bt (fun g => Kept [s.heap.objs.size] (s.heap.objs.size + 1) s.heap g) (fun g g' a b => a.trans b) ?_ ?_ hn ?_ ?_ (c := 0) ?_ ?_⟩
  · intro i j vi vj s' Q' E' hg hi hj hq
    exact hc i j vi vj s' Q' E' (fun p hp => ⟨hg _ _ (old _ _ (N p hp).1) (oldS _ _ (N p hp).1) (N p hp).1, (N p hp).2⟩) hi hj hq
  · intro hm
    rcases List.mem_cons.mp hm with e | hm
    · exact absurd e (Nat.succ_ne_self _)
    · exact oldS _ _ (N _ hl).1 (List.mem_singleton.mp hm).symm
  · subst hit
    exact ⟨⟨_, Heap.get?_push_of_some _ (Heap.get?_push_size _ rfl), rfl, rfl⟩, (hls.push _).push _⟩
  · exact fun b o _ _ e => Heap.get?_push_of_some _ (Heap.get?_push_of_some _ e)
  · rw [← ez]
    exact Heap.get?_push_size _ rfl
  · intro v h' tk hP hk
    have up : ∀ b o, s.heap.get? b = some o → h'.get? b = some o := fun b o e => hk b o (old b o e) (oldS b o e) (Heap.get?_push_of_some _ (Heap.get?_push_of_some _ e))
    exact h v h' tk hP (F.keeps up) (N.grown up)
end
end Mine
end
-- part PK
section
namespace Mine
set_option maxRecDepth 100000
section
variable {prog : Program} {w : World} {A : Around} {s : Shared} {h₀ : Heap} {L : Addr} {m : Str → Option Value} {env : Env}
/-- a list comprehension whose element makes objects that stay -/
theorem comp_kept {elt : PySem.Expr} {x : Str} {scope : Scope} {cl : List (Str × Addr)} {S : List (Addr × Obj) → Prop} {P : Nat → Value → Prop} {Fin : List Value → List (Addr × Obj) → Prop} {n : Nat} {news : List (Addr × Obj)} (R : Nat → Value → List (Addr × Obj) → Prop) (mono : ∀ i y K K', R i y K → (∀ p ∈ K, p ∈ K') → R i y K') (hS : ∀ add, S (add ++ news))
    (turn : ∀ i v I oI C oC D m₂ ys add h tk (E' : Value → Shared → Prop), i < n → P i v → LCg.NsObj oC m₂ → m₂ x = some v → Fr h₀ L h m → News h₀ L h ((I, oI) :: (C, oC) :: (D, LCg.lst ys) :: (add ++ news)) →
      wpAny (model prog w) A (eval elt (compEnvC scope cl C env)) (fun y s₂ => Hold (∃ h' tk' new, s₂ = { s with heap := h', toks := tk' } ∧ Fr h₀ L h' m ∧ News h₀ L h' ((I, oI) :: (C, oC) :: (D, LCg.lst ys) :: (new ++ (add ++ news))) ∧ (∀ q ∈ new, q.1 ≠ I ∧ q.1 ≠ C ∧ q.1 ≠ D) ∧ R i y new)) E' { s with heap := h, toks := tk })
    (fin : ∀ (ys : List Value) add, ys.length = n → (∀ i y, ys[i]? = some y → R i y add) → Fin ys (add ++ news)) :
    LCg.CompRest prog w A h₀ L m env elt x scope cl s S P Fin n 0 [] news := by
  have go : ∀ k i ys add, i + k = n → ys.length = i → (∀ j y, ys[j]? = some y → R j y add) → LCg.CompRest prog w A h₀ L m env elt x scope cl s S P Fin k i ys (add ++ news) := by
    intro k
    induction k with
    | zero => exact fun i ys add h1 h2 h3 => LCg.CompRest.zero (fin ys add (by omega) h3)
    | succ k ih =>
      intro i ys add h1 h2 h3
      refine LCg.CompRest.succ ?_
      intro v I oI C oC D m₂ h tk E' hP hC hx F N off _
      refine wpAny_mono (turn i v I oI C oC D m₂ ys add h tk E' (by omega) hP hC hx F N) ?_ (fun _ _ e => e)
      rintro y s₂ ⟨h', tk', new, rfl, F', N', hn, hR⟩
      have e : new ++ (add ++ news) = (new ++ add) ++ news := (List.append_assoc _ _ _).symm
      rw [e] at N'
      refine ⟨h', tk', (new ++ add) ++ news, rfl, F', N', ?_, hS _, ih (i + 1) (ys ++ [y]) (new ++ add) (by omega) (by simp [h2]) ?_⟩
      · rw [← e]
        exact LCg.Off3.of fun p hp => (List.mem_append.mp hp).elim (hn p) (LCg.Off3.mem off p)
      · intro j z hz
        rcases Nat.lt_or_ge j ys.length with hj | hj
        · rw [List.getElem?_append_left hj] at hz
          exact mono j z _ _ (h3 j z hz) fun p hp => List.mem_append_right _ hp
        · rw [List.getElem?_append_right hj] at hz
          match hd : j - ys.length, hz with
          | 0, hz =>
            have ej : j = i := by omega
            subst ej
            cases hz
            exact mono _ _ _ _ hR fun p hp => List.mem_append_left _ hp
          | q + 1, hz => simp at hz
  exact go n 0 [] [] (by omega) rfl (fun j y h => by simp at h)
end
end Mine
end
-- part Q1
section
namespace Mine
set_option maxRecDepth 100000
set_option maxHeartbeats 8000000
/-- the TupleComp that the law makes, in the ledger -/
def RuleL (w : World) (x : Nat) (l : List (Addr × Obj)) : Prop := ∃ (d D a b c : Nat) (k z0 z1 z2 z3 z4 z5 : Tok), l = [(x, instObj 45 d), (d, dictOf [{ hash := PyData.keyHash w.params (Str.ofString "comp_select_list"), key := Value.str (Str.ofString "comp_select_list") k, val := Value.ref D }] 1),
  (D, ({ cls := .type "tuple", data := .seq #[.ref a, .ref b, .ref c] 0 } : Obj)), (c, tup2 2 (-1) z4 z5), (b, tup2 1 1 z2 z3), (a, tup2 0 1 z0 z1)]
def RuleIn (w : World) (K : List (Addr × Obj)) (x : Nat) : Prop := ∃ l, RuleL w x l ∧ ∀ p ∈ l, p ∈ K
theorem q11 (w : World) (mean : ExcName → Option Value) (mg mb : Str → Option Value) (fa : Addr) (cd : Value) (h₀ : Heap) (L : Nat) (m : Str → Option Value) (s : Shared) (Q : Flow → Shared → Prop) (B : Below callerA h₀ [] h₀) (X : (hd.heap_39 w.params).In h₀) (T : Top hd.view_39 (looseW hd.view_39 [Str.ofString "Whitespace"]) mean mg mb h₀)
   (rest : List (Addr × Obj)) (N : News h₀ L s.heap rest) (F : Fr h₀ L s.heap (fun y => m y))
   (hQ : ∀ h' tk' x add, RuleIn w add x → (∀ p ∈ rest, ∀ q ∈ add, p.1 < q.1) → Fr h₀ L h' (fun y => if y = Str.ofString "rule" then some (.ref x) else m y) → News h₀ L h' (add ++ rest) → Q .next { s with heap := h', toks := tk' }) :
   wpAny (model PySem.Challenge.rw_pu0052_01.row.prog w) (callerA.deeper (envOfC (Str.ofString "law") lawScope L fa cd)) (exec (st 11) (envOfC (Str.ofString "law") lawScope L fa cd)) Q (fun _ _ => False) s := by
  revert X; k_fill; intro X
  conv in (st 11) => whnf
  k_steps
  rename _ ∧ _ ∧ _ ∧ _ ∧ AllLt _ _ => l5
  rename _ ∧ _ ∧ _ ∧ AllLt _ _ => l4
  rename _ ∧ _ ∧ AllLt _ _ => l3
  rename _ ∧ AllLt _ _ => l2
  rename ∀ p ∈ rest, p.1 < _ => l1
  rename (_ : Nat) < _ => l6
  rename News h₀ _ _ _ => N9
  refine hQ _ _ _ [_, _, _, _, _, _] ?r ?lt (by k_asm) N9
  case r => exact ⟨_, ⟨_, _, _, _, _, _, _, _, _, _, _, _, rfl⟩, fun _ h => h⟩
  case lt =>
    intro p hp
    have g1 := l1 p hp
    have g2 := Nat.lt_trans g1 l2.1
    have g3 := Nat.lt_trans g2 l3.1
    have g4 := Nat.lt_trans g3 l4.1
    have g5 := Nat.lt_trans g4 l5.1
    exact all_cons (Nat.lt_trans g5 l6) (all_cons g5 (all_cons g4 (all_cons g3 (all_cons g2 (all_cons g1 all_nil)))))

end Mine
end
-- part CM
section
namespace Mine
set_option maxRecDepth 100000
set_option maxHeartbeats 8000000
local macro_rules | `(tactic| walk_at "exec For Tuple Attribute cons nil") => `(tactic| (k_here; (rename Fr _ _ _ _ => lF'); (with_unfolding_all refine' For_turns lF' ?_; k_whole)))
noncomputable def cmDef : Stmt := defAt (Str.ofString "compare") (clsAt (Str.ofString "TupleComp") PySem.Challenge.pw_pu0052_01.main.body)
noncomputable def cmScope : Scope := scopeOf cmDef
def cmp3 (c1 s1 t1 c2 s2 t2 : Int) : Int := if c1 < c2 then -1 else if c2 < c1 then 1 else if s1 < s2 then -1 else if s2 < s1 then 1 else if t1 < t2 then 1 else if t2 < t1 then -1 else 0
theorem cm_body (w : World) (mean : ExcName → Option Value) (mg mb : Str → Option Value) (dp un : Nat) (gd : Option (List Code)) (cdv : Value) (outer : List Env) (A₀ : Around) (base h₀ : Heap) (L : Addr) (m : Str → Option Value) (s : Shared) (Q : Flow → Shared → Prop) (B : Below A₀ base outer h₀) (X : (hd.heap_39 w.params).In h₀) (T : Top hd.view_39 (looseW hd.view_39 [Str.ofString "Whitespace"]) mean mg mb h₀) (hdp : dp + 2 < recursionLimit) (hun : un + 20 < cLine)
   (x d D a b c l r : Nat) (k z0 z1 z2 z3 z4 z5 y0 y1 y2 y3 y4 y5 : Tok) (c1 s1 t1 c2 s2 t2 : Int)
   (N : News h₀ L s.heap [(x, instObj 45 d), (d, dictOf [{ hash := PyData.keyHash w.params (Str.ofString "comp_select_list"), key := Value.str (Str.ofString "comp_select_list") k, val := Value.ref D }] 1), (D, ({ cls := .type "tuple", data := .seq #[.ref a, .ref b, .ref c] 0 } : Obj)), (c, tup2 2 (-1) z4 z5), (b, tup2 1 1 z2 z3), (a, tup2 0 1 z0 z1), (l, tup3 c1 s1 t1 y0 y1 y2), (r, tup3 c2 s2 t2 y3 y4 y5)])
   (F : Fr h₀ L s.heap (fun y => if y = Str.ofString "self" then some (.ref x) else if y = Str.ofString "left" then some (.ref l) else if y = Str.ofString "right" then some (.ref r) else m y))
   (hQ : ∀ h' tk' m' t, Fr h₀ L h' m' → News h₀ L h' [(x, instObj 45 d), (d, dictOf [{ hash := PyData.keyHash w.params (Str.ofString "comp_select_list"), key := Value.str (Str.ofString "comp_select_list") k, val := Value.ref D }] 1), (D, ({ cls := .type "tuple", data := .seq #[.ref a, .ref b, .ref c] 0 } : Obj)), (c, tup2 2 (-1) z4 z5), (b, tup2 1 1 z2 z3), (a, tup2 0 1 z0 z1), (l, tup3 c1 s1 t1 y0 y1 y2), (r, tup3 c2 s2 t2 y3 y4 y5)] → Q (.ret (.int (cmp3 c1 s1 t1 c2 s2 t2) t)) { s with heap := h', toks := tk' }) :
   wpAny (model PySem.Challenge.rw_pu0052_01.row.prog w) (ktrTop dp un gd (Str.ofString "TupleComp.compare") cmScope L 42 cdv [] outer) (execs (bodyOf cmDef) (envOf (Str.ofString "TupleComp.compare") cmScope L 42 cdv)) Q (fun _ _ => False) s := by
  revert X; k_fill; intro X
  conv in bodyOf cmDef => whnf
  have hQ' : ∀ h' tk' m' t v, v = cmp3 c1 s1 t1 c2 s2 t2 → Fr h₀ L h' m' → News h₀ L h' _ → Q (.ret (.int v t)) { s with heap := h', toks := tk' } := fun h' tk' m' t v e f n => e ▸ hQ h' tk' m' t f n
  clear hQ
  replace hQ' := Hold.mk hQ'
  k_steps
  all_goals
    (try dsimp only)
    rename News _ _ _ _ => N9
    refine hQ'.out _ _ _ _ _ ?_ (by k_asm) (news_perm N9 (all_cons (by k_mem) (all_cons (by k_mem) (all_cons (by k_mem) (all_cons (by k_mem) (all_cons (by k_mem) (all_cons (by k_mem) (all_cons (by k_mem) (all_cons (by k_mem) all_nil)))))))))
    unfold cmp3
    clear hQ'
    (repeat' split) <;> first | rfl | contradiction
/-- what a call does not know of stays -/
theorem news_call {h₀ h g h' : Heap} {L L' : Addr} {m' : Str → Option Value} {news sub : List (Addr × Obj)} (N : News h₀ L h news) (G : GSub h g (sub.map (·.1))) (hs : ∀ p ∈ sub, p ∈ news) (F' : Fr g L' h' m') (N' : News h₀ L h' sub) : News h₀ L h' news := by
  intro p hp
  by_cases hm : p.1 ∈ sub.map (·.1)
  · obtain ⟨q, hq, e⟩ := List.mem_map.mp hm
    have h1 := (N q (hs q hq)).1
    rw [e, (N p hp).1] at h1
    have e2 : q = p := Prod.ext e (Option.some.inj h1).symm
    exact e2 ▸ N' q hq
  · exact ⟨F'.keep _ _ (G _ _ (N p hp).1 hm), (N p hp).2⟩
/-- contract of TupleComp.compare with the law's rule, upon two triples of the ledger -/
theorem cmp_ok (w : World) (x l r : Nat) (c1 s1 t1 c2 s2 t2 : Int) (y0 y1 y2 y3 y4 y5 : Tok) (news : List (Addr × Obj)) (hx : RuleIn w news x) (hl : (l, tup3 c1 s1 t1 y0 y1 y2) ∈ news) (hr : (r, tup3 c2 s2 t2 y3 y4 y5) ∈ news)
    (mean : ExcName → Option Value) (mg mb : Str → Option Value) (dp un : Nat) (gd : Option (List Code)) (cn : Str) (cs : Scope) (fa : Addr) (ccd : Value) (cl : List (Str × Addr)) (outer : List Env) (A₀ : Around) (base h₀ : Heap) (L : Addr) (m : Str → Option Value) (s : Shared) (Q E : Value → Shared → Prop)
    (B : Below A₀ base outer h₀) (F : Fr h₀ L s.heap m) (X : (hd.heap_39 w.params).In h₀) (N : News h₀ L s.heap news) (T : Top hd.view_39 (looseW hd.view_39 [Str.ofString "Whitespace"]) mean mg mb h₀) (hk : cs.kind = .function)
    (hdp : dp + 5 < recursionLimit) (hun : un + 30 < cLine)
    (hret : ∀ (t : Tok) (h' : Heap) (tk' : Nat), Fr h₀ L h' m → News h₀ L h' news → Q (.int (cmp3 c1 s1 t1 c2 s2 t2) t) { s with heap := h', toks := tk' }) :
    wpAny (model PySem.Challenge.rw_pu0052_01.row.prog w) (ktrTop dp un gd cn cs L fa ccd cl outer) (call (.ref 42) [.ref x, .ref l, .ref r]) Q E s := by
  obtain ⟨_, ⟨d, D, a, b, c, k, z0, z1, z2, z3, z4, z5, rfl⟩, hg⟩ := hx
  revert X; k_fill; intro X
  refine wpAny_call ?_
  have sub : ∀ p ∈ [(x, instObj 45 d), (d, dictOf [{ hash := PyData.keyHash w.params (Str.ofString "comp_select_list"), key := Value.str (Str.ofString "comp_select_list") k, val := Value.ref D }] 1), (D, ({ cls := .type "tuple", data := .seq #[.ref a, .ref b, .ref c] 0 } : Obj)), (c, tup2 2 (-1) z4 z5), (b, tup2 1 1 z2 z3), (a, tup2 0 1 z0 z1)] ++ [(l, tup3 c1 s1 t1 y0 y1 y2), (r, tup3 c2 s2 t2 y3 y4 y5)], p ∈ news := fun p hp => (List.mem_append.mp hp).elim (hg p) (all_cons hl (all_cons hr all_nil) p)
  refine' code_defG ?k1 ?k2 ?k3 (news_perm N sub) ?k5 ?kA ?kF ?kK ?k6 ?k7 ?k8 ?k9 ?kB ?_ ?c2 ?c3 ?c4 ?c5
  case kA => exact rfl
  case kF => exact rfl
  case kK => assumption
  case k1 => k_asm
  case k2 => k_asm
  case k3 => k_asm
  case k5 => k_asm
  case k6 => k_is
  case k7 => k_is
  case k8 => ktr_room
  case k9 => exact BindsTo.of_eq rfl
  case c5 => decide
  case kB => exact locs rfl
  case c2 => exact rfl
  case c3 => exact rfl
  case c4 => exact rfl
  k_whole
  intro g L' h9 FG F9 N9 B9 X9 T9 GS
  dsimp only
  have F8 := fr_names F9 [(Str.ofString "self", .ref x), (Str.ofString "left", .ref l), (Str.ofString "right", .ref r)] (all_cons rfl (all_cons rfl (all_cons rfl all_nil)))
  refine wpAny_mono (cm_body w mean mg mb (dp + 1) (un + 3) gd _ _ _ base g L' _ _ (fun fl s' => ∃ t h9 tk9 m9, fl = .ret (.int (cmp3 c1 s1 t1 c2 s2 t2) t) ∧ s' = { s with heap := h9, toks := tk9 } ∧ Fr g L' h9 m9 ∧ News g L' h9 _) B9 X9 T9 (by omega) (by omega) x d D a b c l r k z0 z1 z2 z3 z4 z5 y0 y1 y2 y3 y4 y5 c1 s1 t1 c2 s2 t2 N9 F8 (fun h9 tk9 m9 t f n => ⟨t, h9, tk9, m9, rfl, rfl, f, n⟩)) ?_ (fun _ _ h => h.elim)
  rintro fl s' ⟨t, h9, tk9, m9, rfl, rfl, f, n⟩
  exact leaveK_ f n (fun kF kN => hret _ _ _ kF (news_call N GS sub f kN))
end Mine
end
-- part R1
section
namespace Mine
set_option maxRecDepth 100000
set_option maxHeartbeats 8000000
theorem r2 (w : World) (mean : ExcName → Option Value) (mg mb : Str → Option Value) (fa : Addr) (cd : Value) (h₀ : Heap) (L : Nat) (m : Str → Option Value) (s : Shared) (Q : Flow → Shared → Prop) (B : Below callerA h₀ [] h₀) (X : (hd.heap_39 w.params).In h₀) (T : Top hd.view_39 (looseW hd.view_39 [Str.ofString "Whitespace"]) mean mg mb h₀)
   (o9 : Obj) (r : Nat) (d9 : o9.data = .cell (some (.ref r))) (oA on : Nat) (vs : List Value) (hvs : vs.length ≤ 16) (p : Nat) (tp : Tok) (hp : p ≤ vs.length) (rest : List (Addr × Obj)) (N : News h₀ L s.heap ((L + 9, o9) :: (oA, listOf vs.toArray on) :: rest)) (F : Fr h₀ L s.heap (fun y => if y = Str.ofString "place" then some (.int (p : Int) tp) else if y = Str.ofString "order" then some (.ref oA) else m y))
   (hQ : ∀ h' tk' (D : Nat), L + 9 < D → (∀ p ∈ rest, p.1 < D) → Fr h₀ L h' (fun y => if y = Str.ofString "order" then some (.ref D) else if y = Str.ofString "place" then some (.int (p : Int) tp) else if y = Str.ofString "order" then some (.ref oA) else m y) → News h₀ L h' ((D, listOf (vs.take p ++ [Value.ref r] ++ vs.drop p).toArray 0) :: (L + 9, o9) :: rest) → Q .next { s with heap := h', toks := tk' }) :
   wpAny (model PySem.Challenge.rw_pu0052_01.row.prog w) (callerA.deeper (envOfC (Str.ofString "law") lawScope L fa cd)) (exec (nthS 2 (forBody (st 13))) (envOfC (Str.ofString "law") lawScope L fa cd)) Q (fun _ _ => False) s := by
  revert X; k_fill; intro X
  have hStop0 := stop "binaryOp Add ref ref"
  conv in (nthS 2 (forBody (st 13))) => whnf
  k_steps
  rename News _ _ _ _ => N9
  rename Fr _ _ _ _ => F9
  rename _ ∧ _ ∧ _ ∧ AllLt _ _ => l9
  rw [slicePick_upto'] at N9
  refine Hold.mk (kmk_add_lit (zs := vs.take p ++ [Value.ref r]) F9 N9 ⟨_, (N9 _ (.tail _ (.head _))).1, rfl, _, rfl⟩ ⟨_, (N9 _ (.head _)).1, rfl, _, rfl⟩ rfl ?_ ?hs)
  case hs =>
    rw [PySem.sizeLine_eq]
    show (vs.take p).length + 1 ≤ _
    rw [List.length_take]
    omega
  intro D8 h8 F8 N8 l8
  have l7 := fun p hp => l8 p (List.mem_cons_of_mem _ (List.mem_cons_of_mem _ hp))
  replace N8 := news_perm N8 (all_cons (.head _) (fun q hq => .tail _ (.tail _ (.tail _ hq))))
  clear F9 N9 l9 l8
  dsimp only
  k_steps
  rename News _ _ _ _ => N9
  rename Fr _ _ _ _ => F9
  rw [slicePick_from'] at N9
  refine Hold.mk (kmk_add_lit (zs := vs.take p ++ [Value.ref r] ++ vs.drop p) F9 N9 ⟨_, (N9 _ (.tail _ (.head _))).1, rfl, _, rfl⟩ ⟨_, (N9 _ (.head _)).1, rfl, _, rfl⟩ rfl ?_ ?hs)
  case hs =>
    rw [PySem.sizeLine_eq]
    show (vs.take p ++ [Value.ref r]).length + (vs.drop p).length ≤ _
    rw [List.length_append, List.length_take, List.length_drop]
    show min p vs.length + 1 + _ ≤ _
    omega
  intro D h8 F8 N8 l8
  have l7 := fun p hp => l8 p (List.mem_cons_of_mem _ (List.mem_cons_of_mem _ hp))
  replace N8 := news_perm N8 (all_cons (.head _) (all_cons (.tail _ (.tail _ (.tail _ (.head _)))) (fun q hq => .tail _ (.tail _ (.tail _ (.tail _ (.tail _ hq)))))))
  clear F9 N9 l8
  dsimp only
  k_steps
  exact hQ _ _ D (l7 _ (.head _)) (fun p hp => l7 p (.tail _ (.tail _ hp))) (by k_asm) (by k_asm)

end Mine
end
-- part R3
section
namespace Mine
set_option maxRecDepth 100000
set_option maxHeartbeats 8000000
theorem RuleIn.mono {w : World} {K K' : List (Addr × Obj)} {x : Nat} (h : RuleIn w K x) (s : ∀ p ∈ K, p ∈ K') : RuleIn w K' x :=
  let ⟨l, f, g⟩ := h
  ⟨l, f, fun p hp => s p (g p hp)⟩
def cmpR (c : Cst) (a b : Row) : Int := cmp3 (cost c a.t a.b) ((a.t : Int) + a.b) a.t (cost c b.t b.b) ((b.t : Int) + b.b) b.t
theorem r1 (w : World) (mean : ExcName → Option Value) (mg mb : Str → Option Value) (fa : Addr) (cd : Value) (h₀ : Heap) (L : Nat) (m : Str → Option Value) (s : Shared) (Q : Flow → Shared → Prop) (B : Below callerA h₀ [] h₀) (X : (hd.heap_39 w.params).In h₀) (T : Top hd.view_39 (looseW hd.view_39 [Str.ofString "Whitespace"]) mean mg mb h₀)
   (c : Cst) (o9 : Obj) (q : Row) (d9 : o9.data = .cell (some (.ref q.a))) (oA on xr d : Nat) (k : Tok) (D : Addr) (O : List Row) (hO : O.length ≤ 16) (rest : List (Addr × Obj))
   (hx : RuleIn w rest xr) (hq : RowIn c rest q) (hr : ∀ r ∈ O, RowIn c rest r) (N : News h₀ L s.heap ((L + 9, o9) :: (xr, instObj 45 d) :: (d, dictOf [{ hash := PyData.keyHash w.params (Str.ofString "comp_select_list"), key := Value.str (Str.ofString "comp_select_list") k, val := Value.ref D }] 1) :: (oA, listOf (O.map Row.v).toArray on) :: rest)) (tp : Tok) (F : Fr h₀ L s.heap (fun y => if y = Str.ofString "place" then some (.int 0 tp) else if y = Str.ofString "order" then some (.ref oA) else if y = Str.ofString "rule" then some (.ref xr) else m y))
   (hQ : ∀ h' tk' (p : Nat) t, p ≤ O.length → (∀ j a, j < p → O[j]? = some a → cmpR c a q = -1) → (∀ a, O[p]? = some a → cmpR c a q ≠ -1) → Fr h₀ L h' (fun y => if y = Str.ofString "place" then some (.int (p : Int) t) else if y = Str.ofString "order" then some (.ref oA) else if y = Str.ofString "rule" then some (.ref xr) else m y) → News h₀ L h' ((L + 9, o9) :: (xr, instObj 45 d) :: (d, dictOf [{ hash := PyData.keyHash w.params (Str.ofString "comp_select_list"), key := Value.str (Str.ofString "comp_select_list") k, val := Value.ref D }] 1) :: (oA, listOf (O.map Row.v).toArray on) :: rest) → Q .next { s with heap := h', toks := tk' }) :
   wpAny (model PySem.Challenge.rw_pu0052_01.row.prog w) (callerA.deeper (envOfC (Str.ofString "law") lawScope L fa cd)) (exec (nthS 1 (forBody (st 13))) (envOfC (Str.ofString "law") lawScope L fa cd)) Q (fun _ _ => False) s := by
  revert X; k_fill; intro X
  have hStop0 := stop "call ref"
  have hStop1 := stop "call builtin:len"
  have hStop2 := stop "subscriptTail Name Name"
  conv in (nthS 1 (forBody (st 13))) => whnf
  refine ksw_while (σ := Nat × Tok) (fun _ => (L + 9, o9) :: (xr, instObj 45 d) :: (d, dictOf [{ hash := PyData.keyHash w.params (Str.ofString "comp_select_list"), key := Value.str (Str.ofString "comp_select_list") k, val := Value.ref D }] 1) :: (oA, listOf (O.map Row.v).toArray on) :: rest) (fun c => [(Str.ofString "place", .int (c.1 : Int) c.2)]) (fun _ => True) [] (fun p => p.1 ≤ O.length ∧ ∀ j a, j < p.1 → O[j]? = some a → cmpR c a q = -1) (fun p => O.length - p.1) (0, tp) F N trivial ?_ ?_ ?_
  · simp
  · exact ⟨Nat.zero_le _, fun j a h => absurd h (Nat.not_lt_zero _)⟩
  rintro ⟨p, tk0⟩ u h tk - hP F1 N1
  clear F N
  have F2 : Fr h₀ L h (fun y => if y = Str.ofString "place" then some (.int (p : Int) tk0) else if y = Str.ofString "order" then some (.ref oA) else if y = Str.ofString "rule" then some (.ref xr) else m y) := by
    refine fr_to F1 fun y => ?_
    simp only [kstB, List.contains_nil, Bool.false_eq_true, if_false]
    split <;> simp_all
  clear F1
  obtain ⟨hp1, hp3⟩ := hP
  dsimp only at hp1 hp3 ⊢
  replace hp3 := Hold.mk hp3
  replace hr := Hold.mk hr
  replace hx := Hold.mk hx
  replace hq := Hold.mk hq
  generalize hvs : O.map Row.v = vs at *
  have hlen : vs.length = O.length := by rw [← hvs, List.length_map]
  rw [← hlen] at hp1 hO
  k_steps
  rename News _ _ _ _ => N9
  refine Hold.mk (len_list (items := vs.toArray) ⟨_, (N9 _ (.tail _ (.tail _ (.tail _ (.head _))))).1, rfl, _, rfl⟩ (by rw [List.size_toArray]; omega) ?_)
  rw [List.size_toArray]
  k_steps
  · rename News _ _ _ _ => N8
    rename Fr _ _ _ _ => F8
    have hlt : p < O.length := by omega
    obtain ⟨a, ha⟩ : ∃ a, O[p]? = some a := ⟨_, List.getElem?_eq_getElem hlt⟩
    have hva : vs[p]? = some (.ref a.a) := by rw [← hvs, List.getElem?_map, ha]; rfl
    refine Hold.mk (item_list (items := vs.toArray) ⟨_, (N8 _ (.tail _ (.tail _ (.tail _ (.head _))))).1, rfl, _, rfl⟩ (by omega) (by omega) (by simpa using hva) ?_)
    k_steps
    obtain ⟨x1, y1, z1, ma⟩ := hr.out a (List.mem_of_getElem? ha)
    obtain ⟨x2, y2, z2, mq⟩ := hq.out
    have up : ∀ e ∈ rest, e ∈ (L + 9, o9) :: (xr, instObj 45 d) :: (d, dictOf [{ hash := PyData.keyHash w.params (Str.ofString "comp_select_list"), key := Value.str (Str.ofString "comp_select_list") k, val := Value.ref D }] 1) :: (oA, listOf vs.toArray on) :: rest := fun e he => .tail _ (.tail _ (.tail _ (.tail _ he)))
    refine' Hold.mk (cmp_ok w xr a.a q.a _ _ _ _ _ _ x1 y1 z1 x2 y2 z2 _ (hx.out.mono up) (up _ ma) (up _ mq) _ _ _ _ _ _ _ _ _ _ _ _ _ _ _ _ _ _ _ _ ?k1 ?k2 ?k3 ?k4 ?k5 ?k6 ?k7 ?k8 ?_)
    (case k1 => exact B)
    (case k2 => exact F8)
    (case k3 => exact X)
    (case k4 => exact N8)
    (case k5 => exact T)
    (case k6 => rfl)
    (case k7 => decide)
    (case k8 => decide)
    intro t9 h9 tk9 F9 N9
    generalize hc : cmp3 _ _ _ _ _ _ = v
    clear F8 N8
    have ea : cmpR c a q = v := hc
    k_steps
    · rename News _ _ _ _ => N7
      refine ksw_end (p + 1, _) (by k_asm) N7 (fun _ h => h) trivial (by simp; rfl) (by ksw_same) ⟨?_, ?_⟩ ?_
      · dsimp only; omega
      · intro j b hj hb
        dsimp only at hj
        by_cases e : j = p
        · subst e
          rw [ha] at hb
          cases hb
          rw [ea]
          first | assumption | (exact eq_of_beq (by assumption))
        · exact hp3.out j b (by omega) hb
      · dsimp only; omega
    · refine hQ _ _ p _ (by omega) hp3.out ?_ (by k_asm) (by k_asm)
      intro b hb
      rw [ha] at hb
      cases hb
      rw [ea]
      first | assumption | (intro e; simp_all)
  · refine hQ _ _ p _ (by omega) hp3.out ?_ (by k_asm) (by k_asm)
    intro b hb
    have := (List.getElem?_eq_some_iff.mp hb).1
    omega

end Mine
end
-- part S1
section
namespace Mine
set_option maxRecDepth 100000
set_option maxHeartbeats 8000000
theorem r0 (w : World) (mean : ExcName → Option Value) (mg mb : Str → Option Value) (fa : Addr) (cd : Value) (h₀ : Heap) (L : Nat) (m : Str → Option Value) (s : Shared) (Q : Flow → Shared → Prop) (rest : List (Addr × Obj)) (N : News h₀ L s.heap rest) (F : Fr h₀ L s.heap (fun y => m y))
   (hQ : ∀ h' tk' t, Fr h₀ L h' (fun y => if y = Str.ofString "place" then some (.int 0 t) else m y) → News h₀ L h' rest → Q .next { s with heap := h', toks := tk' }) :
   wpAny (model PySem.Challenge.rw_pu0052_01.row.prog w) (callerA.deeper (envOfC (Str.ofString "law") lawScope L fa cd)) (exec (nthS 0 (forBody (st 13))) (envOfC (Str.ofString "law") lawScope L fa cd)) Q (fun _ _ => False) s := by
  conv in (nthS 0 (forBody (st 13))) => whnf
  k_steps
  exact hQ _ _ _ (by k_asm) (by k_asm)
/-- frames that differ at the sort's own names alone -/
def Same2 (m m' : Str → Option Value) : Prop := ∀ z, z ≠ Str.ofString "place" → z ≠ Str.ofString "order" → m' z = m z
theorem Same2.set {m m' : Str → Option Value} {x : Str} {v : Option Value} (e : Same2 m m') (hx : x = Str.ofString "place" ∨ x = Str.ofString "order") : Same2 m (fun y => if y = x then v else m' y) := by
  intro z h1 h2
  show (if z = x then v else m' z) = m z
  rw [if_neg (fun q => by subst q; rcases hx with h | h <;> contradiction)]
  exact e z h1 h2
/-- a row stands before another -/
def Lt (c : Cst) (a b : Row) : Prop := cmpR c a b = -1
theorem lex_step {a b c : Int} {P Q R : Prop} (k : P → Q → R) : (a < b ∨ (a = b ∧ P)) → (b < c ∨ (b = c ∧ Q)) → (a < c ∨ (a = c ∧ R))
  | .inl h, .inl g => .inl (Int.lt_trans h g)
  | .inl h, .inr g => .inl (g.1 ▸ h)
  | .inr h, .inl g => .inl (h.1 ▸ g)
  | .inr h, .inr g => .inr ⟨h.1.trans g.1, k h.2 g.2⟩
theorem lex_other {a b : Int} {P Q : Prop} (k : a = b → ¬ P → Q) (h : ¬ (a < b ∨ (a = b ∧ P))) : b < a ∨ (b = a ∧ Q) :=
  (Int.lt_trichotomy a b).elim (fun g => absurd (.inl g) h) fun g => g.elim (fun e => .inr ⟨e.symm, k e fun p => h (.inr ⟨e, p⟩)⟩) .inl
theorem cmp_step {a b X : Int} : (if a < b then -1 else if b < a then 1 else X) = -1 ↔ (a < b ∨ (a = b ∧ X = -1)) := by
  rcases Int.lt_trichotomy a b with h | h | h
  · rw [if_pos h]
    exact ⟨fun _ => .inl h, fun _ => rfl⟩
  · subst h
    rw [if_neg (Int.lt_irrefl a), if_neg (Int.lt_irrefl a)]
    exact ⟨fun e => .inr ⟨rfl, e⟩, fun e => e.elim (fun e => absurd e (Int.lt_irrefl a)) And.right⟩
  · rw [if_neg (Int.lt_asymm h), if_pos h]
    exact ⟨fun e => absurd e (by decide), fun e => e.elim (fun e => absurd e (Int.lt_asymm h)) fun e => absurd h (e.1 ▸ Int.lt_irrefl b)⟩
theorem cmp_last {a b : Int} : (if a < b then (1 : Int) else if b < a then -1 else 0) = -1 ↔ b < a := by
  rcases Int.lt_trichotomy a b with h | h | h
  · rw [if_pos h]
    exact ⟨fun e => absurd e (by decide), fun e => absurd e (Int.lt_asymm h)⟩
  · subst h
    rw [if_neg (Int.lt_irrefl a), if_neg (Int.lt_irrefl a)]
    exact ⟨fun e => absurd e (by decide), fun e => absurd e (Int.lt_irrefl a)⟩
  · rw [if_neg (Int.lt_asymm h), if_pos h]
    exact ⟨fun _ => h, fun _ => rfl⟩
theorem cmp3_lt (c1 s1 t1 c2 s2 t2 : Int) : cmp3 c1 s1 t1 c2 s2 t2 = -1 ↔ (c1 < c2 ∨ (c1 = c2 ∧ (s1 < s2 ∨ (s1 = s2 ∧ t2 < t1)))) :=
  cmp_step.trans (or_congr Iff.rfl (and_congr Iff.rfl (cmp_step.trans (or_congr Iff.rfl (and_congr Iff.rfl cmp_last)))))
theorem lt_trans' {c : Cst} {x y z : Row} (h1 : Lt c x y) (h2 : Lt c y z) : Lt c x z :=
  (cmp3_lt ..).mpr (lex_step (lex_step fun h g => Int.lt_trans g h) ((cmp3_lt ..).mp h1) ((cmp3_lt ..).mp h2))
theorem lt_other {c : Cst} {x y : Row} (h : ¬ Lt c x y) (hne : x.pl ≠ y.pl) : Lt c y x := by
  refine (cmp3_lt ..).mpr (lex_other (fun _ h1 => lex_other (fun e h2 => ?_) h1) (fun g => h ((cmp3_lt ..).mpr g)))
  refine (Int.lt_trichotomy (x.t : Int) y.t).elim id fun g => g.elim (fun e' => ?_) fun g => absurd g h2
  rw [e'] at e
  exact absurd (show x.pl = y.pl from by unfold Row.pl; rw [Int.ofNat.inj e', Int.ofNat.inj (Int.add_left_cancel e)]) hne
/-- the order after the new row is put in -/
theorem ins_ok {c : Cst} {O : List Row} {q : Row} {p : Nat} (hp : p ≤ O.length) (hs : O.Pairwise (Lt c)) (hd : ∀ a ∈ O, a.pl ≠ q.pl) (h1 : ∀ j a, j < p → O[j]? = some a → cmpR c a q = -1) (h2 : ∀ a, O[p]? = some a → cmpR c a q ≠ -1) :
    (O.take p ++ [q] ++ O.drop p).Pairwise (Lt c) ∧ (O.take p ++ [q] ++ O.drop p).Perm (O ++ [q]) := by
  have ht : ∀ a ∈ O.take p, Lt c a q := by
    intro a ha
    obtain ⟨j, hj⟩ := List.mem_iff_getElem?.mp ha
    rw [List.getElem?_take] at hj
    split at hj
    · exact h1 j a (by assumption) hj
    · cases hj
  have hs' := hs
  rw [← List.take_append_drop p O, List.pairwise_append] at hs'
  obtain ⟨s1, s2, s3⟩ := hs'
  have hdr : ∀ b ∈ O.drop p, Lt c q b := by
    match hD : O.drop p with
    | [] => exact fun _ h => nomatch h
    | x :: r =>
      have hx : O[p]? = some x := by
        have : (O.drop p)[0]? = some x := by rw [hD]; rfl
        rwa [List.getElem?_drop, Nat.add_zero] at this
      have l0 : Lt c q x := lt_other (h2 x hx) (hd x (List.mem_of_getElem? hx))
      rw [hD, List.pairwise_cons] at s2
      intro b hb
      rcases List.mem_cons.mp hb with rfl | hb
      · exact l0
      · exact lt_trans' l0 (s2.1 b hb)
  refine ⟨?_, ?_⟩
  · rw [List.append_assoc, List.pairwise_append]
    refine ⟨s1, List.pairwise_cons.mpr ⟨hdr, s2⟩, fun a ha b hb => ?_⟩
    rcases List.mem_cons.mp hb with rfl | hb
    · exact ht a ha
    · exact s3 a ha b hb
  · rw [List.append_assoc]
    refine List.Perm.trans List.perm_append_comm ?_
    show (q :: O.drop p ++ O.take p).Perm (O ++ [q])
    refine List.Perm.trans ?_ List.perm_append_comm
    show (q :: (O.drop p ++ O.take p)).Perm (q :: O)
    refine List.Perm.cons q (List.Perm.trans List.perm_append_comm ?_)
    rw [List.take_append_drop]
/-- what holds between the turns of the sort -/
def Jso (L : Nat) (c : Cst) (m₀ : Str → Option Value) (R : List Row) (K : List (Addr × Obj)) (i : Nat) (m : Str → Option Value) (nx : List (Addr × Obj)) : Prop :=
  ∃ o9 v9 oA on O, nx = (oA, listOf (List.map Row.v O).toArray on) :: (L + 9, o9) :: K ∧ o9.data = .cell v9 ∧ m (Str.ofString "order") = some (.ref oA) ∧ L + 9 ≠ oA ∧ Same2 m₀ m ∧ O.Pairwise (Lt c) ∧ O.Perm (R.take i)
theorem so_turn (w : World) (mean : ExcName → Option Value) (mg mb : Str → Option Value) (fa : Addr) (cd : Value) (h₀ : Heap) (L : Nat) (m₀ : Str → Option Value) (s : Shared) (Q : Flow → Shared → Prop) (B : Below callerA h₀ [] h₀) (X : (hd.heap_39 w.params).In h₀) (T : Top hd.view_39 (looseW hd.view_39 [Str.ofString "Whitespace"]) mean mg mb h₀)
   (c : Cst) (xr : Nat) (hr : m₀ (Str.ofString "rule") = some (.ref xr)) (R : List Row) (hR : R.length ≤ 16) (hnd : (R.map Row.pl).Nodup) (K : List (Addr × Obj)) (hK : RuleIn w K xr) (hI : ∀ r ∈ R, RowIn c K r) (ho : OwnOff K [L + 9]) :
   TurnC PySem.Challenge.rw_pu0052_01.row.prog w (callerA.deeper (envOfC (Str.ofString "law") lawScope L fa cd)) h₀ (envOfC (Str.ofString "law") lawScope L fa cd) (Str.ofString "row") (forBody (st 13)) Q (fun _ _ => False) s (R.map Row.v).toArray.size (fun i v => (R.map Row.v).toArray[i]? = some v) (Jso L c m₀ R K) := by
  rintro i v m₁ nx h tk own hi hv hown ⟨o9, v9, oA, on, O, rfl, d9, eo, hne, S1, hs, hperm⟩ F N
  obtain ⟨q, hq, rfl⟩ : ∃ q, R[i]? = some q ∧ v = .ref q.a := by
    simp only [List.getElem?_toArray, List.getElem?_map, Option.map_eq_some_iff] at hv
    obtain ⟨q, h1, h2⟩ := hv
    exact ⟨q, h1, h2.symm⟩
  have own9 : OwnOff own [L + 9] := off_sub hown (by intro b hb; rw [List.mem_singleton.mp hb]; exact .tail _ (.head _))
  have kup : ∀ e ∈ K, e ∈ K ++ own := fun e he => List.mem_append_left _ he
  refine put_cell (c := L + 9) (rest := (oA, listOf (O.map Row.v).toArray on) :: (K ++ own)) rfl (by rfl) (by rfl) d9 (news_perm N (all_cons (.tail _ (.head _)) (all_cons (.head _) (fun e he => .tail _ (.tail _ he))))) (off_cons (Ne.symm hne) (off_app ho own9)) F ?_
  intro h1 o9' d9' F1 N1
  have e1 : forBody (st 13) = [nthS 0 (forBody (st 13)), nthS 1 (forBody (st 13)), nthS 2 (forBody (st 13))] := rfl
  rw [e1]
  clear e1
  refine wpAny_execs_cons (r0 w mean mg mb fa cd h₀ L m₁ _ _ _ N1 F1 ?_)
  intro h2 tk2 tp F2 N2
  dsimp only
  have er : m₁ (Str.ofString "rule") = some (.ref xr) := (S1 _ (by decide) (by decide)).trans hr
  obtain ⟨m2, e2, S2, F2⟩ : ∃ m2 : Str → Option Value, (m2 (Str.ofString "place") = some (.int 0 tp) ∧ m2 (Str.ofString "order") = some (.ref oA) ∧ m2 (Str.ofString "rule") = some (.ref xr)) ∧ Same2 m₀ m2 ∧ Fr h₀ L h2 m2 := ⟨(fun y => if y = Str.ofString "place" then some (.int 0 tp) else m₁ y), ⟨rfl, eo, er⟩, S1.set (.inl rfl), F2⟩
  obtain ⟨_, ⟨d, D, a, b, c', k, z0, z1, z2, z3, z4, z5, rfl⟩, hg⟩ := id hK
  have n1 := hg _ (.head _)
  have n2 := hg _ (.tail _ (.head _))
  have hOm : ∀ a ∈ O, a ∈ R := fun a ha => List.mem_of_mem_take (hperm.mem_iff.mp ha)
  have hOl : O.length ≤ 16 := by
    have := hperm.length_eq
    rw [List.length_take] at this
    omega
  have l1 : ∀ p ∈ [(Str.ofString "place", Value.int 0 tp), (Str.ofString "order", Value.ref oA), (Str.ofString "rule", Value.ref xr)], m2 p.1 = some p.2 := all_cons e2.1 (all_cons e2.2.1 (all_cons e2.2.2 all_nil))
  refine wpAny_execs_cons (r1 w mean mg mb fa cd h₀ L m2 _ _ B X T c o9' q d9' oA on xr d k D O hOl (K ++ own) (hK.mono kup) ?_ ?_ (news_perm N2 (all_cons (.head _) (all_cons (.tail _ (.tail _ (kup _ n1))) (all_cons (.tail _ (.tail _ (kup _ n2))) (all_cons (.tail _ (.head _)) (fun q hq => .tail _ (.tail _ hq))))))) tp (fr_names F2 _ l1) ?_)
  · obtain ⟨x, y, z, e⟩ := hI q (List.mem_of_getElem? hq)
    exact ⟨x, y, z, kup _ e⟩
  · intro r hr
    obtain ⟨x, y, z, e⟩ := hI r (hOm r hr)
    exact ⟨x, y, z, kup _ e⟩
  intro h3 tk3 p t3 hp g1 g2 F3 N3
  dsimp only
  obtain ⟨m3, e3, S3, F3⟩ : ∃ m3 : Str → Option Value, (m3 (Str.ofString "place") = some (.int (p : Int) t3) ∧ m3 (Str.ofString "order") = some (.ref oA)) ∧ Same2 m₀ m3 ∧ Fr h₀ L h3 m3 := by
    refine ⟨_, ⟨rfl, rfl⟩, ?_, F3⟩
    intro z g1 g2
    show (if z = _ then _ else if z = _ then _ else if z = _ then _ else m2 z) = _
    rw [if_neg g1, if_neg g2]
    split
    · rename_i e
      rw [e]
      exact hr.symm
    · exact S2 z g1 g2
  have l2 : ∀ e ∈ [(Str.ofString "place", Value.int (p : Int) t3), (Str.ofString "order", Value.ref oA)], m3 e.1 = some e.2 := all_cons e3.1 (all_cons e3.2 all_nil)
  refine wpAny_execs_cons (r2 w mean mg mb fa cd h₀ L m3 _ _ B X T o9' q.a d9' oA on (O.map Row.v) (by rw [List.length_map]; exact hOl) p t3 (by rw [List.length_map]; exact hp) (K ++ own) (news_perm N3 (all_cons (.head _) (all_cons (.tail _ (.tail _ (.tail _ (.head _)))) (fun q hq => .tail _ (.tail _ (.tail _ (.tail _ hq))))))) (fr_names F3 _ l2) ?_)
  intro h4 tk4 D4 lt1 lt2 F4 N4
  refine wpAny_execs_nil ?_
  have S4 : Same2 m₀ (fun y => if y = Str.ofString "order" then some (Value.ref D4) else m3 y) := S3.set (.inr rfl)
  have F5 := fr_back l2 F4
  have eO : (O.map Row.v).take p ++ [Value.ref q.a] ++ (O.map Row.v).drop p = (O.take p ++ [q] ++ O.drop p).map Row.v := by
    rw [List.map_append, List.map_append, List.map_take, List.map_drop]
    rfl
  rw [eO] at N4
  have hdist : ∀ a ∈ O, a.pl ≠ q.pl := by
    intro a ha e
    obtain ⟨j, hj⟩ := List.mem_iff_getElem?.mp (hperm.mem_iff.mp ha)
    rw [List.getElem?_take] at hj
    split at hj
    · rename_i hji
      have hji' : j ≠ i := by omega
      have hil : i < (R.map Row.pl).length := by rw [List.length_map]; exact (List.getElem?_eq_some_iff.mp hq).1
      have hjl : j < (R.map Row.pl).length := by omega
      refine hji' ((List.getElem_inj hnd).mp (?_ : (R.map Row.pl)[j] = (R.map Row.pl)[i]))
      have q1 : (R.map Row.pl)[j]? = some a.pl := by rw [List.getElem?_map, hj]; rfl
      have q2 : (R.map Row.pl)[i]? = some q.pl := by rw [List.getElem?_map, hq]; rfl
      rw [List.getElem?_eq_getElem hjl] at q1
      rw [List.getElem?_eq_getElem hil] at q2
      rw [Option.some.inj q1, Option.some.inj q2, e]
    · cases hj
  obtain ⟨i1, i2⟩ := ins_ok hp hs hdist g1 g2
  have hperm' : (O.take p ++ [q] ++ O.drop p).Perm (R.take (i + 1)) := by
    refine i2.trans ?_
    rw [List.take_add_one, hq]
    exact hperm.append_right _
  refine InvEndG.intro F5 N4 (nx := (D4, listOf ((O.take p ++ [q] ++ O.drop p).map Row.v).toArray 0) :: (L + 9, o9') :: K) ?_ ?_ ?_ ?_
  · exact ⟨o9', _, D4, 0, _, rfl, d9', rfl, Nat.ne_of_lt lt1, S4, i1, hperm'⟩
  · intro e he b hb
    simp only [List.map_cons, List.mem_cons] at hb
    rcases hb with rfl | rfl | hb
    · exact Nat.ne_of_lt (lt2 e (List.mem_append_right _ he))
    · exact own9 e he _ (List.mem_singleton.mpr rfl)
    · exact hown e he b (by simp only [List.map_cons]; exact .tail _ (.tail _ hb))
  · exact all_cons (.head _) (all_cons (.tail _ (.head _)) fun e he => .tail _ (.tail _ (kup e he)))
  · exact fun e he => .tail _ (.tail _ (List.mem_append_right _ he))
theorem rows_at (w : World) (fa : Addr) (cd : Value) (h₀ : Heap) (L : Nat) (m : Str → Option Value) (s : Shared) (news : List (Addr × Obj)) (rA : Addr) (N : News h₀ L s.heap news) (F : Fr h₀ L s.heap (fun y => if y = Str.ofString "rows" then some (.ref rA) else m y)) :
   wpAny (model PySem.Challenge.rw_pu0052_01.row.prog w) (callerA.deeper (envOfC (Str.ofString "law") lawScope L fa cd)) (eval (forIter (st 13)) (envOfC (Str.ofString "law") lawScope L fa cd)) (fun xv s₁ => Hold (∃ h tk, xv = .ref rA ∧ s₁ = { s with heap := h, toks := tk } ∧ Fr h₀ L h (fun y => if y = Str.ofString "rows" then some (.ref rA) else m y) ∧ News h₀ L h news)) (fun _ _ => False) s := by
  conv in (forIter _) => whnf
  k_steps
  exact ⟨_, _, rfl, rfl, by k_asm, by k_asm⟩
/-- statement 13: the rows in order -/
theorem so_loop (w : World) (mean : ExcName → Option Value) (mg mb : Str → Option Value) (fa : Addr) (cd : Value) (h₀ : Heap) (L : Nat) (m : Str → Option Value) (s : Shared) (Q : Flow → Shared → Prop) (B : Below callerA h₀ [] h₀) (X : (hd.heap_39 w.params).In h₀) (T : Top hd.view_39 (looseW hd.view_39 [Str.ofString "Whitespace"]) mean mg mb h₀)
   (c : Cst) (xr oA on rn : Nat) (hr : m (Str.ofString "rule") = some (.ref xr)) (ho' : m (Str.ofString "order") = some (.ref oA)) (hrr : m (Str.ofString "rows") = some (.ref c.rA)) (R : List Row) (hR : R.length ≤ 16) (hnd : (R.map Row.pl).Nodup) (K : List (Addr × Obj)) (hK : RuleIn w K xr) (hI : ∀ r ∈ R, RowIn c K r) (hl : (c.rA, listOf (R.map Row.v).toArray rn) ∈ K) (ho : OwnOff K [L + 9]) (hne : L + 9 ≠ oA)
   (o9 : Obj) (v9 : Option Value) (d9 : o9.data = .cell v9) (N : News h₀ L s.heap ((oA, listOf #[] on) :: (L + 9, o9) :: K)) (F : Fr h₀ L s.heap m)
   (hQ : ∀ h' tk' m' o9' v9' oA' on' (O : List Row), o9'.data = .cell v9' → m' (Str.ofString "order") = some (.ref oA') → L + 9 ≠ oA' → Same2 m m' → O.Pairwise (Lt c) → O.Perm R → Fr h₀ L h' m' → News h₀ L h' ((oA', listOf (O.map Row.v).toArray on') :: (L + 9, o9') :: K) → Q .next { s with heap := h', toks := tk' }) :
   wpAny (model PySem.Challenge.rw_pu0052_01.row.prog w) (callerA.deeper (envOfC (Str.ofString "law") lawScope L fa cd)) (exec (st 13) (envOfC (Str.ofString "law") lawScope L fa cd)) Q (fun _ _ => False) s := by
  obtain ⟨p1, p2, e⟩ : ∃ p1 p2, st 13 = .For (.Name (Str.ofString "row") p1) (forIter (st 13)) (forBody (st 13)) [] p2 := ⟨_, _, rfl⟩
  rw [e]
  have l1 : ∀ e ∈ [(Str.ofString "rows", Value.ref c.rA)], m e.1 = some e.2 := all_cons hrr all_nil
  refine For_any h₀ (wpAny_mono (rows_at w fa cd h₀ L m s _ c.rA N (fr_names F _ l1)) ?_ (fun _ _ h => h))
  rintro xv s₁ ⟨h1, tk1, rfl, rfl, F1, N1⟩
  refine it_list (its := (R.map Row.v).toArray) (k := rn) (Jso L c m R K) rfl (.tail _ (.tail _ hl)) (fr_back0 l1 F1) N1 ⟨o9, v9, oA, on, [], rfl, d9, ho', hne, fun _ _ _ => rfl, .nil, .nil⟩ ?_ (so_turn w mean mg mb fa cd h₀ L m _ Q B X T c xr hr R hR hnd K hK hI ho) ?_
  · rintro i m' nx ⟨o9', v9', oA', on', O, rfl, _⟩
    exact .tail _ (.tail _ hl)
  · rintro m' nx h' tk' ⟨o9', v9', oA', on', O, rfl, d9', e1, e2, S, hp, hpm⟩ F' N'
    rw [List.size_toArray, List.length_map, List.take_length] at hpm
    exact hQ h' tk' m' o9' v9' oA' on' O d9' e1 e2 S hp hpm F' N'
end Mine
end
-- part PP
section
namespace Mine
set_option maxRecDepth 100000
section
variable {prog : Program} {w : World} {A : Around} {s : Shared} {h₀ : Heap} {L : Addr} {m : Str → Option Value} {env : Env}
/-- a list comprehension over pairs whose element makes nothing that is kept -/
theorem comp_pureP {elt : PySem.Expr} {x x₂ : Str} {scope : Scope} {cl : List (Str × Addr)} {S : List (Addr × Obj) → Prop} {P : Nat → Value → Prop} {Fin : List Value → List (Addr × Obj) → Prop} {n : Nat} {news : List (Addr × Obj)} (R : Nat → Value → Prop) (Pv : Nat → Value → Value → Prop) (hS : S news)
    (src : ∀ i v, i < n → P i v → ∃ (t : Addr) (ot : Obj) (v₁ v₂ : Value) (nt : Nat), v = .ref t ∧ (t, ot) ∈ news ∧ ot.cls = .type "tuple" ∧ ot.data = .seq #[v₁, v₂] nt ∧ Pv i v₁ v₂)
    (turn : ∀ i v₁ v₂ I oI C oC D m₂ ys h tk (E' : Value → Shared → Prop), Pv i v₁ v₂ → LCg.NsObj oC m₂ → m₂ x = some v₁ → m₂ x₂ = some v₂ → Fr h₀ L h m → News h₀ L h ((I, oI) :: (C, oC) :: (D, LCg.lst ys) :: news) →
      wpAny (model prog w) A (eval elt (compEnvC scope cl C env)) (fun y s₂ => Hold (∃ h' tk', s₂ = { s with heap := h', toks := tk' } ∧ Fr h₀ L h' m ∧ News h₀ L h' ((I, oI) :: (C, oC) :: (D, LCg.lst ys) :: news) ∧ R i y)) E' { s with heap := h, toks := tk })
    (fin : ∀ ys : List Value, ys.length = n → (∀ i y, ys[i]? = some y → R i y) → Fin ys news) :
    LCp.CompRestP prog w A h₀ L m env elt x x₂ scope cl s S P Fin n 0 [] news := by
  have go : ∀ k i ys, i + k = n → ys.length = i → (∀ j y, ys[j]? = some y → R j y) → LCp.CompRestP prog w A h₀ L m env elt x x₂ scope cl s S P Fin k i ys news := by
    intro k
    induction k with
    | zero => exact fun i ys h1 h2 h3 => LCp.CompRestP.zero (fin ys (by omega) h3)
    | succ k ih =>
      intro i ys h1 h2 h3
      refine LCp.CompRestP.succ fun v hP => ?_
      obtain ⟨t, ot, v₁, v₂, nt, e, mt, hc, hd, hv⟩ := src i v (by omega) hP
      refine ⟨t, ot, v₁, v₂, nt, e, mt, hc, hd, ?_⟩
      intro I oI C oC D m₂ h tk E' hC hx hx₂ F N off _
      refine wpAny_mono (turn i v₁ v₂ I oI C oC D m₂ ys h tk E' hv hC hx hx₂ F N) ?_ (fun _ _ e => e)
      rintro y s₂ ⟨h', tk', rfl, F', N', hR⟩
      refine ⟨h', tk', news, rfl, F', N', off, hS, ih (i + 1) (ys ++ [y]) (by omega) (by simp [h2]) ?_⟩
      intro j z hz
      rcases Nat.lt_or_ge j ys.length with hj | hj
      · rw [List.getElem?_append_left hj] at hz
        exact h3 j z hz
      · rw [List.getElem?_append_right hj] at hz
        match hd : j - ys.length, hz with
        | 0, hz =>
          have ej : j = i := by omega
          subst ej
          cases hz
          exact hR
        | q + 1, hz => simp at hz
  exact go n 0 [] (by omega) rfl (fun j y h => by simp at h)
end
end Mine
end
-- part T1
section
namespace Mine
set_option maxRecDepth 100000
set_option maxHeartbeats 8000000
def stepsL : List (Int × Int) := [(1, 0), (-1, 0), (0, 1), (0, -1), (1, -1), (-1, 1)]
/-- the law's steps, in the ledger -/
def StepIn (K : List (Addr × Obj)) (a : Nat) : Prop := ∃ (its : Array Value) (k : Nat), its.size = 6 ∧ (a, listOf its k) ∈ K ∧ ∀ (i : Nat) v, its[i]? = some v → ∃ (e : Nat) (x y : Int) (tx ty : Tok), v = Value.ref e ∧ stepsL[i]? = some (x, y) ∧ (e, tup2 x y tx ty) ∈ K
theorem s15 (w : World) (mean : ExcName → Option Value) (mg mb : Str → Option Value) (fa : Addr) (cd : Value) (h₀ : Heap) (L : Nat) (m : Str → Option Value) (s : Shared) (Q : Flow → Shared → Prop) (B : Below callerA h₀ [] h₀) (X : (hd.heap_39 w.params).In h₀) (T : Top hd.view_39 (looseW hd.view_39 [Str.ofString "Whitespace"]) mean mg mb h₀)
   (rest : List (Addr × Obj)) (N : News h₀ L s.heap rest) (F : Fr h₀ L s.heap (fun y => m y))
   (hQ : ∀ h' tk' a add, StepIn add a → (∀ p ∈ rest, ∀ q ∈ add, p.1 < q.1) → Fr h₀ L h' (fun y => if y = Str.ofString "steps" then some (.ref a) else m y) → News h₀ L h' (add ++ rest) → Q .next { s with heap := h', toks := tk' }) :
   wpAny (model PySem.Challenge.rw_pu0052_01.row.prog w) (callerA.deeper (envOfC (Str.ofString "law") lawScope L fa cd)) (exec (st 15) (envOfC (Str.ofString "law") lawScope L fa cd)) Q (fun _ _ => False) s := by
  revert X; k_fill; intro X
  have hStop0 := stop "exec Assign cons ListComp"
  have hStop1 := stop "SrcLP"
  have hStop2 := stop "call ref"
  conv in (st 15) => whnf
  k_steps
  rename _ ∧ _ ∧ _ ∧ _ ∧ _ ∧ _ ∧ AllLt _ _ => l7
  rename _ ∧ _ ∧ _ ∧ _ ∧ _ ∧ AllLt _ _ => l6
  rename _ ∧ _ ∧ _ ∧ _ ∧ AllLt _ _ => l5
  rename _ ∧ _ ∧ _ ∧ AllLt _ _ => l4
  rename _ ∧ _ ∧ AllLt _ _ => l3
  rename _ ∧ AllLt _ _ => l2
  rename ∀ p ∈ rest, p.1 < _ => l1
  rename News h₀ _ _ _ => N9
  refine hQ _ _ _ [_, _, _, _, _, _, _] ?r ?lt (by k_asm) N9
  case r =>
    refine ⟨_, 0, rfl, .head _, ?_⟩
    · intro i v hv
      match i, hv with
      | 0, hv => cases hv; exact ⟨_, _, _, _, _, rfl, rfl, .tail _ (.tail _ (.tail _ (.tail _ (.tail _ (.tail _ (.head _))))))⟩
      | 1, hv => cases hv; exact ⟨_, _, _, _, _, rfl, rfl, .tail _ (.tail _ (.tail _ (.tail _ (.tail _ (.head _)))))⟩
      | 2, hv => cases hv; exact ⟨_, _, _, _, _, rfl, rfl, .tail _ (.tail _ (.tail _ (.tail _ (.head _))))⟩
      | 3, hv => cases hv; exact ⟨_, _, _, _, _, rfl, rfl, .tail _ (.tail _ (.tail _ (.head _)))⟩
      | 4, hv => cases hv; exact ⟨_, _, _, _, _, rfl, rfl, .tail _ (.tail _ (.head _))⟩
      | 5, hv => cases hv; exact ⟨_, _, _, _, _, rfl, rfl, .tail _ (.head _)⟩
      | n + 6, hv => simp at hv
  case lt =>
    intro p hp
    have g1 := l1 p hp
    have g2 := Nat.lt_trans g1 l2.1
    have g3 := Nat.lt_trans g2 l3.1
    have g4 := Nat.lt_trans g3 l4.1
    have g5 := Nat.lt_trans g4 l5.1
    have g6 := Nat.lt_trans g5 l6.1
    exact all_cons (Nat.lt_trans g6 l7.1) (all_cons g6 (all_cons g5 (all_cons g4 (all_cons g3 (all_cons g2 (all_cons g1 all_nil))))))

end Mine
end
-- part T2
section
namespace Mine
set_option maxRecDepth 100000
set_option maxHeartbeats 8000000
theorem off1_mem {D : Addr} : ∀ {l : List (Addr × Obj)}, LCg.Off1 D l → ∀ p ∈ l, p.1 ≠ D
  | [], _, _, h => nomatch h
  | _ :: _, ⟨h1, h2⟩, p, h => (List.mem_cons.mp h).elim (fun e => e ▸ h1) fun h => off1_mem h2 p h
theorem steps_in {i : Nat} {x y : Int} (h : stepsL[i]? = some (x, y)) : -1 ≤ x ∧ x ≤ 1 ∧ -1 ≤ y ∧ y ≤ 1 := by
  have : ∀ p ∈ stepsL, -1 ≤ p.1 ∧ p.1 ≤ 1 ∧ -1 ≤ p.2 ∧ p.2 ≤ 1 := by decide
  exact this _ (List.mem_of_getElem? h)
theorem t0 (w : World) (mean : ExcName → Option Value) (mg mb : Str → Option Value) (fa : Addr) (cd : Value) (h₀ : Heap) (L : Nat) (m : Str → Option Value) (s : Shared) (Q : Flow → Shared → Prop) (B : Below callerA h₀ [] h₀) (X : (hd.heap_39 w.params).In h₀) (T : Top hd.view_39 (looseW hd.view_39 [Str.ofString "Whitespace"]) mean mg mb h₀)
   (c : Cst) (o9 : Obj) (q : Row) (d9 : o9.data = .cell (some (.ref q.a))) (hq4 : q.t < 4 ∧ q.b < 4) (tA : Nat) (rest : List (Addr × Obj)) (hT : StepIn rest tA) (hq : RowIn c rest q) (N : News h₀ L s.heap ((L + 9, o9) :: rest)) (F : Fr h₀ L s.heap (fun y => if y = Str.ofString "steps" then some (.ref tA) else m y))
   (hQ : ∀ h' tk' (D : Nat) (ys : List Value), ys.length = 6 → (∀ (i : Nat) y, ys[i]? = some y → ∃ u p, stepsL[i]? = some p ∧ y = .str (lead (q.t + p.1) (q.b + p.2)) u) → (∀ p ∈ rest, p.1 ≠ D) → Fr h₀ L h' (fun y => if y = Str.ofString "near" then some (.ref D) else if y = Str.ofString "steps" then some (.ref tA) else m y) → News h₀ L h' ((D, LCg.lst ys) :: (L + 9, o9) :: rest) → Q .next { s with heap := h', toks := tk' }) :
   wpAny (model PySem.Challenge.rw_pu0052_01.row.prog w) (callerA.deeper (envOfC (Str.ofString "law") lawScope L fa cd)) (exec (nthS 0 (forBody (st 17))) (envOfC (Str.ofString "law") lawScope L fa cd)) Q (fun _ _ => False) s := by
  revert X; k_fill; intro X
  have hStop0 := stop "exec Assign cons ListComp"
  have hStop1 := stop "SrcLP"
  have hStop2 := stop "call ref"
  conv in (nthS 0 (forBody (st 17))) => whnf
  obtain ⟨x1, y1, z1, mq⟩ := hq
  obtain ⟨its, k, h6, ml, hit⟩ := hT
  have N0 : News h₀ L s.heap ((tA, listOf its k) :: (q.a, tup3 (cost c q.t q.b) ((q.t : Int) + q.b) (q.t : Int) x1 y1 z1) :: (L + 9, o9) :: rest) := news_dup (news_dup N (.tail _ mq)) (.tail _ (.tail _ ml))
  clear N
  replace hit := Hold.mk hit
  k_steps
  refine Hold.mk (LCp.Assign_ListComp_P (F₀ := by k_asm) (by rfl) (by with_unfolding_all rfl) (by with_unfolding_all rfl) (by decide) (by rfl) (by decide) (by rfl) (by rfl) (by decide) (by rfl) (by rfl) ?_)
  k_steps
  refine Hold.mk (LCp.SrcLP.ledger (k := k) (its := its) (by rfl) (by k_asm) N0 (.head _) (by rw [h6, PySem.sizeLine_eq]; decide) ?_)
  intro g
  rw [h6]
  refine comp_pureP (fun i y => ∃ u p, stepsL[i]? = some p ∧ y = .str (lead (q.t + p.1) (q.b + p.2)) u) (fun i v₁ v₂ => ∃ x y tx ty, stepsL[i]? = some (x, y) ∧ v₁ = .int x tx ∧ v₂ = .int y ty) (.inr ⟨_, .head _, rfl, _, rfl⟩) ?_ ?_ ?_
  · intro i v hi hv
    obtain ⟨e, x, y, tx, ty, rfl, hs, hm⟩ := hit.out i v hv
    exact ⟨e, _, _, _, _, rfl, .tail _ (.tail _ (.tail _ hm)), rfl, rfl, x, y, tx, ty, hs, rfl, rfl⟩
  · rintro i v₁ v₂ I oI C oC D m₂ ys h tk E' ⟨x, y, tx, ty, hs, rfl, rfl⟩ hC hx hx2 F2 N2
    obtain ⟨b1, b2, b3, b4⟩ := steps_in hs
    obtain ⟨b5, b6⟩ := hq4
    clear N0
    have e0 : (q.t : Int) + q.b - q.t + y = q.b + y := by omega
    k_steps
    rw [e0]
    refine' Hold.mk (lead_ok w _ _ _ _ (by omega) (by omega) (by omega) (by omega) _ _ _ _ _ _ _ _ _ _ _ _ _ _ _ _ _ _ _ _ _ ?k1 ?k2 ?k3 ?k4 ?k5 ?k6 ?k7 ?k8 ?_)
    (case k1 => k_asm)
    (case k2 => k_asm)
    (case k3 => k_asm)
    (case k4 => k_asm)
    (case k5 => k_asm)
    (case k6 => rfl)
    (case k7 => decide)
    (case k8 => decide)
    intro t9 h9 tk9 F9 N9
    exact ⟨_, _, rfl, F9, N9, _, _, hs, rfl⟩
  · intro ys hl hys D h tk F2 N2 hoff
    exact hQ _ _ D ys hl hys (fun p hp => off1_mem hoff p (.tail _ (.tail _ (.tail _ hp)))) F2 (news_perm N2 (all_cons (.head _) (fun p hp => .tail _ (.tail _ (.tail _ hp)))))

end Mine
end
-- part S14
section
namespace Mine
set_option maxRecDepth 100000
set_option maxHeartbeats 8000000
/-- the costs by their leads, as the dict holds them -/
def cm (c : Cst) (R : List Row) : List (Str × Int) := R.foldl (fun d r => kdpPut d (lead r.t r.b) (cost c r.t r.b)) []
theorem cm_snoc (c : Cst) (R : List Row) (r : Row) : cm c (R ++ [r]) = kdpPut (cm c R) (lead r.t r.b) (cost c r.t r.b) := by
  unfold cm
  rw [List.foldl_append]
  rfl
theorem s14 (w : World) (mean : ExcName → Option Value) (mg mb : Str → Option Value) (fa : Addr) (cd : Value) (h₀ : Heap) (L : Nat) (m : Str → Option Value) (s : Shared) (Q : Flow → Shared → Prop) (B : Below callerA h₀ [] h₀) (X : (hd.heap_39 w.params).In h₀) (T : Top hd.view_39 (looseW hd.view_39 [Str.ofString "Whitespace"]) mean mg mb h₀)
   (c : Cst) (o10 : Obj) (v10 : Option Value) (d10 : o10.data = .cell v10) (R : List Row) (hR : R.length ≤ 16) (rn : Nat) (rest : List (Addr × Obj)) (hI : ∀ r ∈ R, RowIn c rest r) (hlt : ∀ r ∈ R, r.t < 4 ∧ r.b < 4) (ho : OwnOff rest [L + 10]) (hne : c.rA ≠ L + 10) (N : News h₀ L s.heap ((L + 10, o10) :: (c.rA, listOf (R.map Row.v).toArray rn) :: rest)) (F : Fr h₀ L s.heap (fun y => if y = Str.ofString "rows" then some (.ref c.rA) else m y))
   (hQ : ∀ h' tk' (D : Nat) oD o10' kvs, o10'.data = .cell (some (.ref D)) → oD.IsDictOf (strKind PySem.Challenge.rw_pu0052_01.row.prog w) kvs → PyProof.V.FlatPairs PyData.str kvs (kdpD (cm c R)) → (D == sysModules) = false → D ≠ L + 10 → (∀ p ∈ rest, p.1 ≠ D) → Fr h₀ L h' (fun y => if y = Str.ofString "rows" then some (.ref c.rA) else m y) → News h₀ L h' ((L + 10, o10') :: (D, oD) :: (c.rA, listOf (R.map Row.v).toArray rn) :: rest) → Q .next { s with heap := h', toks := tk' }) :
   wpAny (model PySem.Challenge.rw_pu0052_01.row.prog w) (callerA.deeper (envOfC (Str.ofString "law") lawScope L fa cd)) (exec (st 14) (envOfC (Str.ofString "law") lawScope L fa cd)) Q (fun _ _ => False) s := by
  revert X; k_fill; intro X
  have hStop0 := stop "eval DictComp"
  have hStop1 := stop "call ref"
  conv in (st 14) => whnf
  have hsz : (R.map Row.v).toArray.size = R.length := by rw [List.size_toArray, List.length_map]
  k_steps
  refine Hold.mk (DictComp_L (h₀ := h₀) (L := L) (m := fun y => if y = Str.ofString "rows" then some (.ref c.rA) else m y) (news := (L + 10, o10) :: (c.rA, listOf (R.map Row.v).toArray rn) :: rest) R.length c.rA (R.map Row.v).toArray rn (fun i kvs => kvs.length ≤ i ∧ PyProof.V.FlatPairs PyData.str kvs (kdpD (cm c (R.take i)))) (by with_unfolding_all rfl) (by decide) (by rfl) (by decide) (by rfl) rfl (.tail _ (.head _)) hsz (by rw [PySem.sizeLine_eq]; omega) ⟨Nat.le_refl _, .nil⟩ (fun i kvs h => h.1) ?_ ?_ ?_)
  · k_steps
    exact ⟨_, _, rfl, rfl, by k_asm, by k_asm⟩
  · intro tk i v kvs I oI C oC D8 oD m₂ h tk8 E' hi hP hRl hC hx F2 N2
    obtain ⟨q, hq, rfl⟩ : ∃ q, R[i]? = some q ∧ v = .ref q.a := by
      simp only [List.getElem?_toArray, List.getElem?_map, Option.map_eq_some_iff] at hP
      obtain ⟨q, h1, h2⟩ := hP
      exact ⟨q, h1, h2.symm⟩
    have hqm := List.mem_of_getElem? hq
    obtain ⟨x1, y1, z1, mq⟩ := hI q hqm
    obtain ⟨b1, b2⟩ := hlt q hqm
    have N3 : News h₀ L h ((q.a, tup3 (cost c q.t q.b) ((q.t : Int) + q.b) (q.t : Int) x1 y1 z1) :: (I, oI) :: (C, oC) :: (D8, oD) :: (L + 10, o10) :: (c.rA, listOf (R.map Row.v).toArray rn) :: rest) := news_dup N2 (.tail _ (.tail _ (.tail _ (.tail _ (.tail _ mq)))))
    clear N2 hP
    replace hI := Hold.mk hI
    replace hlt := Hold.mk hlt
    replace hRl := Hold.mk hRl
    have e0 : (q.t : Int) + q.b - q.t = q.b := by omega
    k_steps
    refine' Hold.mk (lead_ok w q.t _ _ _ (by omega) (by omega) (by omega) (by omega) _ _ _ _ _ _ _ _ _ _ _ _ _ _ _ _ _ _ _ _ _ ?k1 ?k2 ?k3 ?k4 ?k5 ?k6 ?k7 ?k8 ?_)
    (case k1 => k_asm)
    (case k2 => k_asm)
    (case k3 => k_asm)
    (case k4 => k_asm)
    (case k5 => k_asm)
    (case k6 => rfl)
    (case k7 => decide)
    (case k8 => decide)
    intro t9 h9 tk9 F9 N9
    clear N3 F2
    rw [e0]
    generalize hld : lead q.t q.b = ld
    dsimp only
    k_steps
    obtain ⟨g1, g2⟩ := hRl.out
    have g3 := PySem.stored_length_le kvs ld (Value.int (cost c q.t q.b) x1)
    refine ⟨_, _, ld, t9, rfl, rfl, F9, news_tl N9, by omega, ?_⟩
    rw [List.take_add_one, hq]
    show PyProof.V.FlatPairs PyData.str _ (kdpD (cm c (R.take i ++ [q])))
    rw [cm_snoc, ← kdpD_put, hld]
    exact PyProof.V.FlatPairs.stored PyProof.V.same_str g2 ld (PyProof.V.Flat.int _ _)
  · intro tk D8 h tk8 kvs oD F2 N2 hoD hlt' hRl
    rw [List.take_length] at hRl
    have n1 : L + 10 < D8 := hlt' _ (.head _)
    have n2 : c.rA < D8 := hlt' _ (.tail _ (.head _))
    have n3 : ∀ p ∈ rest, p.1 < D8 := fun p hp => hlt' p (.tail _ (.tail _ hp))
    have n4 : D8 ≠ L + 10 := Nat.ne_of_gt n1
    replace hlt' := Hold.mk hlt'
    replace hI := Hold.mk hI
    replace hlt := Hold.mk hlt
    replace hRl := Hold.mk hRl
    replace n3 := Hold.mk n3
    k_steps
    rename News _ _ _ _ => N9
    exact hQ _ _ D8 oD _ kvs (by assumption) hoD hRl.out.2 (beq_eq_false_iff_ne.mpr (Nat.ne_of_gt (Nat.lt_of_le_of_lt (show 1 ≤ L + 10 by omega) n1))) n4 (fun p hp => Nat.ne_of_lt (n3.out p hp)) (by k_asm) (news_perm N9 (all_cons (.tail _ (.head _)) (all_cons (.head _) (fun q hq => .tail _ (.tail _ hq)))))

end Mine
end
-- part PT
section
namespace Mine
set_option maxRecDepth 100000
/-- the values whose sign is true -/
def pick (vs : List Value) (bs : List Bool) : List Value := ((vs.zip bs).filter (·.2)).map (·.1)
theorem pick_snoc (vs : List Value) (bs : List Bool) (v : Value) (b : Bool) (h : vs.length = bs.length) : pick (vs ++ [v]) (bs ++ [b]) = pick vs bs ++ (if b = true then [v] else []) := by
  unfold pick
  rw [List.zip_append h, List.filter_append, List.map_append]
  cases b <;> rfl
section
variable {prog : Program} {w : World} {A : Around} {s : Shared} {h₀ : Heap} {L : Addr} {m : Str → Option Value} {env : Env}
/-- a list comprehension that picks of a list by a test that makes nothing that is kept -/
theorem comp_pureT {ct elt : PySem.Expr} {x : Str} {scope : Scope} {cl : List (Str × Addr)} {S : List (Addr × Obj) → Prop} {Fin : List Value → List (Addr × Obj) → Prop} {its : Array Value} {n : Nat} {news : List (Addr × Obj)} (bs : List Bool) (hn : its.size = n) (hbs : bs.length = n) (hS : S news)
    (test : ∀ (i : Nat) v b I oI C oC D m₂ ys h tk (E' : Value → Shared → Prop), its[i]? = some v → bs[i]? = some b → LCg.NsObj oC m₂ → m₂ x = some v → Fr h₀ L h m → News h₀ L h ((I, oI) :: (C, oC) :: (D, LCg.lst ys) :: news) →
      wpAny (model prog w) A (isTrue ct (compEnvC scope cl C env) (eval ct (compEnvC scope cl C env))) (fun ok s₂ => Hold (ok = b ∧ ∃ h' tk', s₂ = { s with heap := h', toks := tk' } ∧ Fr h₀ L h' m ∧ News h₀ L h' ((I, oI) :: (C, oC) :: (D, LCg.lst ys) :: news))) E' { s with heap := h, toks := tk })
    (item : ∀ v I oI C oC D m₂ ys h tk (E' : Value → Shared → Prop), LCg.NsObj oC m₂ → m₂ x = some v → Fr h₀ L h m → News h₀ L h ((I, oI) :: (C, oC) :: (D, LCg.lst ys) :: news) →
      wpAny (model prog w) A (eval elt (compEnvC scope cl C env)) (fun y s₂ => Hold (y = v ∧ ∃ h' tk', s₂ = { s with heap := h', toks := tk' } ∧ Fr h₀ L h' m ∧ News h₀ L h' ((I, oI) :: (C, oC) :: (D, LCg.lst ys) :: news))) E' { s with heap := h, toks := tk })
    (fin : Fin (pick its.toList bs) news) :
    LCt.CompRestT prog w A h₀ L m env ct elt x scope cl s S (fun i v => its[i]? = some v) Fin n 0 [] news := by
  have go : ∀ k i, i + k = n → LCt.CompRestT prog w A h₀ L m env ct elt x scope cl s S (fun i v => its[i]? = some v) Fin k i (pick (its.toList.take i) (bs.take i)) news := by
    intro k
    induction k with
    | zero =>
      intro i h1
      refine LCt.CompRestT.zero ?_
      rw [List.take_of_length_le (by rw [Array.length_toList]; omega), List.take_of_length_le (by omega)]
      exact fin
    | succ k ih =>
      intro i h1
      refine LCt.CompRestT.succ ?_
      intro v I oI C oC D m₂ h tk E' hP hC hx F N off _
      obtain ⟨b, hb⟩ : ∃ b, bs[i]? = some b := ⟨_, List.getElem?_eq_getElem (by omega)⟩
      have hv : its.toList[i]? = some v := by rw [Array.getElem?_toList]; exact hP
      have e : pick (its.toList.take (i + 1)) (bs.take (i + 1)) = pick (its.toList.take i) (bs.take i) ++ (if b = true then [v] else []) := by
        rw [List.take_add_one, List.take_add_one, hv, hb]
        exact pick_snoc _ _ _ _ (by rw [List.length_take, List.length_take, Array.length_toList]; omega)
      have ih' := ih (i + 1) (by omega)
      rw [e] at ih'
      refine wpAny_mono (test i v b I oI C oC D m₂ _ h tk E' hP hb hC hx F N) ?_ (fun _ _ e => e)
      rintro ok s₂ ⟨rfl, h', tk', rfl, F', N'⟩
      cases ok with
      | true =>
        rw [if_pos rfl] at ih' ⊢
        refine wpAny_mono (item v I oI C oC D m₂ _ h' tk' E' hC hx F' N') ?_ (fun _ _ e => e)
        rintro y s₃ ⟨rfl, h3, tk3, rfl, F3, N3⟩
        exact ⟨h3, tk3, news, rfl, F3, N3, off, hS, ih'⟩
      | false =>
        rw [if_neg (by decide)] at ih' ⊢
        rw [List.append_nil] at ih'
        exact ⟨h', tk', news, rfl, F', N', off, hS, ih'⟩
  exact go n 0 (by omega)
end
end Mine
end
-- part T3
section
namespace Mine
set_option maxRecDepth 100000
set_option maxHeartbeats 8000000
theorem pick_nil : ∀ (vs : List Value) (bs : List Bool), vs.length = bs.length → (pick vs bs = [] ↔ bs = List.replicate bs.length false)
  | [], [], _ => ⟨fun _ => rfl, fun _ => rfl⟩
  | v :: vs, b :: bs, h => by
    have ih := pick_nil vs bs (Nat.succ.inj h)
    have e : pick (v :: vs) (b :: bs) = (if b = true then [v] else []) ++ pick vs bs := by
      unfold pick
      rw [List.zip_cons_cons, List.filter_cons]
      cases b <;> rfl
    rw [e, List.length_cons, List.replicate_succ]
    cases b with
    | true => exact ⟨fun h => (nomatch h), fun h => (nomatch (List.cons.inj h).1)⟩
    | false =>
      rw [if_neg (by decide), List.nil_append]
      exact ih.trans ⟨fun h => congrArg _ h, fun h => (List.cons.inj h).2⟩
/-- a cheaper place stands beside the row, step by step -/
def lows (c : Cst) (R : List Row) (q : Row) : List Bool := stepsL.map fun p => decide (kdpLook (cm c R) (lead (q.t + p.1) (q.b + p.2)) (cost c q.t q.b) < cost c q.t q.b)
theorem t1 (w : World) (mean : ExcName → Option Value) (mg mb : Str → Option Value) (fa : Addr) (cd : Value) (h₀ : Heap) (L : Nat) (m : Str → Option Value) (s : Shared) (Q : Flow → Shared → Prop) (B : Below callerA h₀ [] h₀) (X : (hd.heap_39 w.params).In h₀) (T : Top hd.view_39 (looseW hd.view_39 [Str.ofString "Whitespace"]) mean mg mb h₀)
   (c : Cst) (R : List Row) (o9 o10 oC : Obj) (q : Row) (d9 : o9.data = .cell (some (.ref q.a))) (dC D vA vn : Nat) (d10 : o10.data = .cell (some (.ref dC))) (kvs : List (Str × Value)) (hC1 : (dC == sysModules) = false) (hC2 : oC.IsDictOf (strKind PySem.Challenge.rw_pu0052_01.row.prog w) kvs) (hC3 : PyProof.V.FlatPairs PyData.str kvs (kdpD (cm c R))) (ys : List Value) (h6 : ys.length = 6) (hys : ∀ (i : Nat) y, ys[i]? = some y → ∃ u p, stepsL[i]? = some p ∧ y = .str (lead (q.t + p.1) (q.b + p.2)) u) (V : List Row) (hV : V.length ≤ 16) (rest : List (Addr × Obj)) (hq : RowIn c rest q) (ho : OwnOff ((D, LCg.lst ys) :: (L + 9, o9) :: (L + 10, o10) :: (dC, oC) :: rest) [vA]) (N : News h₀ L s.heap ((D, LCg.lst ys) :: (L + 9, o9) :: (L + 10, o10) :: (dC, oC) :: (vA, listOf (V.map Row.v).toArray vn) :: rest)) (F : Fr h₀ L s.heap (fun y => if y = Str.ofString "near" then some (.ref D) else if y = Str.ofString "valleys" then some (.ref vA) else m y))
   (hQ : ∀ h' tk' vn', Fr h₀ L h' (fun y => if y = Str.ofString "near" then some (.ref D) else if y = Str.ofString "valleys" then some (.ref vA) else m y) → News h₀ L h' ((L + 9, o9) :: (L + 10, o10) :: (dC, oC) :: (vA, listOf ((if lows c R q = List.replicate 6 false then V ++ [q] else V).map Row.v).toArray vn') :: rest) → Q .next { s with heap := h', toks := tk' }) :
   wpAny (model PySem.Challenge.rw_pu0052_01.row.prog w) (callerA.deeper (envOfC (Str.ofString "law") lawScope L fa cd)) (exec (nthS 1 (forBody (st 17))) (envOfC (Str.ofString "law") lawScope L fa cd)) Q (fun _ _ => False) s := by
  revert X; k_fill; intro X
  have hStop0 := stop "eval ListComp"
  have hStop1 := stop "CompSrcT"
  have hStop2 := stop "call builtin:dict.get"
  have hStop3 := stop "compareOp Eq ref ref"
  conv in (nthS 1 (forBody (st 17))) => whnf
  obtain ⟨x1, y1, z1, mq⟩ := hq
  have N0 : News h₀ L s.heap ((q.a, tup3 (cost c q.t q.b) ((q.t : Int) + q.b) (q.t : Int) x1 y1 z1) :: (D, LCg.lst ys) :: (L + 9, o9) :: (L + 10, o10) :: (dC, oC) :: (vA, listOf (V.map Row.v).toArray vn) :: rest) := news_dup N (.tail _ (.tail _ (.tail _ (.tail _ (.tail _ mq)))))
  clear N
  replace hys := Hold.mk hys
  replace ho := Hold.mk ho
  k_steps
  refine Hold.mk (LCt.ListComp_T (F₀ := by k_asm) (by with_unfolding_all rfl) (by decide) (by rfl) (by decide) (by rfl) ?_)
  k_steps
  refine Hold.mk (LCt.CompSrcT.ledger (k := ys.length) (its := ys.toArray) (by rfl) (by k_asm) N0 (.tail _ (.head _)) (by rw [List.size_toArray, h6, PySem.sizeLine_eq]; decide) ?_)
  intro g
  rw [show ys.toArray.size = 6 by rw [List.size_toArray, h6]]
  refine comp_pureT (lows c R q) (by rw [List.size_toArray, h6]) rfl (.inr ⟨_, .tail _ (.head _), rfl, _, rfl⟩) ?_ ?_ ?_
  · intro i v b I oI C oC' D' m₂ ys' h tk E' hv hb hC hx F2 N2
    obtain ⟨u, p, hp, rfl⟩ := hys.out i v (by simpa using hv)
    have hb' : b = decide (kdpLook (cm c R) (lead (q.t + p.1) (q.b + p.2)) (cost c q.t q.b) < cost c q.t q.b) := by
      unfold lows at hb
      rw [List.getElem?_map, hp] at hb
      exact (Option.some.inj hb).symm
    clear hb hv hp N0
    generalize lead (q.t + p.1) (q.b + p.2) = wd at *
    k_steps
    rename Fr h₀ _ _ _ => F5
    rename News h₀ _ _ _ => N5
    refine Hold.mk (kdp_get2 (c := cm c R) (TabAt.ofNews (o := oC) (kvs := kvs) N5 (by k_mem) hC1 hC2 hC3) ?_)
    intro t9
    generalize kdpLook _ _ _ = lk at *
    k_steps
    exact ⟨hb'.symm, _, _, rfl, F5, N5⟩
  · intro v I oI C oC' D' m₂ ys' h tk E' hC hx F2 N2
    clear N0
    k_steps
    exact ⟨rfl, _, _, rfl, by k_asm, by k_asm⟩
  · intro D2 h tk F2 N2 hoff
    have hp := pick_nil ys (lows c R q) (by rw [h6]; rfl)
    rw [List.toList_toArray] at N2
    clear N0 hoff
    generalize hpk : pick ys (lows c R q) = pk at *
    by_cases hl : lows c R q = List.replicate 6 false
    · rw [if_pos hl] at hQ
      have e := hp.mpr hl
      subst e
      k_steps
      rename News h₀ _ _ _ => N5
      refine Hold.mk (PySem.P.eq_list (items := #[]) (items2 := #[]) (e := fun _ => true) (N5 _ (.tail _ (.head _))).1 (N5 _ (.head _)).1 rfl (fun j h => absurd h (Nat.not_lt_zero _)) (Nat.le_of_ble_eq_true rfl) ?_)
      have n1 := ho.out _ (.head _) vA (.head _)
      have n2 := ho.out _ (.tail _ (.head _)) vA (.head _)
      have n3 := ho.out _ (.tail _ (.tail _ (.head _))) vA (.head _)
      have n4 := ho.out _ (.tail _ (.tail _ (.tail _ (.head _)))) vA (.head _)
      have n5 : OwnOff rest [vA] := fun p hp => ho.out p (.tail _ (.tail _ (.tail _ (.tail _ hp))))
      dsimp only at n1 n2 n3 n4
      rename Fr h₀ _ _ _ => F5
      have N6 := news_perm N5 (all_cons (.tail _ (.tail _ (.tail _ (.tail _ (.head _))))) (all_cons (.tail _ (.tail _ (.tail _ (.tail _ (.tail _ (.head _)))))) (all_cons (.tail _ (.tail _ (.tail _ (.tail _ (.tail _ (.tail _ (.head _))))))) (all_cons (.tail _ (.tail _ (.tail _ (.tail _ (.tail _ (.tail _ (.tail _ (.head _)))))))) (fun p hp => .tail _ (.tail _ (.tail _ (.tail _ (.tail _ (.tail _ (.tail _ (.tail _ hp))))))))))))
      clear N5
      have hV' : (V.map Row.v).length ≤ 16 := by rw [List.length_map]; exact hV
      have eV : (V ++ [q]).map Row.v = V.map Row.v ++ [Value.ref q.a] := by rw [List.map_append]; rfl
      rw [eV] at hQ
      generalize V.map Row.v = vv at *
      k_steps
      rename News h₀ _ _ _ => N7
      rw [List.push_toArray] at N7
      exact hQ _ _ _ (by k_asm) N7
    · rw [if_neg hl] at hQ
      have hne : pk ≠ [] := fun e => hl (hp.mp e)
      k_steps
      rename News h₀ _ _ _ => N5
      refine Hold.mk (PySem.P.eq_list_lengths (items := pk.toArray) (items2 := #[]) (N5 _ (.tail _ (.head _))).1 (N5 _ (.head _)).1 (by cases pk with | nil => exact absurd rfl hne | cons a r => simp) (Nat.le_of_ble_eq_true rfl) ?_)
      k_steps
      exact hQ _ _ _ (by k_asm) (news_perm N5 (all_cons (.tail _ (.tail _ (.tail _ (.tail _ (.head _))))) (all_cons (.tail _ (.tail _ (.tail _ (.tail _ (.tail _ (.head _)))))) (all_cons (.tail _ (.tail _ (.tail _ (.tail _ (.tail _ (.tail _ (.head _))))))) (all_cons (.tail _ (.tail _ (.tail _ (.tail _ (.tail _ (.tail _ (.tail _ (.head _)))))))) (fun p hp => .tail _ (.tail _ (.tail _ (.tail _ (.tail _ (.tail _ (.tail _ (.tail _ hp)))))))))))))

end Mine
end
-- part T4
section
namespace Mine
set_option maxRecDepth 100000
set_option maxHeartbeats 8000000
/-- no cheaper place stands beside the row -/
def isVal (c : Cst) (R : List Row) (q : Row) : Bool := decide (lows c R q = List.replicate 6 false)
/-- frames that differ at near alone -/
def Same3 (m m' : Str → Option Value) : Prop := ∀ z, z ≠ Str.ofString "near" → m' z = m z
/-- what holds between the turns of the search for valleys -/
def Jva (L : Nat) (c : Cst) (m₀ : Str → Option Value) (R O : List Row) (vA dC : Nat) (o10 oC : Obj) (K : List (Addr × Obj)) (i : Nat) (m : Str → Option Value) (nx : List (Addr × Obj)) : Prop :=
  ∃ o9 v9 vn, nx = (L + 9, o9) :: (L + 10, o10) :: (dC, oC) :: (vA, listOf (((O.take i).filter (isVal c R)).map Row.v).toArray vn) :: K ∧ o9.data = .cell v9 ∧ Same3 m₀ m
theorem va_turn (w : World) (mean : ExcName → Option Value) (mg mb : Str → Option Value) (fa : Addr) (cd : Value) (h₀ : Heap) (L : Nat) (m₀ : Str → Option Value) (s : Shared) (Q : Flow → Shared → Prop) (B : Below callerA h₀ [] h₀) (X : (hd.heap_39 w.params).In h₀) (T : Top hd.view_39 (looseW hd.view_39 [Str.ofString "Whitespace"]) mean mg mb h₀)
   (c : Cst) (R O : List Row) (hO : O.length ≤ 16) (hlt : ∀ r ∈ O, r.t < 4 ∧ r.b < 4) (tA vA dC : Nat) (o10 oC : Obj) (ht : m₀ (Str.ofString "steps") = some (.ref tA)) (hv : m₀ (Str.ofString "valleys") = some (.ref vA)) (d10 : o10.data = .cell (some (.ref dC))) (kvs : List (Str × Value)) (hC1 : (dC == sysModules) = false) (hC2 : oC.IsDictOf (strKind PySem.Challenge.rw_pu0052_01.row.prog w) kvs) (hC3 : PyProof.V.FlatPairs PyData.str kvs (kdpD (cm c R)))
   (K : List (Addr × Obj)) (hK : StepIn K tA) (hI : ∀ r ∈ O, RowIn c K r) (ho : OwnOff K [L + 9, vA]) (n9 : L + 9 ≠ vA) (n10 : L + 10 ≠ vA) (nd : dC ≠ vA) (nd9 : dC ≠ L + 9) :
   TurnC PySem.Challenge.rw_pu0052_01.row.prog w (callerA.deeper (envOfC (Str.ofString "law") lawScope L fa cd)) h₀ (envOfC (Str.ofString "law") lawScope L fa cd) (Str.ofString "row") (forBody (st 17)) Q (fun _ _ => False) s (O.map Row.v).toArray.size (fun i v => (O.map Row.v).toArray[i]? = some v) (Jva L c m₀ R O vA dC o10 oC K) := by
  rintro i v m₁ nx h tk own hi hv' hown ⟨o9, v9, vn, rfl, d9, S1⟩ F N
  obtain ⟨q, hq, rfl⟩ : ∃ q, O[i]? = some q ∧ v = .ref q.a := by
    simp only [List.getElem?_toArray, List.getElem?_map, Option.map_eq_some_iff] at hv'
    obtain ⟨q, h1, h2⟩ := hv'
    exact ⟨q, h1, h2.symm⟩
  clear hv'
  have hqm := List.mem_of_getElem? hq
  have own9 : OwnOff own [L + 9] := off_sub hown (by intro b hb; rw [List.mem_singleton.mp hb]; exact .head _)
  have ownv : OwnOff own [vA] := off_sub hown (by intro b hb; rw [List.mem_singleton.mp hb]; exact .tail _ (.tail _ (.tail _ (.head _))))
  have kup : ∀ e ∈ K, e ∈ K ++ own := fun e he => List.mem_append_left _ he
  refine put_cell (c := L + 9) (rest := (L + 10, o10) :: (dC, oC) :: (vA, listOf (((O.take i).filter (isVal c R)).map Row.v).toArray vn) :: (K ++ own)) rfl (by rfl) (by rfl) d9 N ?_ F ?_
  · exact off_cons (by show L + 10 ≠ L + 9; omega) (off_cons nd9 (off_cons (Ne.symm n9) (off_app (off_of ho (.head _)) own9)))
  intro h1 o9' d9' F1 N1
  have e1 : forBody (st 17) = [nthS 0 (forBody (st 17)), nthS 1 (forBody (st 17))] := rfl
  rw [e1]
  clear e1
  have et : m₁ (Str.ofString "steps") = some (.ref tA) := (S1 _ (by decide)).trans ht
  have ev : m₁ (Str.ofString "valleys") = some (.ref vA) := (S1 _ (by decide)).trans hv
  have up : ∀ e ∈ K, e ∈ (L + 10, o10) :: (dC, oC) :: (vA, listOf (((O.take i).filter (isVal c R)).map Row.v).toArray vn) :: (K ++ own) := fun e he => .tail _ (.tail _ (.tail _ (kup e he)))
  have l1 : ∀ e ∈ [(Str.ofString "steps", Value.ref tA)], m₁ e.1 = some e.2 := all_cons et all_nil
  obtain ⟨y1, y2, y3, mq⟩ := hI q hqm
  refine wpAny_execs_cons (t0 w mean mg mb fa cd h₀ L m₁ _ _ B X T c o9' q d9' (hlt q hqm) tA _ (let ⟨a, b, d, e, f⟩ := hK; ⟨a, b, d, up _ e, fun i v hv => let ⟨p, x, y, tx, ty, r1, r2, r3⟩ := f i v hv; ⟨p, x, y, tx, ty, r1, r2, up _ r3⟩⟩) ⟨y1, y2, y3, up _ mq⟩ N1 (fr_names F1 _ l1) ?_)
  intro h2 tk2 D ys h6 hys hD F2 N2
  dsimp only
  replace F2 := fr_back l1 F2
  obtain ⟨m2, e2, S2, F2⟩ : ∃ m2 : Str → Option Value, (m2 (Str.ofString "near") = some (.ref D) ∧ m2 (Str.ofString "valleys") = some (.ref vA)) ∧ Same3 m₀ m2 ∧ Fr h₀ L h2 m2 := by
    refine ⟨(fun y => if y = Str.ofString "near" then some (.ref D) else m₁ y), ⟨rfl, ev⟩, fun z hz => ?_, F2⟩
    show (if z = _ then _ else m₁ z) = _
    rw [if_neg hz]
    exact S1 z hz
  have l2 : ∀ e ∈ [(Str.ofString "near", Value.ref D), (Str.ofString "valleys", Value.ref vA)], m2 e.1 = some e.2 := all_cons e2.1 (all_cons e2.2 all_nil)
  refine wpAny_execs_cons (t1 w mean mg mb fa cd h₀ L m2 _ _ B X T c R o9' o10 oC q d9' dC D vA vn d10 kvs hC1 hC2 hC3 ys h6 hys ((O.take i).filter (isVal c R)) (Nat.le_trans (List.length_filter_le _ _) (by rw [List.length_take]; omega)) (K ++ own) ⟨y1, y2, y3, kup _ mq⟩ ?_ N2 (fr_names F2 _ l2) ?_)
  · exact off_cons (Ne.symm (hD _ (.tail _ (.tail _ (.head _))))) (off_cons n9 (off_cons n10 (off_cons nd (off_app (off_of ho (.tail _ (.head _))) ownv))))
  intro h3 tk3 vn' F3 N3
  refine wpAny_execs_nil ?_
  replace F3 := fr_back0 l2 F3
  have eV : (if lows c R q = List.replicate 6 false then (O.take i).filter (isVal c R) ++ [q] else (O.take i).filter (isVal c R)) = (O.take (i + 1)).filter (isVal c R) := by
    rw [List.take_add_one, hq, List.filter_append]
    show _ = _ ++ List.filter (isVal c R) [q]
    rw [List.filter_cons]
    unfold isVal
    by_cases e : lows c R q = List.replicate 6 false
    · rw [if_pos e, decide_eq_true e]
      rfl
    · rw [if_neg e, decide_eq_false e]
      exact (List.append_nil _).symm
  rw [eV] at N3
  refine InvEndG.intro F3 N3 (nx := (L + 9, o9') :: (L + 10, o10) :: (dC, oC) :: (vA, listOf (((O.take (i + 1)).filter (isVal c R)).map Row.v).toArray vn') :: K) ⟨o9', _, vn', rfl, d9', S2⟩ ?_ ?_ ?_
  · exact off_sub hown (fun b hb => hb)
  · exact all_cons (.head _) (all_cons (.tail _ (.head _)) (all_cons (.tail _ (.tail _ (.head _))) (all_cons (.tail _ (.tail _ (.tail _ (.head _)))) (fun e he => .tail _ (.tail _ (.tail _ (.tail _ (kup e he))))))))
  · exact fun e he => .tail _ (.tail _ (.tail _ (.tail _ (List.mem_append_right _ he))))
theorem order_at (w : World) (fa : Addr) (cd : Value) (h₀ : Heap) (L : Nat) (m : Str → Option Value) (s : Shared) (news : List (Addr × Obj)) (oA : Addr) (N : News h₀ L s.heap news) (F : Fr h₀ L s.heap (fun y => if y = Str.ofString "order" then some (.ref oA) else m y)) :
   wpAny (model PySem.Challenge.rw_pu0052_01.row.prog w) (callerA.deeper (envOfC (Str.ofString "law") lawScope L fa cd)) (eval (forIter (st 17)) (envOfC (Str.ofString "law") lawScope L fa cd)) (fun xv s₁ => Hold (∃ h tk, xv = .ref oA ∧ s₁ = { s with heap := h, toks := tk } ∧ Fr h₀ L h (fun y => if y = Str.ofString "order" then some (.ref oA) else m y) ∧ News h₀ L h news)) (fun _ _ => False) s := by
  conv in (forIter _) => whnf
  k_steps
  exact ⟨_, _, rfl, rfl, by k_asm, by k_asm⟩
/-- statement 17: the places that have no cheaper one beside them -/
theorem va_loop (w : World) (mean : ExcName → Option Value) (mg mb : Str → Option Value) (fa : Addr) (cd : Value) (h₀ : Heap) (L : Nat) (m : Str → Option Value) (s : Shared) (Q : Flow → Shared → Prop) (B : Below callerA h₀ [] h₀) (X : (hd.heap_39 w.params).In h₀) (T : Top hd.view_39 (looseW hd.view_39 [Str.ofString "Whitespace"]) mean mg mb h₀)
   (c : Cst) (R O : List Row) (hO : O.length ≤ 16) (hlt : ∀ r ∈ O, r.t < 4 ∧ r.b < 4) (tA vA dC oA on : Nat) (o10 oC : Obj) (ht : m (Str.ofString "steps") = some (.ref tA)) (hv : m (Str.ofString "valleys") = some (.ref vA)) (hoo : m (Str.ofString "order") = some (.ref oA)) (d10 : o10.data = .cell (some (.ref dC))) (kvs : List (Str × Value)) (hC1 : (dC == sysModules) = false) (hC2 : oC.IsDictOf (strKind PySem.Challenge.rw_pu0052_01.row.prog w) kvs) (hC3 : PyProof.V.FlatPairs PyData.str kvs (kdpD (cm c R)))
   (K : List (Addr × Obj)) (hK : StepIn K tA) (hI : ∀ r ∈ O, RowIn c K r) (hl : (oA, listOf (O.map Row.v).toArray on) ∈ K) (ho : OwnOff K [L + 9, vA]) (n9 : L + 9 ≠ vA) (n10 : L + 10 ≠ vA) (nd : dC ≠ vA) (nd9 : dC ≠ L + 9) (vn : Nat) (o9 : Obj) (v9 : Option Value) (d9 : o9.data = .cell v9)
   (N : News h₀ L s.heap ((L + 9, o9) :: (L + 10, o10) :: (dC, oC) :: (vA, listOf #[] vn) :: K)) (F : Fr h₀ L s.heap m)
   (hQ : ∀ h' tk' m' o9' v9' vn', o9'.data = .cell v9' → Same3 m m' → Fr h₀ L h' m' → News h₀ L h' ((L + 9, o9') :: (L + 10, o10) :: (dC, oC) :: (vA, listOf ((O.filter (isVal c R)).map Row.v).toArray vn') :: K) → Q .next { s with heap := h', toks := tk' }) :
   wpAny (model PySem.Challenge.rw_pu0052_01.row.prog w) (callerA.deeper (envOfC (Str.ofString "law") lawScope L fa cd)) (exec (st 17) (envOfC (Str.ofString "law") lawScope L fa cd)) Q (fun _ _ => False) s := by
  obtain ⟨p1, p2, e⟩ : ∃ p1 p2, st 17 = .For (.Name (Str.ofString "row") p1) (forIter (st 17)) (forBody (st 17)) [] p2 := ⟨_, _, rfl⟩
  rw [e]
  have l1 : ∀ e ∈ [(Str.ofString "order", Value.ref oA)], m e.1 = some e.2 := all_cons hoo all_nil
  refine For_any h₀ (wpAny_mono (order_at w fa cd h₀ L m s _ oA N (fr_names F _ l1)) ?_ (fun _ _ h => h))
  rintro xv s₁ ⟨h1, tk1, rfl, rfl, F1, N1⟩
  refine it_list (its := (O.map Row.v).toArray) (k := on) (Jva L c m R O vA dC o10 oC K) rfl (.tail _ (.tail _ (.tail _ (.tail _ hl)))) (fr_back0 l1 F1) N1 ⟨o9, v9, vn, rfl, d9, fun _ _ => rfl⟩ ?_ (va_turn w mean mg mb fa cd h₀ L m _ Q B X T c R O hO hlt tA vA dC o10 oC ht hv d10 kvs hC1 hC2 hC3 K hK hI ho n9 n10 nd nd9) ?_
  · rintro i m' nx ⟨o9', v9', vn', rfl, _⟩
    exact .tail _ (.tail _ (.tail _ (.tail _ hl)))
  · rintro m' nx h' tk' ⟨o9', v9', vn', rfl, d9', S⟩ F' N'
    rw [List.size_toArray, List.length_map, List.take_length] at N'
    exact hQ h' tk' m' o9' v9' vn' d9' S F' N'
end Mine
end
-- part U1
section
namespace Mine
set_option maxRecDepth 100000
set_option maxHeartbeats 8000000
/-- a due triple before another -/
def lexD (c : Cst) (a b : Row) : Bool := lex3 (cost c a.t a.b) ((a.t : Int) + a.b) (-(a.t : Int)) (cost c b.t b.b) ((b.t : Int) + b.b) (-(b.t : Int))
theorem lex_dec {a b : Int} {X : Bool} : (if a = b then X else decide (a < b)) = true ↔ (a < b ∨ (a = b ∧ X = true)) := by
  by_cases h : a = b
  · rw [if_pos h]
    exact ⟨fun e => .inr ⟨h, e⟩, fun e => e.elim (fun e => absurd (h ▸ e) (Int.lt_irrefl b)) And.right⟩
  · rw [if_neg h]
    exact ⟨fun e => .inl (of_decide_eq_true e), fun e => e.elim (fun e => decide_eq_true e) fun e => absurd e.1 h⟩
theorem lex3_iff (x1 x2 x3 y1 y2 y3 : Int) : lex3 x1 x2 x3 y1 y2 y3 = true ↔ (x1 < y1 ∨ (x1 = y1 ∧ (x2 < y2 ∨ (x2 = y2 ∧ x3 < y3)))) :=
  lex_dec.trans (or_congr Iff.rfl (and_congr Iff.rfl (lex_dec.trans (or_congr Iff.rfl (and_congr Iff.rfl decide_eq_true_iff)))))
theorem lexD_irr (c : Cst) (a : Row) : lexD c a a = false := by
  cases h : lexD c a a with
  | false => rfl
  | true =>
    have no : ∀ {a : Int}, ¬ a < a := fun {a} => Int.lt_irrefl a
    exact ((lex3_iff ..).mp h).elim (fun g => absurd g no) fun g => g.2.elim (fun g => absurd g no) fun g => absurd g.2 no
theorem lexD_trans {c : Cst} {x y z : Row} (h1 : lexD c x y = true) (h2 : lexD c y z = true) : lexD c x z = true :=
  (lex3_iff ..).mpr (lex_step (lex_step Int.lt_trans) ((lex3_iff ..).mp h1) ((lex3_iff ..).mp h2))
def btU (c : Cst) (U : List Row) (i j : Nat) : Bool := match U[i]?, U[j]? with
  | some a, some b => lexD c a b
  | _, _ => false
theorem btU_at {c : Cst} {U : List Row} {i j : Nat} {a b : Row} (h1 : U[i]? = some a) (h2 : U[j]? = some b) : btU c U i j = lexD c a b := by
  unfold btU
  rw [h1, h2]
theorem best_le (bt : Nat → Nat → Bool) : ∀ k, argBest bt k ≤ k
  | 0 => Nat.le_refl _
  | k + 1 => by
    show (if bt (k + 1) (argBest bt k) then k + 1 else argBest bt k) ≤ k + 1
    split
    · exact Nat.le_refl _
    · exact Nat.le_succ_of_le (best_le bt k)
theorem best_least {c : Cst} {U : List Row} : ∀ k, k < U.length → ∀ j u b, j ≤ k → U[j]? = some u → U[argBest (btU c U) k]? = some b → lexD c u b = false
  | 0, _, j, u, b, hj, hu, hb => by
    have e : j = 0 := by omega
    subst e
    have hb' : U[0]? = some b := hb
    rw [hu] at hb'
    cases hb'
    exact lexD_irr c u
  | k + 1, hk, j, u, b, hj, hu, hb => by
    obtain ⟨x, hx⟩ : ∃ x, U[k + 1]? = some x := ⟨_, List.getElem?_eq_getElem hk⟩
    obtain ⟨y, hy⟩ : ∃ y, U[argBest (btU c U) k]? = some y := ⟨_, List.getElem?_eq_getElem (Nat.lt_of_le_of_lt (best_le _ k) (by omega))⟩
    have e : argBest (btU c U) (k + 1) = if btU c U (k + 1) (argBest (btU c U) k) then k + 1 else argBest (btU c U) k := rfl
    rw [btU_at hx hy] at e
    have ih := best_least (c := c) (U := U) k (by omega)
    cases hc : lexD c x y with
    | true =>
      rw [hc, if_pos rfl] at e
      rw [e, hx] at hb
      obtain rfl : x = b := Option.some.inj hb
      by_cases h : j = k + 1
      · subst h
        rw [hx] at hu
        cases hu
        exact lexD_irr c _
      · cases hux : lexD c u x with
        | false => rfl
        | true => exact absurd (lexD_trans hux hc) (by rw [ih j u y (by omega) hu hy]; decide)
    | false =>
      rw [hc, if_neg Bool.false_ne_true] at e
      rw [e, hy] at hb
      cases hb
      by_cases h : j = k + 1
      · subst h
        rw [hx] at hu
        cases hu
        exact hc
      · exact ih j u _ (by omega) hu hy
theorem s18 (w : World) (mean : ExcName → Option Value) (mg mb : Str → Option Value) (fa : Addr) (cd : Value) (h₀ : Heap) (L : Nat) (m : Str → Option Value) (s : Shared) (Q : Flow → Shared → Prop) (B : Below callerA h₀ [] h₀) (X : (hd.heap_39 w.params).In h₀) (T : Top hd.view_39 (looseW hd.view_39 [Str.ofString "Whitespace"]) mean mg mb h₀)
   (c : Cst) (o11 : Obj) (v11 : Option Value) (d11 : o11.data = .cell v11) (U : List Row) (hU : 0 < U.length) (un : Nat) (rest : List (Addr × Obj)) (hI : ∀ u ∈ U, DueIn c rest u) (ho : OwnOff rest [L + 11]) (hne : c.uA ≠ L + 11) (N : News h₀ L s.heap ((L + 11, o11) :: (c.uA, listOf (U.map Row.v).toArray un) :: rest)) (F : Fr h₀ L s.heap (fun y => if y = Str.ofString "due" then some (.ref c.uA) else m y))
   (hQ : ∀ h' tk' o11' bq, bq ∈ U → (∀ u ∈ U, lexD c u bq = false) → o11'.data = .cell (some (.ref bq.a)) → Fr h₀ L h' (fun y => if y = Str.ofString "due" then some (.ref c.uA) else m y) → News h₀ L h' ((L + 11, o11') :: (c.uA, listOf (U.map Row.v).toArray un) :: rest) → Q .next { s with heap := h', toks := tk' }) :
   wpAny (model PySem.Challenge.rw_pu0052_01.row.prog w) (callerA.deeper (envOfC (Str.ofString "law") lawScope L fa cd)) (exec (st 18) (envOfC (Str.ofString "law") lawScope L fa cd)) Q (fun _ _ => False) s := by
  revert X; k_fill; intro X
  have hStop0 := stop "call builtin:min"
  conv in (st 18) => whnf
  k_steps
  have hit : ∀ {i : Nat} {v : Value}, (U.map Row.v).toArray[i]? = some v → ∃ u, U[i]? = some u ∧ v = .ref u.a := by
    intro i v hv
    simp only [List.getElem?_toArray, List.getElem?_map, Option.map_eq_some_iff] at hv
    obtain ⟨q, h1, h2⟩ := hv
    exact ⟨q, h1, h2.symm⟩
  have hsz : (U.map Row.v).toArray.size = U.length := by rw [List.size_toArray, List.length_map]
  refine Hold.mk (min_ledger (btU c U) rfl F N (.tail _ (.head _)) (by rw [hsz]; exact hU) ?_ ?_)
  · intro i j vi vj s' Q' E' N' hi hj hq
    obtain ⟨a, ha, rfl⟩ := hit hi
    obtain ⟨b, hb, rfl⟩ := hit hj
    obtain ⟨x1, x2, x3, ma⟩ := hI a (List.mem_of_getElem? ha)
    obtain ⟨y1, y2, y3, mb⟩ := hI b (List.mem_of_getElem? hb)
    rw [btU_at ha hb] at hq
    exact lt3 (N' _ (.tail _ (.tail _ ma))).1 (N' _ (.tail _ (.tail _ mb))).1 (Nat.le_of_ble_eq_true rfl) hq
  · intro v h' tk hv F' N'
    obtain ⟨bq, hb, rfl⟩ := hit hv
    rw [hsz] at hb
    have hm := List.mem_of_getElem? hb
    have hl : ∀ u ∈ U, lexD c u bq = false := by
      intro u hu
      obtain ⟨j, hj⟩ := List.mem_iff_getElem?.mp hu
      exact best_least (U.length - 1) (by omega) j u bq (by have := (List.getElem?_eq_some_iff.mp hj).1; omega) hj hb
    replace hI := Hold.mk hI
    replace hl := Hold.mk hl
    clear N F hv hb
    k_steps
    rename News h₀ _ _ _ => N9
    exact hQ _ _ _ bq hm hl.out (by assumption) (by k_asm) N9

end Mine
end
-- part U2
section
namespace Mine
set_option maxRecDepth 100000
set_option maxHeartbeats 8000000
theorem pick_map (f : Row → Value) (p : Row → Bool) : ∀ l : List Row, pick (l.map f) (l.map p) = (l.filter p).map f
  | [] => rfl
  | a :: l => by
    have ih := pick_map f p l
    unfold pick at ih ⊢
    rw [List.map_cons, List.map_cons, List.zip_cons_cons, List.filter_cons, List.filter_cons]
    cases h : p a with
    | true => simp only [if_true, List.map_cons, ih]
    | false => simp only [Bool.false_eq_true, if_false, ih]
theorem s19 (w : World) (mean : ExcName → Option Value) (mg mb : Str → Option Value) (fa : Addr) (cd : Value) (h₀ : Heap) (L : Nat) (m : Str → Option Value) (s : Shared) (Q : Flow → Shared → Prop) (B : Below callerA h₀ [] h₀) (X : (hd.heap_39 w.params).In h₀) (T : Top hd.view_39 (looseW hd.view_39 [Str.ofString "Whitespace"]) mean mg mb h₀)
   (c : Cst) (o11 : Obj) (bq : Row) (d11 : o11.data = .cell (some (.ref bq.a))) (U : List Row) (hU : U.length ≤ 16) (un : Nat) (rest : List (Addr × Obj)) (hI : ∀ u ∈ U, DueIn c rest u) (hb : bq ∈ U) (N : News h₀ L s.heap ((L + 11, o11) :: (c.uA, listOf (U.map Row.v).toArray un) :: rest)) (F : Fr h₀ L s.heap (fun y => if y = Str.ofString "due" then some (.ref c.uA) else m y))
   (hQ : ∀ h' tk' (D : Nat), (∀ p ∈ rest, p.1 ≠ D) → D ≠ L + 11 → Fr h₀ L h' (fun y => if y = Str.ofString "least" then some (.ref D) else if y = Str.ofString "due" then some (.ref c.uA) else m y) → News h₀ L h' ((D, LCg.lst ((U.filter fun u => cost c u.t u.b == cost c bq.t bq.b).map Row.v)) :: (L + 11, o11) :: (c.uA, listOf (U.map Row.v).toArray un) :: rest) → Q .next { s with heap := h', toks := tk' }) :
   wpAny (model PySem.Challenge.rw_pu0052_01.row.prog w) (callerA.deeper (envOfC (Str.ofString "law") lawScope L fa cd)) (exec (st 19) (envOfC (Str.ofString "law") lawScope L fa cd)) Q (fun _ _ => False) s := by
  revert X; k_fill; intro X
  have hStop0 := stop "exec Assign cons ListComp"
  have hStop1 := stop "CompSrcT"
  conv in (st 19) => whnf
  have hit : ∀ {i : Nat} {v : Value}, (U.map Row.v).toArray[i]? = some v → ∃ u, U[i]? = some u ∧ v = .ref u.a := by
    intro i v hv
    simp only [List.getElem?_toArray, List.getElem?_map, Option.map_eq_some_iff] at hv
    obtain ⟨q, h1, h2⟩ := hv
    exact ⟨q, h1, h2.symm⟩
  have hsz : (U.map Row.v).toArray.size = U.length := by rw [List.size_toArray, List.length_map]
  obtain ⟨y1, y2, y3, mb⟩ := hI bq hb
  have N0 : News h₀ L s.heap ((bq.a, tup3 (cost c bq.t bq.b) ((bq.t : Int) + bq.b) (-(bq.t : Int)) y1 y2 y3) :: (L + 11, o11) :: (c.uA, listOf (U.map Row.v).toArray un) :: rest) := news_dup N (.tail _ (.tail _ mb))
  clear N
  replace hI := Hold.mk hI
  generalize hcb : cost c bq.t bq.b = cb at *
  k_steps
  refine Hold.mk (LCt.Assign_ListComp_T (F₀ := by k_asm) (by rfl) (by with_unfolding_all rfl) (by with_unfolding_all rfl) (by decide) (by rfl) (by decide) (by rfl) (by rfl) (by rfl) ?_)
  k_steps
  refine Hold.mk (LCt.CompSrcT.ledger (k := un) (its := (U.map Row.v).toArray) (by rfl) (by k_asm) N0 (.tail _ (.tail _ (.head _))) (by rw [hsz, PySem.sizeLine_eq]; omega) ?_)
  intro g
  rw [hsz]
  refine comp_pureT (U.map fun u => cost c u.t u.b == cb) hsz (by rw [List.length_map]) (.inr ⟨_, .tail _ (.tail _ (.head _)), rfl, _, rfl⟩) ?_ ?_ ?_
  · intro i v b I oI C oC D m₂ ys h tk E' hv hb' hC hx F2 N2
    obtain ⟨u, hu, rfl⟩ := hit hv
    rw [List.getElem?_map, hu] at hb'
    have hb2 : b = (cost c u.t u.b == cb) := (Option.some.inj hb').symm
    obtain ⟨x1, x2, x3, mu⟩ := hI.out u (List.mem_of_getElem? hu)
    have N3 := news_dup N2 (.tail _ (.tail _ (.tail _ (.tail _ (.tail _ (.tail _ mu))))))
    clear N2 N0 hv hb' hu
    generalize cost c u.t u.b = cu at *
    k_steps
    rename News h₀ _ _ _ => N9
    exact ⟨hb2.symm, _, _, rfl, by k_asm, news_tl N9⟩
  · intro v I oI C oC D m₂ ys h tk E' hC hx F2 N2
    clear N0
    k_steps
    exact ⟨rfl, _, _, rfl, by k_asm, by k_asm⟩
  · intro D h tk F2 N2 hoff
    rw [List.toList_toArray, pick_map] at N2
    exact hQ _ _ D (fun p hp => off1_mem hoff p (.tail _ (.tail _ (.tail _ hp)))) (Ne.symm (off1_mem hoff (L + 11, o11) (.tail _ (.head _)))) F2 (news_perm N2 (all_cons (.head _) (fun p hp => .tail _ (.tail _ hp))))

end Mine
end
-- part U3
section
namespace Mine
set_option maxRecDepth 100000
set_option maxHeartbeats 8000000
theorem eq_self (a : Addr) : MeetsSeq.EqGives (.ref a) (.ref a) true := fun prog w A E s Q h => by
  unfold eqBool
  refine wpAny_holding ?_
  rw [if_pos (by simp)]
  exact wpAny_bind (wpAny_rule (wpAny_pure h))
theorem s20 (w : World) (mean : ExcName → Option Value) (mg mb : Str → Option Value) (fa : Addr) (cd : Value) (h₀ : Heap) (L : Nat) (m : Str → Option Value) (s : Shared) (Q : Flow → Shared → Prop) (B : Below callerA h₀ [] h₀) (X : (hd.heap_39 w.params).In h₀) (T : Top hd.view_39 (looseW hd.view_39 [Str.ofString "Whitespace"]) mean mg mb h₀)
   (c : Cst) (o11 : Obj) (bq q0 : Row) (d11 : o11.data = .cell (some (.ref bq.a))) (O O' V M : List Row) (hO : O = q0 :: O') (hl : O.length ≤ 16) (hM : M.length ≤ 16) (hV : V = O.take M.length) (hbq : cost c q0.t q0.b = cost c bq.t bq.b ∧ q0.t = bq.t ∧ q0.b = bq.b) (vA oA D vn on : Nat) (rest : List (Addr × Obj)) (h0 : RowIn c rest q0) (hb : DueIn c rest bq) (N : News h₀ L s.heap ((L + 11, o11) :: (D, LCg.lst (M.map Row.v)) :: (vA, listOf (V.map Row.v).toArray vn) :: (oA, listOf (O.map Row.v).toArray on) :: rest)) (F : Fr h₀ L s.heap (fun y => if y = Str.ofString "least" then some (.ref D) else if y = Str.ofString "valleys" then some (.ref vA) else if y = Str.ofString "order" then some (.ref oA) else m y))
   (hQ : ∀ h' tk' m', Fr h₀ L h' m' → Q (.ret (.bool true)) { s with heap := h', toks := tk' }) :
   wpAny (model PySem.Challenge.rw_pu0052_01.row.prog w) (callerA.deeper (envOfC (Str.ofString "law") lawScope L fa cd)) (exec (st 20) (envOfC (Str.ofString "law") lawScope L fa cd)) Q (fun _ _ => False) s := by
  revert X; k_fill; intro X
  have hStop0 := stop "compareOp Eq ref ref"
  have hStop1 := stop "call builtin:len"
  have hStop2 := stop "subscriptTail Name Constant ref int"
  conv in (st 20) => whnf
  obtain ⟨y1, y2, y3, mb⟩ := hb
  obtain ⟨x1, x2, x3, m0⟩ := h0
  have hlo : (O.map Row.v).length ≤ 16 := by rw [List.length_map]; exact hl
  have hV' : V.map Row.v = (O.map Row.v).take (M.map Row.v).length := by rw [List.length_map, hV, List.map_take]
  have hO' : (O.map Row.v)[0]? = some (.ref q0.a) := by rw [hO]; rfl
  have hlm : (M.map Row.v).length = M.length := List.length_map ..
  have N0 : News h₀ L s.heap ((q0.a, tup3 (cost c q0.t q0.b) ((q0.t : Int) + q0.b) (q0.t : Int) x1 x2 x3) :: (bq.a, tup3 (cost c bq.t bq.b) ((bq.t : Int) + bq.b) (-(bq.t : Int)) y1 y2 y3) :: (L + 11, o11) :: (D, LCg.lst (M.map Row.v)) :: (vA, listOf (V.map Row.v).toArray vn) :: (oA, listOf (O.map Row.v).toArray on) :: rest) := news_dup (news_dup N (.tail _ (.tail _ (.tail _ (.tail _ mb))))) (.tail _ (.tail _ (.tail _ (.tail _ (.tail _ m0)))))
  clear N
  rw [hV'] at N0
  replace N0 := news_perm N0 (all_cons (.tail _ (.tail _ (.tail _ (.tail _ (.tail _ (.head _)))))) (fun p hp => hp))
  have hov : ∀ v ∈ O.map Row.v, ∃ a, v = Value.ref a := fun v hv => by
    obtain ⟨r, _, e⟩ := List.mem_map.mp hv
    exact ⟨r.a, e.symm⟩
  replace hov := Hold.mk hov
  generalize O.map Row.v = ov at *
  generalize M.map Row.v = mv at *
  k_steps
  rename News h₀ _ _ _ => N9
  refine Hold.mk (len_list (items := mv.toArray) ⟨_, (N9 _ (.tail _ (.tail _ (.tail _ (.tail _ (.head _)))))).1, rfl, _, rfl⟩ (by rw [List.size_toArray]; omega) ?_)
  rw [List.size_toArray]
  have hmv : mv.length ≤ 16 := by omega
  generalize mv.length = ml at *
  k_steps
  rename News h₀ _ _ _ => N9
  rw [slicePick_upto'] at N9
  have ea : ∀ n : Nat, ((List.range n).all fun _ => true) = true := fun n => by simp
  refine Hold.mk (PySem.P.eq_list (items := (ov.take ml).toArray) (items2 := (ov.take ml).toArray) (e := fun _ => true) (N9 _ (.tail _ (.tail _ (.tail _ (.tail _ (.tail _ (.tail _ (.head _)))))))).1 (N9 _ (.head _)).1 rfl (fun j h1 h2 => ?_) (Nat.le_of_ble_eq_true rfl) ?_)
  · obtain ⟨a, ha⟩ := hov.out _ (List.mem_of_mem_take (List.getElem_mem (l := ov.take ml) (by simpa using h1)))
    rw [List.getElem_toArray, ha]
    exact eq_self a
  rw [ea]
  k_steps
  refine Hold.mk (item_list (items := ov.toArray) ⟨_, (N9 _ (.tail _ (.head _))).1, rfl, _, rfl⟩ (by decide) (by decide) (by simpa using hO') ?_)
  k_steps
  refine Hold.mk (item_list (items := ov.toArray) ⟨_, (N9 _ (.tail _ (.head _))).1, rfl, _, rfl⟩ (by decide) (by decide) (by simpa using hO') ?_)
  k_steps
  refine Hold.mk (item_list (items := ov.toArray) ⟨_, (N9 _ (.tail _ (.head _))).1, rfl, _, rfl⟩ (by decide) (by decide) (by simpa using hO') ?_)
  k_steps
  rename News h₀ _ _ _ => N8
  rename Fr h₀ _ _ _ => F8
  obtain ⟨e1, e2, e3⟩ := hbq
  rw [e1, e2, e3] at N8
  refine Hold.mk (eq_dataH (da := .tuple [.int (cost c bq.t bq.b), .int ((bq.t : Int) + bq.b), .int (-(bq.t : Int))]) (db := .tuple [.int (cost c bq.t bq.b), .int ((bq.t : Int) + bq.b), .int (-(bq.t : Int))]) (reads_tuple_at (N8 _ (.head _)).1 rfl rfl (.cons (.int _ _) (.cons (.int _ _) (.cons (.int _ _) .nil)))) (reads_tuple_at (N8 _ (.tail _ (.tail _ (.tail _ (.tail _ (.head _)))))).1 rfl rfl (.cons (.int _ _) (.cons (.int _ _) (.cons (.int _ _) .nil)))) rfl rfl (Nat.le_of_ble_eq_true rfl) ?_)
  have ee : PyData.eqv (.tuple [.int (cost c bq.t bq.b), .int ((bq.t : Int) + bq.b), .int (-(bq.t : Int))]) (.tuple [.int (cost c bq.t bq.b), .int ((bq.t : Int) + bq.b), .int (-(bq.t : Int))]) = true := by
    simp [PyData.eqv, PyData.eqvAll]
  rw [ee]
  exact hQ _ _ _ F8

end Mine
end
-- part P1
section
namespace Mine
set_option maxRecDepth 100000
set_option maxHeartbeats 8000000
def nth3 (n0 n1 n2 : Int) : Nat → Int
  | 0 => n0
  | 1 => n1
  | _ => n2
theorem nth3_at {n0 n1 n2 : Int} {t0 t1 t2 : Tok} : ∀ {i : Nat} {v : Value}, #[Value.int n0 t0, Value.int n1 t1, Value.int n2 t2][i]? = some v → ∃ u, v = .int (nth3 n0 n1 n2 i) u
  | 0, _, h => by cases h; exact ⟨_, rfl⟩
  | 1, _, h => by cases h; exact ⟨_, rfl⟩
  | 2, _, h => by cases h; exact ⟨_, rfl⟩
  | k + 3, _, h => by simp at h
theorem kept_end {h₀ h : Heap} {L : Addr} {a b c q : Addr × Obj} {l : List (Addr × Obj)} (N : News h₀ L h (q :: a :: b :: c :: l)) : News h₀ L h (a :: b :: c :: ([q] ++ l)) := news_perm N (all_cons (by simp) (all_cons (by simp) (all_cons (by simp) (all_cons (by simp) (fun x hq => List.mem_cons_of_mem _ (List.mem_cons_of_mem _ (List.mem_cons_of_mem _ (List.mem_cons_of_mem _ (show x ∈ l from hq)))))))))
theorem p1 (w : World) (mean : ExcName → Option Value) (mg mb : Str → Option Value) (fa : Addr) (cd : Value) (h₀ : Heap) (L : Nat) (m : Str → Option Value) (s : Shared) (Q : Flow → Shared → Prop) (B : Below callerA h₀ [] h₀) (X : (hd.heap_39 w.params).In h₀) (T : Top hd.view_39 (looseW hd.view_39 [Str.ofString "Whitespace"]) mean mg mb h₀)
   (D : Nat) (n0 n1 n2 n3 : Int) (t0 t1 t2 t3 : Tok) (rest : List (Addr × Obj)) (N : News h₀ L s.heap ((D, LCg.lst [.int n0 t0, .int n1 t1, .int n2 t2, .int n3 t3]) :: rest)) (F : Fr h₀ L s.heap (fun y => if y = Str.ofString "numbers" then some (.ref D) else m y))
   (hQ : ∀ h' tk' (S : Nat) (ys : List Value) add, ys.length = 3 → (∀ i y, ys[i]? = some y → ∃ a tT tB, y = .ref a ∧ (a, tup2 ((nth3 n0 n1 n2 i).fmod 4) (((nth3 n0 n1 n2 i).fdiv 4).fmod 4) tT tB) ∈ add) → Fr h₀ L h' (fun y => if y = Str.ofString "spots" then some (.ref S) else if y = Str.ofString "numbers" then some (.ref D) else m y) → News h₀ L h' ((S, LCg.lst ys) :: (add ++ (D, LCg.lst [.int n0 t0, .int n1 t1, .int n2 t2, .int n3 t3]) :: rest)) → Q .next { s with heap := h', toks := tk' }) :
   wpAny (model PySem.Challenge.rw_pu0052_01.row.prog w) (callerA.deeper (envOfC (Str.ofString "law") lawScope L fa cd)) (exec (st 1) (envOfC (Str.ofString "law") lawScope L fa cd)) Q (fun _ _ => False) s := by
  revert X; k_fill; intro X
  have hStop0 := stop "exec Assign cons ListComp"
  have hStop1 := stop "CompSrc"
  conv in (st 1) => whnf
  k_steps
  refine Hold.mk (LCg.Assign_ListComp_U (F₀ := by k_asm) (by rfl) (by with_unfolding_all rfl) (by with_unfolding_all rfl) (by decide) (by rfl) (by decide) (by rfl) (by rfl) (by rfl) ?_)
  k_steps
  rename News _ _ _ _ => N9
  refine Hold.mk (LCg.CompSrc.ledger (by rfl) (by k_asm) N9 List.mem_cons_self (by rw [PySem.sizeLine_eq]; show 3 ≤ _; decide) ?_)
  intro g
  refine comp_kept (fun i y K => ∃ a tT tB, y = .ref a ∧ (a, tup2 ((nth3 n0 n1 n2 i).fmod 4) (((nth3 n0 n1 n2 i).fdiv 4).fmod 4) tT tB) ∈ K) (fun i y K K' ⟨a, tT, tB, e2, e3⟩ s => ⟨a, tT, tB, e2, s _ e3⟩) (fun add => .inr ⟨_, List.mem_append_right _ List.mem_cons_self, rfl, _, rfl⟩) ?_ ?_
  · intro i v I oI C oC D m₂ ys add h tk E' hi hv hC hx F2 N2
    obtain ⟨u, rfl⟩ := nth3_at hv
    generalize nth3 n0 n1 n2 i = n at *
    clear hv
    k_steps
    rename _ ∧ _ => l9
    rename News _ _ _ _ => N8
    exact ⟨_, _, [_], rfl, by k_asm, kept_end N8, all_cons ⟨Nat.ne_of_gt l9.1, Nat.ne_of_gt l9.2.1, Nat.ne_of_gt l9.2.2.1⟩ all_nil, _, _, _, rfl, List.mem_cons_self⟩
  · intro ys add hl hys D h tk F2 N2 hoff
    refine hQ _ _ _ ys add hl hys F2 (news_perm N2 (all_cons (by k_mem) fun q hq => List.mem_cons_of_mem _ ?_))
    rcases List.mem_append.mp hq with hq | hq
    · exact List.mem_append_left _ hq
    · exact List.mem_append_right _ (List.mem_cons_of_mem _ hq)

theorem p2 (w : World) (mean : ExcName → Option Value) (mg mb : Str → Option Value) (fa : Addr) (cd : Value) (h₀ : Heap) (L : Nat) (m : Str → Option Value) (s : Shared) (Q : Flow → Shared → Prop) (B : Below callerA h₀ [] h₀) (X : (hd.heap_39 w.params).In h₀) (T : Top hd.view_39 (looseW hd.view_39 [Str.ofString "Whitespace"]) mean mg mb h₀)
   (D : Nat) (n0 n1 n2 n3 : Int) (t0 t1 t2 t3 : Tok) (rest : List (Addr × Obj)) (N : News h₀ L s.heap ((D, LCg.lst [.int n0 t0, .int n1 t1, .int n2 t2, .int n3 t3]) :: rest)) (F : Fr h₀ L s.heap (fun y => if y = Str.ofString "numbers" then some (.ref D) else m y))
   (hQ : ∀ h' tk' (S : Nat) u0 u1 u2, Fr h₀ L h' (fun y => if y = Str.ofString "drawn" then some (.ref S) else if y = Str.ofString "numbers" then some (.ref D) else m y) → News h₀ L h' ((S, listOf #[.int ((n0.fdiv 16).fmod 3) u0, .int ((n1.fdiv 16).fmod 3) u1, .int ((n2.fdiv 16).fmod 3) u2] 3) :: (D, LCg.lst [.int n0 t0, .int n1 t1, .int n2 t2, .int n3 t3]) :: rest) → Q .next { s with heap := h', toks := tk' }) :
   wpAny (model PySem.Challenge.rw_pu0052_01.row.prog w) (callerA.deeper (envOfC (Str.ofString "law") lawScope L fa cd)) (exec (st 2) (envOfC (Str.ofString "law") lawScope L fa cd)) Q (fun _ _ => False) s := by
  revert X; k_fill; intro X
  have hStop0 := stop "exec Assign cons ListComp"
  have hStop1 := stop "CompSrc"
  conv in (st 2) => whnf
  k_steps
  refine Hold.mk (LCg.Assign_ListComp_U (F₀ := by k_asm) (by rfl) (by with_unfolding_all rfl) (by with_unfolding_all rfl) (by decide) (by rfl) (by decide) (by rfl) (by rfl) (by rfl) ?_)
  k_steps
  rename News _ _ _ _ => N9
  refine Hold.mk (LCg.CompSrc.ledger (by rfl) (by k_asm) N9 List.mem_cons_self (by rw [PySem.sizeLine_eq]; show 3 ≤ _; decide) ?_)
  intro g
  refine comp_pure (fun i y => ∃ u, y = .int (((nth3 n0 n1 n2 i).fdiv 16).fmod 3) u) (.inr ⟨_, List.mem_cons_self, rfl, _, rfl⟩) ?_ ?_
  · intro i v I oI C oC D m₂ ys h tk E' hi hv hC hx F2 N2
    obtain ⟨u, rfl⟩ := nth3_at hv
    generalize nth3 n0 n1 n2 i = n at *
    clear hv
    k_steps
    exact ⟨_, _, rfl, by k_asm, by k_asm, _, rfl⟩
  · intro ys hl hys D h tk F2 N2 hoff
    · obtain ⟨y0, y1, y2, rfl⟩ := len3 hl
      obtain ⟨u0, rfl⟩ := hys 0 _ rfl
      obtain ⟨u1, rfl⟩ := hys 1 _ rfl
      obtain ⟨u2, rfl⟩ := hys 2 _ rfl
      exact hQ _ _ _ u0 u1 u2 F2 (news_perm N2 (all_cons (by k_mem) fun q hq => List.mem_cons_of_mem _ (List.mem_cons_of_mem _ hq)))

theorem p3 (w : World) (mean : ExcName → Option Value) (mg mb : Str → Option Value) (fa : Addr) (cd : Value) (h₀ : Heap) (L : Nat) (m : Str → Option Value) (s : Shared) (Q : Flow → Shared → Prop) (B : Below callerA h₀ [] h₀) (X : (hd.heap_39 w.params).In h₀) (T : Top hd.view_39 (looseW hd.view_39 [Str.ofString "Whitespace"]) mean mg mb h₀)
   (D : Nat) (n0 n1 n2 n3 : Int) (t0 t1 t2 t3 : Tok) (rest : List (Addr × Obj)) (N : News h₀ L s.heap ((D, LCg.lst [.int n0 t0, .int n1 t1, .int n2 t2, .int n3 t3]) :: rest)) (F : Fr h₀ L s.heap (fun y => if y = Str.ofString "numbers" then some (.ref D) else m y))
   (hQ : ∀ h' tk' u, Fr h₀ L h' (fun y => if y = Str.ofString "again" then some (.int ((n1.fdiv 48).fmod 2) u) else if y = Str.ofString "numbers" then some (.ref D) else m y) → News h₀ L h' ((D, LCg.lst [.int n0 t0, .int n1 t1, .int n2 t2, .int n3 t3]) :: rest) → Q .next { s with heap := h', toks := tk' }) :
   wpAny (model PySem.Challenge.rw_pu0052_01.row.prog w) (callerA.deeper (envOfC (Str.ofString "law") lawScope L fa cd)) (exec (st 3) (envOfC (Str.ofString "law") lawScope L fa cd)) Q (fun _ _ => False) s := by
  revert X; k_fill; intro X
  have hStop0 := stop "exec Assign cons ListComp"
  have hStop1 := stop "CompSrc"
  conv in (st 3) => whnf
  k_steps
  exact hQ _ _ _ (by k_asm) (by k_asm)

theorem p5 (w : World) (mean : ExcName → Option Value) (mg mb : Str → Option Value) (fa : Addr) (cd : Value) (h₀ : Heap) (L : Nat) (m : Str → Option Value) (s : Shared) (Q : Flow → Shared → Prop) (B : Below callerA h₀ [] h₀) (X : (hd.heap_39 w.params).In h₀) (T : Top hd.view_39 (looseW hd.view_39 [Str.ofString "Whitespace"]) mean mg mb h₀)
   (D : Nat) (n0 n1 n2 n3 : Int) (t0 t1 t2 t3 : Tok) (o3 : Obj) (v3 : Option Value) (d3 : o3.data = .cell v3) (rest : List (Addr × Obj)) (ho : OwnOff rest [L + 3]) (hD : D ≠ L + 3) (N : News h₀ L s.heap ((L + 3, o3) :: (D, LCg.lst [.int n0 t0, .int n1 t1, .int n2 t2, .int n3 t3]) :: rest)) (F : Fr h₀ L s.heap (fun y => if y = Str.ofString "numbers" then some (.ref D) else m y))
   (hQ : ∀ h' tk' (S : Nat) o3' u0 u1, L + 3 < S → D < S → (∀ p ∈ rest, p.1 < S) → o3'.data = .cell (some (.ref S)) → Fr h₀ L h' (fun y => if y = Str.ofString "numbers" then some (.ref D) else m y) → News h₀ L h' ((S, tup2 (n3.fmod 2) ((n3.fdiv 2).fmod 3) u0 u1) :: (L + 3, o3') :: (D, LCg.lst [.int n0 t0, .int n1 t1, .int n2 t2, .int n3 t3]) :: rest) → Q .next { s with heap := h', toks := tk' }) :
   wpAny (model PySem.Challenge.rw_pu0052_01.row.prog w) (callerA.deeper (envOfC (Str.ofString "law") lawScope L fa cd)) (exec (st 5) (envOfC (Str.ofString "law") lawScope L fa cd)) Q (fun _ _ => False) s := by
  revert X; k_fill; intro X
  have hStop0 := stop "exec Assign cons ListComp"
  have hStop1 := stop "CompSrc"
  conv in (st 5) => whnf
  k_steps
  rename _ ∧ _ => l9
  exact hQ _ _ _ _ _ _ l9.1 l9.2.1 (allLt_mem l9.2.2) (by assumption) (by k_asm) (by k_asm)

end Mine
end
-- part P0
section
namespace Mine
set_option maxRecDepth 100000
set_option maxHeartbeats 8000000
theorem sum_pick {prog : Program} {w : World} {A : Around} {E : Value → Shared → Prop} {s : Shared} {h₀ : Heap} {L : Addr} {m : Str → Option Value} {news : List (Addr × Obj)} {l : Addr} {vs : List Value} {ns : List Int} {lo hi st : Option Int} {Q : Value → Shared → Prop} (hh : A.handled = none) (F : Fr h₀ L s.heap m) (N : News h₀ L s.heap news) (hl : s.heap.IsList l (slicePick vs.toArray lo hi st)) (hi' : IntsAre vs ns)
    (h : ∀ h' tk t' z, Fr h₀ L h' m → News h₀ L h' news → Q (.int z t') { s with heap := h', toks := tk }) :
    wpAny (model prog w) A (call (.builtin "sum") [.ref l]) Q E s :=
  sumK (vs := (slicePick vs.toArray lo hi st).toList) hh F N hl (hi'.pick lo hi st) (fun h' tk t' F' N' => h h' tk t' _ F' N')
local macro_rules | `(tactic| walk_at "call builtin:sum") => `(tactic| (k_here; (refine' sum_pick ?k0 ?k1 ?k2 ?k3 ?k4 ?_; (case k0 => rfl); (case k1 => k_asm); (case k2 => k_asm); (case k3 => is_list); (case k4 => assumption)); intro h9 tk9 t9 z9 F9 N9; (try dsimp only)))
theorem p0 (w : World) (mean : ExcName → Option Value) (mg mb : Str → Option Value) (fa : Addr) (cd : Value) (h₀ : Heap) (L : Nat) (m : Str → Option Value) (s : Shared) (Q : Flow → Shared → Prop) (B : Below callerA h₀ [] h₀) (X : (hd.heap_39 w.params).In h₀) (T : Top hd.view_39 (looseW hd.view_39 [Str.ofString "Whitespace"]) mean mg mb h₀)
   (aS : Addr) (vs : List Value) (ns : List Int) (hL : h₀.IsList aS vs.toArray) (hI : IntsAre vs ns) (hlen : ns.length ≤ 63) (o1 : Obj) (d1 : o1.data = .cell (some (.ref aS))) (rest : List (Addr × Obj)) (N : News h₀ L s.heap ((L + 1, o1) :: rest)) (F : Fr h₀ L s.heap (fun y => m y))
   (hQ : ∀ (D : Nat) h' tk' (n0 n1 n2 n3 : Int) (t0 t1 t2 t3 : Tok), Fr h₀ L h' (fun y => if y = Str.ofString "numbers" then some (.ref D) else m y) → News h₀ L h' ((D, LCg.lst [.int n0 t0, .int n1 t1, .int n2 t2, .int n3 t3]) :: (L + 1, o1) :: rest) → Q .next { s with heap := h', toks := tk' }) :
   wpAny (model PySem.Challenge.rw_pu0052_01.row.prog w) (callerA.deeper (envOfC (Str.ofString "law") lawScope L fa cd)) (exec (st 0) (envOfC (Str.ofString "law") lawScope L fa cd)) Q (fun _ _ => False) s := by
  revert X; k_fill; intro X
  have hStop0 := stop "exec Assign cons ListComp"
  have hStop1 := stop "CompSrc"
  conv in (st 0) => whnf
  k_steps
  refine Hold.mk (LCg.Assign_ListComp_U (F₀ := by k_asm) (by rfl) (by with_unfolding_all rfl) (by with_unfolding_all rfl) (by decide) (by rfl) (by decide) (by rfl) (by rfl) (by rfl) ?_)
  k_steps
  rename IsRange _ _ _ _ _ _ _ _ => hR
  refine Hold.mk (LCg.CompSrc.range (n := 4) (by rfl) (by k_asm) (by k_asm) hR (by decide) (by rfl) (by rw [PySem.sizeLine_eq]; decide) ?_)
  intro g
  refine comp_pure (fun i y => ∃ z u, y = .int z u) trivial ?_ ?_
  · rintro i v I oI C oC D m₂ ys h tk E' hi ⟨tv, rfl⟩ hC hx F2 N2
    rcases (by omega : i = 0 ∨ i = 1 ∨ i = 2 ∨ i = 3) with rfl | rfl | rfl | rfl
    all_goals
      k_steps
      rename News _ _ _ _ => N9
      exact ⟨_, _, rfl, by k_asm, fun p hp => N9 p (by repeat (first | exact hp | refine List.mem_cons_of_mem _ ?_)), _, _, rfl⟩
  · intro ys hl hys D h tk F2 N2 hoff
    · obtain ⟨y0, y1, y2, y3, rfl⟩ := len4 hl
      obtain ⟨n0, t0, rfl⟩ := hys 0 _ rfl
      obtain ⟨n1, t1, rfl⟩ := hys 1 _ rfl
      obtain ⟨n2, t2, rfl⟩ := hys 2 _ rfl
      obtain ⟨n3, t3, rfl⟩ := hys 3 _ rfl
      exact hQ _ _ _ _ _ _ _ _ _ _ _ F2 N2

end Mine
end
-- part P7
section
namespace Mine
set_option maxRecDepth 100000
set_option maxHeartbeats 8000000
theorem fmod_in (a b : Int) (hb : 0 < b) : 0 ≤ a.fmod b ∧ a.fmod b < b := by
  rw [Int.fmod_eq_emod_of_nonneg _ (Int.le_of_lt hb)]
  exact ⟨Int.emod_nonneg _ (Int.ne_of_gt hb), Int.emod_lt_of_pos _ hb⟩
theorem p7 (w : World) (mean : ExcName → Option Value) (mg mb : Str → Option Value) (fa : Addr) (cd : Value) (h₀ : Heap) (L : Nat) (m : Str → Option Value) (s : Shared) (Q : Flow → Shared → Prop) (B : Below callerA h₀ [] h₀) (X : (hd.heap_39 w.params).In h₀) (T : Top hd.view_39 (looseW hd.view_39 [Str.ofString "Whitespace"]) mean mg mb h₀)
   (aS : Addr) (vs : List Value) (ns : List Int) (hL : h₀.IsList aS vs.toArray) (hI : IntsAre vs ns) (hlen : ns.length ≤ 63) (o1 o4 : Obj) (v4 : Option Value) (d1 : o1.data = .cell (some (.ref aS))) (d4 : o4.data = .cell v4) (rest : List (Addr × Obj)) (ho : OwnOff rest [L + 4]) (N : News h₀ L s.heap ((L + 1, o1) :: (L + 4, o4) :: rest)) (F : Fr h₀ L s.heap (fun y => m y))
   (hQ : ∀ h' tk' o4' bd t, 11 ≤ bd → o4'.data = .cell (some (.int bd t)) → Fr h₀ L h' (fun y => m y) → News h₀ L h' ((L + 1, o1) :: (L + 4, o4') :: rest) → Q .next { s with heap := h', toks := tk' }) :
   wpAny (model PySem.Challenge.rw_pu0052_01.row.prog w) (callerA.deeper (envOfC (Str.ofString "law") lawScope L fa cd)) (exec (st 7) (envOfC (Str.ofString "law") lawScope L fa cd)) Q (fun _ _ => False) s := by
  revert X; k_fill; intro X
  conv in (st 7) => whnf
  k_steps
  have hb := (fmod_in ns.sum 3 (by decide)).1
  exact hQ _ _ _ (11 + ns.sum.fmod 3) _ (by omega) (by assumption) (by k_asm) (by k_asm)

theorem p8 (w : World) (mean : ExcName → Option Value) (mg mb : Str → Option Value) (fa : Addr) (cd : Value) (h₀ : Heap) (L : Nat) (m : Str → Option Value) (s : Shared) (Q : Flow → Shared → Prop) (B : Below callerA h₀ [] h₀) (X : (hd.heap_39 w.params).In h₀) (T : Top hd.view_39 (looseW hd.view_39 [Str.ofString "Whitespace"]) mean mg mb h₀)
   (rest : List (Addr × Obj)) (N : News h₀ L s.heap rest) (F : Fr h₀ L s.heap (fun y => m y))
   (hQ : ∀ h' tk' (D : Nat) n, (∀ p ∈ rest, p.1 < D) → Fr h₀ L h' (fun y => if y = Str.ofString "rows" then some (.ref D) else m y) → News h₀ L h' ((D, listOf #[] n) :: rest) → Q .next { s with heap := h', toks := tk' }) :
   wpAny (model PySem.Challenge.rw_pu0052_01.row.prog w) (callerA.deeper (envOfC (Str.ofString "law") lawScope L fa cd)) (exec (st 8) (envOfC (Str.ofString "law") lawScope L fa cd)) Q (fun _ _ => False) s := by
  revert X; k_fill; intro X
  conv in (st 8) => whnf
  k_steps
  exact hQ _ _ _ _ (by assumption) (by k_asm) (by k_asm)

theorem p9 (w : World) (mean : ExcName → Option Value) (mg mb : Str → Option Value) (fa : Addr) (cd : Value) (h₀ : Heap) (L : Nat) (m : Str → Option Value) (s : Shared) (Q : Flow → Shared → Prop) (B : Below callerA h₀ [] h₀) (X : (hd.heap_39 w.params).In h₀) (T : Top hd.view_39 (looseW hd.view_39 [Str.ofString "Whitespace"]) mean mg mb h₀)
   (rest : List (Addr × Obj)) (N : News h₀ L s.heap rest) (F : Fr h₀ L s.heap (fun y => m y))
   (hQ : ∀ h' tk' (D : Nat) n, (∀ p ∈ rest, p.1 < D) → Fr h₀ L h' (fun y => if y = Str.ofString "due" then some (.ref D) else m y) → News h₀ L h' ((D, listOf #[] n) :: rest) → Q .next { s with heap := h', toks := tk' }) :
   wpAny (model PySem.Challenge.rw_pu0052_01.row.prog w) (callerA.deeper (envOfC (Str.ofString "law") lawScope L fa cd)) (exec (st 9) (envOfC (Str.ofString "law") lawScope L fa cd)) Q (fun _ _ => False) s := by
  revert X; k_fill; intro X
  conv in (st 9) => whnf
  k_steps
  exact hQ _ _ _ _ (by assumption) (by k_asm) (by k_asm)

theorem p12 (w : World) (mean : ExcName → Option Value) (mg mb : Str → Option Value) (fa : Addr) (cd : Value) (h₀ : Heap) (L : Nat) (m : Str → Option Value) (s : Shared) (Q : Flow → Shared → Prop) (B : Below callerA h₀ [] h₀) (X : (hd.heap_39 w.params).In h₀) (T : Top hd.view_39 (looseW hd.view_39 [Str.ofString "Whitespace"]) mean mg mb h₀)
   (rest : List (Addr × Obj)) (N : News h₀ L s.heap rest) (F : Fr h₀ L s.heap (fun y => m y))
   (hQ : ∀ h' tk' (D : Nat) n, (∀ p ∈ rest, p.1 < D) → Fr h₀ L h' (fun y => if y = Str.ofString "order" then some (.ref D) else m y) → News h₀ L h' ((D, listOf #[] n) :: rest) → Q .next { s with heap := h', toks := tk' }) :
   wpAny (model PySem.Challenge.rw_pu0052_01.row.prog w) (callerA.deeper (envOfC (Str.ofString "law") lawScope L fa cd)) (exec (st 12) (envOfC (Str.ofString "law") lawScope L fa cd)) Q (fun _ _ => False) s := by
  revert X; k_fill; intro X
  conv in (st 12) => whnf
  k_steps
  exact hQ _ _ _ _ (by assumption) (by k_asm) (by k_asm)

theorem p16 (w : World) (mean : ExcName → Option Value) (mg mb : Str → Option Value) (fa : Addr) (cd : Value) (h₀ : Heap) (L : Nat) (m : Str → Option Value) (s : Shared) (Q : Flow → Shared → Prop) (B : Below callerA h₀ [] h₀) (X : (hd.heap_39 w.params).In h₀) (T : Top hd.view_39 (looseW hd.view_39 [Str.ofString "Whitespace"]) mean mg mb h₀)
   (rest : List (Addr × Obj)) (N : News h₀ L s.heap rest) (F : Fr h₀ L s.heap (fun y => m y))
   (hQ : ∀ h' tk' (D : Nat) n, (∀ p ∈ rest, p.1 < D) → Fr h₀ L h' (fun y => if y = Str.ofString "valleys" then some (.ref D) else m y) → News h₀ L h' ((D, listOf #[] n) :: rest) → Q .next { s with heap := h', toks := tk' }) :
   wpAny (model PySem.Challenge.rw_pu0052_01.row.prog w) (callerA.deeper (envOfC (Str.ofString "law") lawScope L fa cd)) (exec (st 16) (envOfC (Str.ofString "law") lawScope L fa cd)) Q (fun _ _ => False) s := by
  revert X; k_fill; intro X
  conv in (st 16) => whnf
  k_steps
  exact hQ _ _ _ _ (by assumption) (by k_asm) (by k_asm)

end Mine
end
-- part AC
section
namespace Mine
set_option maxRecDepth 100000
set_option maxHeartbeats 8000000
local macro_rules | `(tactic| walk_at "ite") => `(tactic| first | refine ite_pos (by with_unfolding_all rfl) ?_ | refine ite_neg (show ¬ (false = true) from Bool.false_ne_true) ?_)
/-- contract of add_callers for two dicts that share the key g; what else stands in the ledger stays -/
theorem addc_ok (w : World) (d1 d2 : Nat) (q1 q2 : Obj) (w0 w1 ag w2 : Int) (t0 t1 t2 t3 : Tok) (h1 : (d1 == sysModules) = false) (h2 : (d2 == sysModules) = false) (hne : d1 < d2)
    (e1 : q1.IsDictOf (strKind PySem.Challenge.rw_pu0052_01.row.prog w) [(Str.ofString "f", Value.int w0 t0), (Str.ofString "g", .int w1 t1)]) (e2 : q2.IsDictOf (strKind PySem.Challenge.rw_pu0052_01.row.prog w) [(Str.ofString "g", Value.int ag t2), (Str.ofString "h", .int w2 t3)])
    (b0 : 0 ≤ w0 ∧ w0 ≤ 2) (b1 : 0 ≤ w1 ∧ w1 ≤ 2) (b2 : 0 ≤ ag ∧ ag ≤ 1) (b3 : 0 ≤ w2 ∧ w2 ≤ 2)
    (f1 : PyProof.V.FlatPairs PyData.str [(Str.ofString "f", Value.int w0 t0), (Str.ofString "g", .int w1 t1)] [(PyData.str (Str.ofString "f"), PyData.int w0), (PyData.str (Str.ofString "g"), PyData.int w1)]) (f2 : PyProof.V.FlatPairs PyData.str [(Str.ofString "g", Value.int ag t2), (Str.ofString "h", .int w2 t3)] [(PyData.str (Str.ofString "g"), PyData.int ag), (PyData.str (Str.ofString "h"), PyData.int w2)])
    (mean : ExcName → Option Value) (mg mb : Str → Option Value) (rest : List (Addr × Obj)) (dp un : Nat) (gd : Option (List Code)) (cn : Str) (cs : Scope) (fa : Addr) (ccd : Value) (cl : List (Str × Addr)) (outer : List Env) (A₀ : Around) (base h₀ : Heap) (L : Addr) (m : Str → Option Value) (s : Shared) (Q E : Value → Shared → Prop)
    (B : Below A₀ base outer h₀) (F : Fr h₀ L s.heap m) (X : (hd.heap_39 w.params).In h₀) (N : News h₀ L s.heap ((d2, q2) :: (d1, q1) :: rest)) (ho : OwnOff rest [d1, d2]) (T : Top hd.view_39 (looseW hd.view_39 [Str.ofString "Whitespace"]) mean mg mb h₀) (hk : cs.kind = .function)
    (hdp : dp + 5 < recursionLimit) (hun : un + 30 < cLine)
    (hret : ∀ (D : Nat) (oD : Obj) (u0 u1 u2 : Tok) (h' : Heap) (tk' : Nat), (D == sysModules) = false → oD.IsDictOf (strKind PySem.Challenge.rw_pu0052_01.row.prog w) [(Str.ofString "f", Value.int w0 u0), (Str.ofString "g", .int (w1 + ag) u1), (Str.ofString "h", .int w2 u2)] → PyProof.V.FlatPairs PyData.str [(Str.ofString "f", Value.int w0 u0), (Str.ofString "g", .int (w1 + ag) u1), (Str.ofString "h", .int w2 u2)] [(PyData.str (Str.ofString "f"), PyData.int w0), (PyData.str (Str.ofString "g"), PyData.int (w1 + ag)), (PyData.str (Str.ofString "h"), PyData.int w2)] → (∀ p ∈ rest, p.1 ≠ D) →
      Fr h₀ L h' m → News h₀ L h' ((D, oD) :: rest) → Q (.ref D) { s with heap := h', toks := tk' }) :
    wpAny (model PySem.Challenge.rw_pu0052_01.row.prog w) (ktrTop dp un gd cn cs L fa ccd cl outer) (call (.ref 56) [.ref d1, .ref d2]) Q E s := by
  revert X; k_fill; intro X
  refine wpAny_call ?_
  have Nr : News h₀ L s.heap rest := news_tl (news_tl N)
  have N2 : News h₀ L s.heap [(d2, q2), (d1, q1)] := news_perm N (all_cons (by k_mem) (all_cons (by k_mem) all_nil))
  clear N
  refine' code_defG ?k1 ?k2 ?k3 N2 ?k5 ?kA ?kF ?kK ?k6 ?k7 ?k8 ?k9 ?kB ?_ ?c2 ?c3 ?c4 ?c5
  case kA => exact rfl
  case kF => exact rfl
  case kK => assumption
  case k1 => k_asm
  case k2 => k_asm
  case k3 => k_asm
  case k5 => k_asm
  case k6 => k_is
  case k7 => k_is
  case k8 => ktr_room
  case k9 => exact BindsTo.of_eq rfl
  case c5 => decide
  case kB => exact locs rfl
  case c2 => exact rfl
  case c3 => exact rfl
  case c4 => exact rfl
  k_whole
  intro g L' h9 FG F9 N9 B9 X9 T9 GS
  dsimp only
  have keep : ∀ h' : Heap, (∀ b o, g.get? b = some o → h'.get? b = some o) → ∀ p ∈ rest, h'.get? p.1 = some p.2 := by
    intro h' hh p hp
    refine hh _ _ (GS _ _ (Nr p hp).1 ?_)
    intro hm
    simp only [List.map_cons, List.map_nil, List.mem_cons, List.not_mem_nil, or_false] at hm
    rcases hm with e | e
    · exact ho p hp d2 (by simp) e
    · exact ho p hp d1 (by simp) e
  have gone : ∀ p ∈ rest, ∃ o, g.get? p.1 = some o := by
    intro p hp
    refine ⟨p.2, GS _ _ (Nr p hp).1 ?_⟩
    intro hm
    simp only [List.map_cons, List.map_nil, List.mem_cons, List.not_mem_nil, or_false] at hm
    rcases hm with e | e
    · exact ho p hp d2 (by simp) e
    · exact ho p hp d1 (by simp) e
  replace keep := Hold.mk keep
  replace gone := Hold.mk gone
  replace hret := Hold.mk hret
  clear N2 ho GS
  replace Nr := Hold.mk Nr
  obtain ⟨mm, F8⟩ : ∃ mm : Str → Option Value, Fr g L' h9 (fun y => if y = Str.ofString "target" then some (.ref d1) else if y = Str.ofString "source" then some (.ref d2) else mm y) := ⟨_, fr_names F9 [(Str.ofString "target", .ref d1), (Str.ofString "source", .ref d2)] (all_cons rfl (all_cons rfl all_nil))⟩
  clear F9
  have Fo := Hold.mk F
  clear F
  k_steps
  · rename (Option.isSome _) = true => a9
    exact absurd a9 (show ¬ (false = true) from Bool.false_ne_true)
  · rename Fr g _ _ _ => F7
    rename News h₀ _ _ _ => N7
    rename News g _ _ _ => N6
    rename Fr h₀ _ _ _ => F6
    rename (_ == sysModules) = false => lo
    rename PyProof.V.FlatPairs _ _ _ => ff
    refine hret.out _ _ _ _ _ _ _ lo (by assumption) ff (fun p hp e => ?_) F6 (all_cons (N7 _ List.mem_cons_self) fun p hp => ⟨keep.out _ F7.keep p hp, (Nr.out p hp).2⟩)
    obtain ⟨o, ho⟩ := gone.out p hp
    have := (N6 _ List.mem_cons_self).2.2
    rw [← e, ho] at this
    cases this
end Mine
end
-- part P4
section
namespace Mine
set_option maxRecDepth 100000
set_option maxHeartbeats 8000000
theorem p4 (w : World) (mean : ExcName → Option Value) (mg mb : Str → Option Value) (fa : Addr) (cd : Value) (h₀ : Heap) (L : Nat) (m : Str → Option Value) (s : Shared) (Q : Flow → Shared → Prop) (B : Below callerA h₀ [] h₀) (X : (hd.heap_39 w.params).In h₀) (T : Top hd.view_39 (looseW hd.view_39 [Str.ofString "Whitespace"]) mean mg mb h₀)
   (o2 : Obj) (v2 : Option Value) (d2 : o2.data = .cell v2) (S : Nat) (w0 w1 w2 ag : Int) (u0 u1 u2 ua : Tok) (b0 : 0 ≤ w0 ∧ w0 ≤ 2) (b1 : 0 ≤ w1 ∧ w1 ≤ 2) (b2 : 0 ≤ ag ∧ ag ≤ 1) (b3 : 0 ≤ w2 ∧ w2 ≤ 2) (rest : List (Addr × Obj)) (ho : OwnOff rest [L + 2]) (hS : S ≠ L + 2) (N : News h₀ L s.heap ((L + 2, o2) :: (S, listOf #[.int w0 u0, .int w1 u1, .int w2 u2] 3) :: rest)) (F : Fr h₀ L s.heap (fun y => if y = Str.ofString "drawn" then some (.ref S) else if y = Str.ofString "again" then some (.int ag ua) else m y))
   (hQ : ∀ h' tk' (D : Nat) oD o2' x0 x1 x2, (D == sysModules) = false → oD.IsDictOf (strKind PySem.Challenge.rw_pu0052_01.row.prog w) [(Str.ofString "f", Value.int w0 x0), (Str.ofString "g", .int (w1 + ag) x1), (Str.ofString "h", .int w2 x2)] → PyProof.V.FlatPairs PyData.str [(Str.ofString "f", Value.int w0 x0), (Str.ofString "g", .int (w1 + ag) x1), (Str.ofString "h", .int w2 x2)] [(PyData.str (Str.ofString "f"), PyData.int w0), (PyData.str (Str.ofString "g"), PyData.int (w1 + ag)), (PyData.str (Str.ofString "h"), PyData.int w2)] → L + 2 ≠ D → (∀ p ∈ rest, p.1 ≠ D) → o2'.data = .cell (some (.ref D)) → Fr h₀ L h' (fun y => if y = Str.ofString "drawn" then some (.ref S) else if y = Str.ofString "again" then some (.int ag ua) else m y) → News h₀ L h' ((L + 2, o2') :: (D, oD) :: (S, listOf #[.int w0 u0, .int w1 u1, .int w2 u2] 3) :: rest) → Q .next { s with heap := h', toks := tk' }) :
   wpAny (model PySem.Challenge.rw_pu0052_01.row.prog w) (callerA.deeper (envOfC (Str.ofString "law") lawScope L fa cd)) (exec (st 4) (envOfC (Str.ofString "law") lawScope L fa cd)) Q (fun _ _ => False) s := by
  revert X; k_fill; intro X
  have hStop0 := stop "call ref"
  conv in (st 4) => whnf
  k_steps
  rename News _ _ _ _ => N9
  rename Fr _ _ _ _ => F9
  rename _ ∧ _ ∧ _ ∧ _ => l9
  rename (_ < _) ∧ (_ < _) ∧ AllLt _ _ => l8
  refine Hold.mk (addc_ok (rest := (L + 2, o2) :: (S, listOf #[Value.int w0 u0, Value.int w1 u1, Value.int w2 u2] 3) :: rest) w _ _ _ _ w0 w1 ag w2 _ _ _ _ (by assumption) (by assumption) l9.1 (by assumption) (by assumption) b0 b1 b2 b3 (by assumption) (by assumption) mean mg mb _ _ _ _ _ _ _ _ _ callerA h₀ h₀ L _ _ _ _ B F9 X N9 ?off T rfl ?k7 ?k8 ?_)
  case k7 => decide
  case k8 => decide
  case off =>
    refine off_cons' ?_ (off_cons' ?_ fun p hp => ?_)
    · exact all_cons (Nat.ne_of_lt l8.1) (all_cons (Nat.ne_of_lt l9.2.1) all_nil)
    · exact all_cons (Nat.ne_of_lt l8.2.1) (all_cons (Nat.ne_of_lt l9.2.2.1) all_nil)
    · exact all_cons (Nat.ne_of_lt (allLt_mem l8.2.2 p hp)) (all_cons (Nat.ne_of_lt (allLt_mem l9.2.2.2 p hp)) all_nil)
  intro D oD x0 x1 x2 h7 tk7 lo hD fD hne F7 N7
  have e1 := hne _ List.mem_cons_self
  have e2 := hne _ (List.mem_cons_of_mem _ List.mem_cons_self)
  have ho' : ∀ p ∈ rest, p.1 ≠ D := fun p hp => hne p (List.mem_cons_of_mem _ (List.mem_cons_of_mem _ hp))
  clear F9 N9
  dsimp only at e1 e2
  have e1' := Ne.symm e1
  k_steps
  rename News _ _ _ _ => N5
  exact hQ _ _ D oD _ x0 x1 x2 lo hD fD e1 ho' (by assumption) (by k_asm) (news_perm N5 (all_cons (by k_mem) (all_cons (by k_mem) (fun q hq => List.mem_cons_of_mem _ (List.mem_cons_of_mem _ hq)))))

end Mine
end
-- part P6
section
namespace Mine
set_option maxRecDepth 100000
set_option maxHeartbeats 8000000
theorem floor_cps (t b : Nat) : (lead t b ++ Str.ofString "x\t").cps.toList = List.replicate t 9 ++ (List.replicate b 32 ++ [120, 9]) := by
  have e1 : Str.ofString "x\t" = ⟨#[120, 9]⟩ := by decide +kernel
  rw [e1]
  show ((lead t b).cps ++ #[120, 9]).toList = _
  rw [Array.toList_append, lead_cps, List.append_nil, List.append_assoc]
theorem p6 (w : World) (mean : ExcName → Option Value) (mg mb : Str → Option Value) (fa : Addr) (cd : Value) (h₀ : Heap) (L : Nat) (m : Str → Option Value) (s : Shared) (Q : Flow → Shared → Prop) (B : Below callerA h₀ [] h₀) (X : (hd.heap_39 w.params).In h₀) (T : Top hd.view_39 (looseW hd.view_39 [Str.ofString "Whitespace"]) mean mg mb h₀)
   (o3 : Obj) (fA : Nat) (f0 f1 : Nat) (t0 t1 : Tok) (hf0 : f0 < 2) (hf1 : f1 < 3) (d3 : o3.data = .cell (some (.ref fA))) (rest : List (Addr × Obj)) (N : News h₀ L s.heap ((L + 3, o3) :: (fA, tup2 (f0 : Int) (f1 : Int) t0 t1) :: rest)) (F : Fr h₀ L s.heap (fun y => m y))
   (hQ : ∀ h' tk' (lA ld : Nat) xr k0 k1 k2 k3 k4 u0 u1 u2 a3, (∀ p ∈ rest, p.1 < ld) → (∀ p ∈ rest, p.1 < lA) → Fr h₀ L h' (fun y => if y = Str.ofString "low" then some (.ref lA) else m y) → News h₀ L h' ((lA, instObj 125 ld) :: (ld, lowD w f0 f1 xr k0 k1 k2 k3 k4 u0 u1 u2 a3) :: (L + 3, o3) :: (fA, tup2 (f0 : Int) (f1 : Int) t0 t1) :: rest) → Q .next { s with heap := h', toks := tk' }) :
   wpAny (model PySem.Challenge.rw_pu0052_01.row.prog w) (callerA.deeper (envOfC (Str.ofString "law") lawScope L fa cd)) (exec (st 6) (envOfC (Str.ofString "law") lawScope L fa cd)) Q (fun _ _ => False) s := by
  revert X; k_fill; intro X
  have hStop0 := stop "call ref"
  conv in (st 6) => whnf
  k_steps
  refine Hold.mk (lead_ok w f0 f1 t0 t1 (by omega) (by omega) (by omega) (by omega) mean mg mb ((L + 3, o3) :: (fA, tup2 (f0 : Int) (f1 : Int) t0 t1) :: rest) _ _ _ _ _ _ _ _ _ callerA h₀ h₀ L _ _ _ _ B F X N T rfl ?k7 ?k8 ?_)
  case k7 => decide
  case k8 => decide
  intro t9 h9 tk9 F9 N9
  clear F N
  dsimp only
  have hl := lead_len f0 f1 (by omega) (by omega)
  generalize hx : lead f0 f1 = x at *
  k_steps
  subst hx
  refine' Hold.mk (white_ok w _ _ f0 f1 [120, 9] (floor_cps f0 f1) (.inr rfl) _ _ _ _ _ _ _ _ _ _ _ _ _ _ _ _ _ _ _ _ _ ?k1 ?k2 ?k3 ?k4 ?k5 ?k6 ?k7 ?k8 ?_)
  (case k1 => exact B)
  (case k2 => exact F9)
  (case k3 => exact X)
  (case k4 => exact N9)
  (case k5 => exact T)
  (case k6 => rfl)
  (case k7 => decide)
  (case k8 => decide)
  intro x1 dx h7 tk7 k0 k1 k2 k3 k4 u0 u1 u2 a3 F7 N7 l1 l2
  clear F9 N9
  rw [show ((f0 + f1 : Nat) : Int) = (f0 : Int) + (f1 : Int) from rfl] at N7
  generalize lead f0 f1 ++ Str.ofString "x	" = xr at *
  k_steps
  exact hQ _ _ x1 dx xr k0 k1 k2 k3 k4 u0 u1 u2 a3 (fun p hp => l1 p (List.mem_cons_of_mem _ (List.mem_cons_of_mem _ hp))) (fun p hp => Nat.lt_trans (l1 p (List.mem_cons_of_mem _ (List.mem_cons_of_mem _ hp))) l2) (by k_asm) (by k_asm)

end Mine
end
-- part LA
section
namespace Mine
set_option maxRecDepth 100000
set_option maxHeartbeats 8000000
theorem ne_data {h₀ h : Heap} {L : Addr} {l : List (Addr × Obj)} {a b : Addr} {o o' : Obj} (N : News h₀ L h l) (h1 : (a, o) ∈ l) (h2 : (b, o') ∈ l) (hd : o.data ≠ o'.data) : a ≠ b := fun e => by
  subst e
  have := (N _ h1).1.symm.trans (N _ h2).1
  exact hd (congrArg Obj.data (Option.some.inj this))
theorem nat_of {x k : Int} (h : 0 ≤ x ∧ x < k) : ∃ n : Nat, (n : Int) < k ∧ x = (n : Int) := ⟨x.toNat, by omega, by omega⟩
def thr (a b c : Nat) : Nat → Nat
  | 0 => a
  | 1 => b
  | _ => c
theorem thr_lt {a b c k : Nat} (h1 : a < k) (h2 : b < k) (h3 : c < k) : ∀ i, thr a b c i < k
  | 0 => h1
  | 1 => h2
  | _ + 2 => h3
theorem tl4 {α : Type} {x a b c d : α} {l : List α} (h : x ∈ l) : x ∈ a :: b :: c :: d :: l := .tail _ (.tail _ (.tail _ (.tail _ h)))
theorem mt5 {α : Type} {x a b c d e : α} {l : List α} (h : x ∈ l) : x ∈ a :: b :: c :: d :: e :: l := .tail _ (.tail _ (.tail _ (.tail _ (.tail _ h))))
theorem mem_swap {h₀ h : Heap} {L : Addr} {A B : List (Addr × Obj)} (N : News h₀ L h (A ++ B)) : News h₀ L h (B ++ A) := fun p hp => (List.mem_append.mp hp).elim (fun h => N p (List.mem_append_right _ h)) (fun h => N p (List.mem_append_left _ h))
theorem arr3 {a b c v : Value} : ∀ {i : Nat}, #[a, b, c][i]? = some v → (i = 0 ∧ v = a) ∨ (i = 1 ∧ v = b) ∨ (i = 2 ∧ v = c)
  | 0, h => .inl ⟨rfl, (Option.some.inj h).symm⟩
  | 1, h => .inr (.inl ⟨rfl, (Option.some.inj h).symm⟩)
  | 2, h => .inr (.inr ⟨rfl, (Option.some.inj h).symm⟩)
  | n + 3, h => nomatch (show none = some v from h)
/-- statements 0 to 9 -/
theorem law_a (w : World) (mean : ExcName → Option Value) (mg mb : Str → Option Value) (fa : Addr) (cd : Value) (h₀ : Heap) (L : Nat) (m : Str → Option Value) (s : Shared) (Q : Flow → Shared → Prop) (B : Below callerA h₀ [] h₀) (X : (hd.heap_39 w.params).In h₀) (T : Top hd.view_39 (looseW hd.view_39 [Str.ofString "Whitespace"]) mean mg mb h₀)
   (aS : Addr) (vs : List Value) (ns : List Int) (hL : h₀.IsList aS vs.toArray) (hI : IntsAre vs ns) (hlen : ns.length ≤ 63) (o1 o2 o3 o4 : Obj) (v2 v3 v4 : Option Value) (d1 : o1.data = .cell (some (.ref aS))) (d2 : o2.data = .cell v2) (d3 : o3.data = .cell v3) (d4 : o4.data = .cell v4)
   (C : List (Addr × Obj)) (hC : ∀ p ∈ C, L + 5 ≤ p.1) (hCd : ∀ p ∈ C, ∃ v, p.2.data = .cell v) (N : News h₀ L s.heap ((L + 1, o1) :: (L + 2, o2) :: (L + 3, o3) :: (L + 4, o4) :: C)) (F : Fr h₀ L s.heap m)
   (rest : List Stmt)
   (hQ : ∀ h' tk' m' (c : Cst) rn un (K : List (Addr × Obj)), Num c → FOk c m' → Kon w L c K → (∀ p ∈ K, ∀ q ∈ C, p.1 ≠ q.1) → OwnOff (C ++ K) [c.rA, c.uA] → c.rA ≠ c.uA → Fr h₀ L h' m' → News h₀ L h' ((c.rA, listOf #[] rn) :: (c.uA, listOf #[] un) :: (C ++ K)) → wpAny (model PySem.Challenge.rw_pu0052_01.row.prog w) (callerA.deeper (envOfC (Str.ofString "law") lawScope L fa cd)) (execs rest (envOfC (Str.ofString "law") lawScope L fa cd)) Q (fun _ _ => False) { s with heap := h', toks := tk' }) :
   wpAny (model PySem.Challenge.rw_pu0052_01.row.prog w) (callerA.deeper (envOfC (Str.ofString "law") lawScope L fa cd)) (execs (st 0 :: st 1 :: st 2 :: st 3 :: st 4 :: st 5 :: st 6 :: st 7 :: st 8 :: st 9 :: rest) (envOfC (Str.ofString "law") lawScope L fa cd)) Q (fun _ _ => False) s := by
  refine wpAny_execs_cons (p0 w mean mg mb fa cd h₀ L m s _ B X T aS vs ns hL hI hlen o1 d1 _ N F ?_)
  intro D h0 tk0 n0 n1 n2 n3 t0 t1 t2 t3 F0 N0
  clear N
  dsimp only
  obtain ⟨m1, e1, F1⟩ : ∃ m1 : Str → Option Value, m1 (Str.ofString "numbers") = some (.ref D) ∧ Fr h₀ L h0 m1 := ⟨_, rfl, F0⟩
  clear F0
  have l1 : ∀ e ∈ [(Str.ofString "numbers", Value.ref D)], m1 e.1 = some e.2 := all_cons e1 all_nil
  refine wpAny_execs_cons (p1 w mean mg mb fa cd h₀ L m1 _ _ B X T D n0 n1 n2 n3 t0 t1 t2 t3 _ N0 (fr_names F1 _ l1) ?_)
  intro h1 tk1 S ys add h3 hys F2 N1
  clear N0
  obtain ⟨y0, y1, y2, rfl⟩ := len3 h3
  obtain ⟨a0, x0, z0, rfl, q0⟩ := hys 0 _ rfl
  obtain ⟨a1, x1, z1, rfl, q1⟩ := hys 1 _ rfl
  obtain ⟨a2, x2, z2, rfl, q2⟩ := hys 2 _ rfl
  clear hys h3
  replace q0 : (a0, tup2 (n0.fmod 4) ((n0.fdiv 4).fmod 4) x0 z0) ∈ add := q0
  replace q1 : (a1, tup2 (n1.fmod 4) ((n1.fdiv 4).fmod 4) x1 z1) ∈ add := q1
  replace q2 : (a2, tup2 (n2.fmod 4) ((n2.fdiv 4).fmod 4) x2 z2) ∈ add := q2
  obtain ⟨T0, hT0, E0⟩ := nat_of (fmod_in n0 4 (by decide))
  obtain ⟨T1, hT1, E1⟩ := nat_of (fmod_in n1 4 (by decide))
  obtain ⟨T2, hT2, E2⟩ := nat_of (fmod_in n2 4 (by decide))
  obtain ⟨B0, hB0, G0⟩ := nat_of (fmod_in (n0.fdiv 4) 4 (by decide))
  obtain ⟨B1, hB1, G1⟩ := nat_of (fmod_in (n1.fdiv 4) 4 (by decide))
  obtain ⟨B2, hB2, G2⟩ := nat_of (fmod_in (n2.fdiv 4) 4 (by decide))
  rw [E0, G0] at q0
  rw [E1, G1] at q1
  rw [E2, G2] at q2
  have N2 : News h₀ L h1 ((D, LCg.lst [Value.int n0 t0, .int n1 t1, .int n2 t2, .int n3 t3]) :: (S, LCg.lst [Value.ref a0, .ref a1, .ref a2]) :: (a0, tup2 (T0 : Int) (B0 : Int) x0 z0) :: (a1, tup2 (T1 : Int) (B1 : Int) x1 z1) :: (a2, tup2 (T2 : Int) (B2 : Int) x2 z2) :: (L + 1, o1) :: (L + 2, o2) :: (L + 3, o3) :: (L + 4, o4) :: C) :=
    news_perm N1 (all_cons (.tail _ (List.mem_append_right _ (.head _))) (all_cons (.head _) (all_cons (.tail _ (List.mem_append_left _ q0)) (all_cons (.tail _ (List.mem_append_left _ q1)) (all_cons (.tail _ (List.mem_append_left _ q2)) (fun p hp => .tail _ (List.mem_append_right _ (.tail _ hp))))))))
  clear N1 q0 q1 q2 E0 E1 E2 G0 G1 G2
  dsimp only
  obtain ⟨m2, e2, F2⟩ : ∃ m2 : Str → Option Value, (m2 (Str.ofString "numbers") = some (.ref D) ∧ m2 (Str.ofString "spots") = some (.ref S)) ∧ Fr h₀ L h1 m2 := ⟨_, ⟨rfl, rfl⟩, F2⟩
  have l2 : ∀ e ∈ [(Str.ofString "numbers", Value.ref D)], m2 e.1 = some e.2 := all_cons e2.1 all_nil
  refine wpAny_execs_cons (p2 w mean mg mb fa cd h₀ L m2 _ _ B X T D n0 n1 n2 n3 t0 t1 t2 t3 _ N2 (fr_names F2 _ l2) ?_)
  intro h2 tk2 Sd u0 u1 u2 F3 N3
  replace F3 := fr_back l2 F3
  clear N2
  dsimp only
  have w0 := fmod_in (n0.fdiv 16) 3 (by decide)
  have w1 := fmod_in (n1.fdiv 16) 3 (by decide)
  have w2 := fmod_in (n2.fdiv 16) 3 (by decide)
  have wa := fmod_in (n1.fdiv 48) 2 (by decide)
  generalize (n0.fdiv 16).fmod 3 = W0 at *
  generalize (n1.fdiv 16).fmod 3 = W1 at *
  generalize (n2.fdiv 16).fmod 3 = W2 at *
  obtain ⟨m3, e3, F3⟩ : ∃ m3 : Str → Option Value, (m3 (Str.ofString "numbers") = some (.ref D) ∧ m3 (Str.ofString "spots") = some (.ref S) ∧ m3 (Str.ofString "drawn") = some (.ref Sd)) ∧ Fr h₀ L h2 m3 := ⟨(fun y => if y = Str.ofString "drawn" then some (.ref Sd) else m2 y), ⟨e2.1, e2.2, rfl⟩, F3⟩
  have l3 : ∀ e ∈ [(Str.ofString "numbers", Value.ref D)], m3 e.1 = some e.2 := all_cons e3.1 all_nil
  refine wpAny_execs_cons (p3 w mean mg mb fa cd h₀ L m3 _ _ B X T D n0 n1 n2 n3 t0 t1 t2 t3 _ (news_perm N3 (all_cons (.tail _ (.head _)) (fun p hp => hp))) (fr_names F3 _ l3) ?_)
  intro h3 tk3 ua F4 N4
  replace F4 := fr_back l3 F4
  replace N4 := news_tl N4
  clear N3
  dsimp only
  generalize (n1.fdiv 48).fmod 2 = Wa at *
  obtain ⟨m4, e4, F4⟩ : ∃ m4 : Str → Option Value, (m4 (Str.ofString "numbers") = some (.ref D) ∧ m4 (Str.ofString "spots") = some (.ref S) ∧ m4 (Str.ofString "drawn") = some (.ref Sd) ∧ m4 (Str.ofString "again") = some (.int Wa ua)) ∧ Fr h₀ L h3 m4 := ⟨(fun y => if y = Str.ofString "again" then some (.int Wa ua) else m3 y), ⟨e3.1, e3.2.1, e3.2.2, rfl⟩, F4⟩
  clear F1 F2 F3 e1 e2 e3 l1 l2 l3
  have l4 : ∀ e ∈ [(Str.ofString "drawn", Value.ref Sd), (Str.ofString "again", Value.int Wa ua)], m4 e.1 = some e.2 := all_cons e4.2.2.1 (all_cons e4.2.2.2 all_nil)
  obtain ⟨G, gS, g0, g1, g2, gd, N4⟩ : ∃ G : List (Addr × Obj), (S, LCg.lst [Value.ref a0, .ref a1, .ref a2]) ∈ G ∧ (a0, tup2 (T0 : Int) (B0 : Int) x0 z0) ∈ G ∧ (a1, tup2 (T1 : Int) (B1 : Int) x1 z1) ∈ G ∧ (a2, tup2 (T2 : Int) (B2 : Int) x2 z2) ∈ G ∧ (∀ p ∈ G, ∀ v, p.2.data ≠ .cell v) ∧
      News h₀ L h3 ((Sd, listOf #[Value.int W0 u0, .int W1 u1, .int W2 u2] 3) :: (D, LCg.lst [Value.int n0 t0, .int n1 t1, .int n2 t2, .int n3 t3]) :: (L + 1, o1) :: (L + 2, o2) :: (L + 3, o3) :: (L + 4, o4) :: (G ++ C)) := by
    refine ⟨[(S, LCg.lst [Value.ref a0, .ref a1, .ref a2]), (a0, tup2 (T0 : Int) (B0 : Int) x0 z0), (a1, tup2 (T1 : Int) (B1 : Int) x1 z1), (a2, tup2 (T2 : Int) (B2 : Int) x2 z2)], .head _, .tail _ (.head _), .tail _ (.tail _ (.head _)), .tail _ (.tail _ (.tail _ (.head _))), ?_, ?_⟩
    · exact all_cons (fun v h => nomatch h) (all_cons (fun v h => nomatch h) (all_cons (fun v h => nomatch h) (all_cons (fun v h => nomatch h) all_nil)))
    · exact news_perm N4 (all_cons (.head _) (all_cons (.tail _ (.head _)) (all_cons (mt5 (.tail _ (.head _))) (all_cons (mt5 (.tail _ (.tail _ (.head _)))) (all_cons (mt5 (.tail _ (.tail _ (.tail _ (.head _))))) (all_cons (mt5 (.tail _ (.tail _ (.tail _ (.tail _ (.head _)))))) (fun p hp => (List.mem_append.mp hp).elim (fun h => .tail _ (.tail _ (List.mem_append_left _ h))) (fun h => mt5 (mt5 h)))))))))
  have c5 : ∀ (k : Nat), k ≤ 4 → ∀ p ∈ C, p.1 ≠ L + k := fun k hk p hp => Nat.ne_of_gt (Nat.lt_of_lt_of_le (Nat.add_lt_add_left (Nat.lt_succ_of_le hk) L) (hC p hp))
  have lk : ∀ (i j : Nat), i ≠ j → L + i ≠ L + j := fun i j h e => h (Nat.add_left_cancel e)
  have gc : ∀ {h : Heap} {l : List (Addr × Obj)} {k : Nat} {o : Obj} {v : Option Value}, News h₀ L h l → (∀ p ∈ G, p ∈ l) → (L + k, o) ∈ l → o.data = .cell v → ∀ p ∈ G, p.1 ≠ L + k := fun N hl hk hd p hp => ne_data (o := p.2) N (hl p hp) hk (hd ▸ gd p hp _)
  have dc : ∀ {h : Heap} {l : List (Addr × Obj)} {x k : Nat} {o : Obj} {v : Option Value} {its : Array Value} {n : Nat}, News h₀ L h l → (x, listOf its n) ∈ l → (L + k, o) ∈ l → o.data = .cell v → x ≠ L + k := fun N hl hk hd => ne_data N hl hk (hd ▸ fun h => nomatch h)
  -- calls
  refine wpAny_execs_cons (p4 w mean mg mb fa cd h₀ L m4 _ _ B X T o2 v2 d2 Sd W0 W1 W2 Wa u0 u1 u2 ua ⟨w0.1, Int.le_of_lt_add_one w0.2⟩ ⟨w1.1, Int.le_of_lt_add_one w1.2⟩ ⟨wa.1, Int.le_of_lt_add_one wa.2⟩ ⟨w2.1, Int.le_of_lt_add_one w2.2⟩ ((D, LCg.lst [Value.int n0 t0, .int n1 t1, .int n2 t2, .int n3 t3]) :: (L + 1, o1) :: (L + 3, o3) :: (L + 4, o4) :: (G ++ C)) ?_ ?_ (news_perm N4 ?_) (fr_names F4 _ l4) ?_)
  · exact off_cons (dc N4 (.tail _ (.head _)) (.tail _ (.tail _ (.tail _ (.head _)))) d2) (off_cons (lk 1 2 (by decide)) (off_cons (lk 3 2 (by decide)) (off_cons (lk 4 2 (by decide)) (off_app (off_one (gc N4 (fun p hp => .tail _ (.tail _ (.tail _ (.tail _ (.tail _ (.tail _ (List.mem_append_left _ hp))))))) (.tail _ (.tail _ (.tail _ (.head _)))) d2)) (off_one (c5 2 (by decide)))))))
  · exact dc N4 (.head _) (.tail _ (.tail _ (.tail _ (.head _)))) d2
  · exact all_cons (.tail _ (.tail _ (.tail _ (.head _)))) (all_cons (.head _) (all_cons (.tail _ (.head _)) (all_cons (.tail _ (.tail _ (.head _))) (fun p hp => .tail _ (.tail _ (.tail _ (.tail _ hp)))))))
  intro h4 tk4 dC oC o2' r0 r1 r2 hC1 hC2 hC3 nd2 ndr d2' F5 N5
  clear N4
  replace F5 := fr_back0 l4 F5
  dsimp only
  have l5 : ∀ e ∈ [(Str.ofString "numbers", Value.ref D)], m4 e.1 = some e.2 := all_cons e4.1 all_nil
  refine wpAny_execs_cons (p5 w mean mg mb fa cd h₀ L m4 _ _ B X T D n0 n1 n2 n3 t0 t1 t2 t3 o3 v3 d3 ((L + 2, o2') :: (dC, oC) :: (Sd, listOf #[Value.int W0 u0, .int W1 u1, .int W2 u2] 3) :: (L + 1, o1) :: (L + 4, o4) :: (G ++ C)) ?_ ?_ (news_perm N5 ?_) (fr_names F5 _ l5) ?_)
  · exact off_cons (lk 2 3 (by decide)) (off_cons (Ne.symm (ndr _ (.tail _ (.tail _ (.head _))))) (off_cons (dc N5 (.tail _ (.tail _ (.head _))) (.tail _ (.tail _ (.tail _ (.tail _ (.tail _ (.head _)))))) d3) (off_cons (lk 1 3 (by decide)) (off_cons (lk 4 3 (by decide)) (off_app (off_one (gc N5 (fun p hp => .tail _ (.tail _ (.tail _ (.tail _ (.tail _ (.tail _ (.tail _ (List.mem_append_left _ hp)))))))) (.tail _ (.tail _ (.tail _ (.tail _ (.tail _ (.head _)))))) d3)) (off_one (c5 3 (by decide))))))))
  · exact dc N5 (.tail _ (.tail _ (.tail _ (.head _)))) (.tail _ (.tail _ (.tail _ (.tail _ (.tail _ (.head _)))))) d3
  · exact all_cons (.tail _ (.tail _ (.tail _ (.tail _ (.tail _ (.head _)))))) (all_cons (.tail _ (.tail _ (.tail _ (.head _)))) (all_cons (.head _) (all_cons (.tail _ (.head _)) (all_cons (.tail _ (.tail _ (.head _))) (all_cons (.tail _ (.tail _ (.tail _ (.tail _ (.head _))))) (fun p hp => .tail _ (.tail _ (.tail _ (.tail _ (.tail _ (.tail _ hp)))))))))))
  intro h5 tk5 fT o3' t5 t6 lf1 lf2 lf3 d3' F6 N6
  replace F6 := fr_back0 l5 F6
  dsimp only
  obtain ⟨f0, hf0, E0⟩ := nat_of (fmod_in n3 2 (by decide))
  obtain ⟨f1, hf1, E1⟩ := nat_of (fmod_in (n3.fdiv 2) 3 (by decide))
  rw [E0, E1] at N6
  clear F4 F5 E0 E1 l4 l5 N5
  generalize hnum : LCg.lst [Value.int n0 t0, .int n1 t1, .int n2 t2, .int n3 t3] = num at *
  -- low
  refine wpAny_execs_cons (p6 w mean mg mb fa cd h₀ L m4 _ _ B X T o3' fT f0 f1 t5 t6 (Int.ofNat_lt.mp hf0) (Int.ofNat_lt.mp hf1) d3' ((D, num) :: (L + 2, o2') :: (dC, oC) :: (Sd, listOf #[Value.int W0 u0, .int W1 u1, .int W2 u2] 3) :: (L + 1, o1) :: (L + 4, o4) :: (G ++ C)) (news_perm N6 (all_cons (.tail _ (.head _)) (all_cons (.head _) (fun p hp => .tail _ (.tail _ hp))))) F6 ?_)
  intro h6 tk6 lA ld xr k0 k1 k2 k3 k4 v0 v1 v2 a3 ll1 ll2 F7 N7
  clear N6
  dsimp only
  obtain ⟨m5, e5, F7⟩ : ∃ m5 : Str → Option Value, (m5 (Str.ofString "spots") = some (.ref S) ∧ m5 (Str.ofString "drawn") = some (.ref Sd) ∧ m5 (Str.ofString "again") = some (.int Wa ua) ∧ m5 (Str.ofString "low") = some (.ref lA)) ∧ Fr h₀ L h6 m5 := ⟨(fun y => if y = Str.ofString "low" then some (.ref lA) else m4 y), ⟨e4.2.1, e4.2.2.1, e4.2.2.2, rfl⟩, F7⟩
  -- bound
  refine wpAny_execs_cons (p7 w mean mg mb fa cd h₀ L m5 _ _ B X T aS vs ns hL hI hlen o1 o4 v4 d1 d4 ((lA, instObj 125 ld) :: (ld, lowD w f0 f1 xr k0 k1 k2 k3 k4 v0 v1 v2 a3) :: (L + 3, o3') :: (fT, tup2 (f0 : Int) (f1 : Int) t5 t6) :: (D, num) :: (L + 2, o2') :: (dC, oC) :: (Sd, listOf #[Value.int W0 u0, .int W1 u1, .int W2 u2] 3) :: (G ++ C)) ?_ (news_perm N7 ?_) F7 ?_)
  · have m4' : (L + 4, o4) ∈ (D, num) :: (L + 2, o2') :: (dC, oC) :: (Sd, listOf #[Value.int W0 u0, .int W1 u1, .int W2 u2] 3) :: (L + 1, o1) :: (L + 4, o4) :: (G ++ C) := .tail _ (.tail _ (.tail _ (.tail _ (.tail _ (.head _)))))
    refine off_cons (Nat.ne_of_gt (ll2 _ m4')) (off_cons (Nat.ne_of_gt (ll1 _ m4')) (off_cons (lk 3 4 (by decide)) (off_cons (Nat.ne_of_gt (lf3 _ (.tail _ (.tail _ (.tail _ (.tail _ (.head _))))))) (off_cons (ne_data N7 (tl4 (.head _)) (tl4 m4') (d4 ▸ hnum ▸ fun h => nomatch h)) (off_cons (lk 2 4 (by decide)) (off_cons (Ne.symm (ndr _ (.tail _ (.tail _ (.tail _ (.head _)))))) (off_cons (dc N7 (tl4 (.tail _ (.tail _ (.tail _ (.head _))))) (tl4 m4') d4) (off_app (off_one (gc N7 (fun p hp => tl4 (.tail _ (.tail _ (.tail _ (.tail _ (.tail _ (.tail _ (List.mem_append_left _ hp)))))))) (tl4 m4') d4)) (off_one (c5 4 (by decide)))))))))))
  · exact all_cons (.tail _ (.tail _ (.tail _ (.tail _ (.tail _ (.tail _ (.tail _ (.tail _ (.head _))))))))) (all_cons (.tail _ (.tail _ (.tail _ (.tail _ (.tail _ (.tail _ (.tail _ (.tail _ (.tail _ (.head _)))))))))) (all_cons (.head _) (all_cons (.tail _ (.head _)) (all_cons (.tail _ (.tail _ (.head _))) (all_cons (.tail _ (.tail _ (.tail _ (.head _)))) (all_cons (.tail _ (.tail _ (.tail _ (.tail _ (.head _))))) (all_cons (.tail _ (.tail _ (.tail _ (.tail _ (.tail _ (.head _)))))) (all_cons (.tail _ (.tail _ (.tail _ (.tail _ (.tail _ (.tail _ (.head _))))))) (all_cons (.tail _ (.tail _ (.tail _ (.tail _ (.tail _ (.tail _ (.tail _ (.head _)))))))) (fun p hp => .tail _ (.tail _ (.tail _ (.tail _ (.tail _ (.tail _ (.tail _ (.tail _ (.tail _ (.tail _ hp)))))))))))))))))))
  intro h7 tk7 o4' bd tb hbd d4' F8 N8
  clear N7
  dsimp only
  -- the fixed part
  obtain ⟨K, hKe, N8⟩ : ∃ K, K = (L + 1, o1) :: (L + 4, o4') :: (lA, instObj 125 ld) :: (ld, lowD w f0 f1 xr k0 k1 k2 k3 k4 v0 v1 v2 a3) :: (L + 3, o3') :: (fT, tup2 (f0 : Int) (f1 : Int) t5 t6) :: (D, num) :: (L + 2, o2') :: (dC, oC) :: (Sd, listOf #[Value.int W0 u0, .int W1 u1, .int W2 u2] 3) :: G ∧ News h₀ L h7 (C ++ K) := by
    exact ⟨_, rfl, mem_swap N8⟩
  refine wpAny_execs_cons (p8 w mean mg mb fa cd h₀ L m5 _ _ B X T _ N8 F8 ?_)
  intro h8 tk8 rA rn lr F9 N9
  dsimp only
  obtain ⟨m6, e6, F9⟩ : ∃ m6 : Str → Option Value, (m6 (Str.ofString "spots") = some (.ref S) ∧ m6 (Str.ofString "drawn") = some (.ref Sd) ∧ m6 (Str.ofString "again") = some (.int Wa ua) ∧ m6 (Str.ofString "low") = some (.ref lA) ∧ m6 (Str.ofString "rows") = some (.ref rA)) ∧ Fr h₀ L h8 m6 := ⟨(fun y => if y = Str.ofString "rows" then some (.ref rA) else m5 y), ⟨e5.1, e5.2.1, e5.2.2.1, e5.2.2.2, rfl⟩, F9⟩
  refine wpAny_execs_cons (p9 w mean mg mb fa cd h₀ L m6 _ _ B X T _ N9 F9 ?_)
  intro h9 tk9 uA un lu F10 N10
  dsimp only
  refine hQ h9 tk9 (fun y => if y = Str.ofString "due" then some (Value.ref uA) else m6 y) ⟨lA, ld, S, Sd, rA, uA, dC, fT, f0, f1, bd, W0, W1, W2, Wa, thr T0 T1 T2, thr B0 B1 B2, [Value.ref a0, .ref a1, .ref a2].toArray, 3, 3⟩ rn un K ?num ⟨e6.2.2.2.1, e6.1, e6.2.1, ⟨ua, e6.2.2.1⟩, e6.2.2.2.2, rfl⟩ ?kon ?apart ?off ?ne F10 (news_perm N10 (all_cons (.tail _ (.head _)) (all_cons (.head _) (fun p hp => .tail _ (.tail _ hp)))))
  case num =>
    have j0 : ∀ i, thr T0 T1 T2 i < 4 := thr_lt (Int.ofNat_lt.mp hT0) (Int.ofNat_lt.mp hT1) (Int.ofNat_lt.mp hT2)
    have j1 : ∀ i, thr B0 B1 B2 i < 4 := thr_lt (Int.ofNat_lt.mp hB0) (Int.ofNat_lt.mp hB1) (Int.ofNat_lt.mp hB2)
    exact ⟨Int.natCast_nonneg _, hf0, Int.natCast_nonneg _, hf1, hbd, w0.1, Int.le_of_lt_add_one w0.2, w1.1, Int.le_of_lt_add_one w1.2, w2.1, Int.le_of_lt_add_one w2.2, wa.1, Int.le_of_lt_add_one wa.2, rfl, j0, j1⟩
  case ne => exact Nat.ne_of_lt (lu _ (.head _))
  case off =>
    exact fun p hp => all_cons (Nat.ne_of_lt (lr p hp)) (all_cons (Nat.ne_of_lt (lu p (.tail _ hp))) all_nil)
  case kon =>
    subst hKe
    refine ⟨⟨o2', by k_mem, d2'⟩, ⟨o3', by k_mem, d3'⟩, ⟨o4', tb, by k_mem, d4'⟩, ⟨t5, t6, by k_mem⟩, by k_mem, ⟨xr, k0, k1, k2, k3, k4, v0, v1, v2, a3, by k_mem⟩, ?_, ?_, ⟨u0, u1, u2, by k_mem⟩, ⟨oC, r0, r1, r2, by k_mem, hC1, hC2, hC3⟩⟩
    · exact .tail _ (.tail _ (.tail _ (.tail _ (.tail _ (.tail _ (.tail _ (.tail _ (.tail _ (.tail _ gS)))))))))
    · intro i v hv
      rcases arr3 hv with ⟨rfl, rfl⟩ | ⟨rfl, rfl⟩ | ⟨rfl, rfl⟩
      · exact ⟨a0, x0, z0, rfl, mt5 (mt5 g0)⟩
      · exact ⟨a1, x1, z1, rfl, mt5 (mt5 g1)⟩
      · exact ⟨a2, x2, z2, rfl, mt5 (mt5 g2)⟩
  case apart =>
    subst hKe
    have far : ∀ k : Nat, k ≤ 4 → ∀ q ∈ C, L + k ≠ q.1 := fun k hk q hq => Ne.symm (c5 k hk q hq)
    have dat : ∀ p ∈ C ++ _, (∀ v, p.2.data ≠ .cell v) → ∀ q ∈ C, p.1 ≠ q.1 := fun p hp hd q hq => by
      obtain ⟨v, e⟩ := hCd q hq
      exact ne_data (o := p.2) (o' := q.2) N8 hp (List.mem_append_left _ hq) (e ▸ hd v)
    have inK : ∀ {l : List (Addr × Obj)}, ∀ p ∈ l, p ∈ C ++ l := fun p hp => List.mem_append_right _ hp
    have t8 : ∀ q ∈ C, q ∈ (D, num) :: (L + 2, o2') :: (dC, oC) :: (Sd, listOf #[Value.int W0 u0, .int W1 u1, .int W2 u2] 3) :: (L + 1, o1) :: (L + 4, o4) :: (G ++ C) := fun q hq => .tail _ (.tail _ (.tail _ (.tail _ (.tail _ (.tail _ (List.mem_append_right _ hq))))))
    refine all_cons (far 1 (by decide)) (all_cons (far 4 (by decide)) (all_cons (fun q hq => Nat.ne_of_gt (ll2 _ (t8 q hq))) (all_cons (fun q hq => Nat.ne_of_gt (ll1 _ (t8 q hq))) (all_cons (far 3 (by decide)) (all_cons (fun q hq => Nat.ne_of_gt (lf3 _ (.tail _ (.tail _ (.tail _ (.tail _ (.tail _ (List.mem_append_right _ hq)))))))) (all_cons (dat _ ?_ ?_) (all_cons (far 2 (by decide)) (all_cons (fun q hq => Ne.symm (ndr _ (.tail _ (.tail _ (.tail _ (.tail _ (List.mem_append_right _ hq))))))) (all_cons (dat _ ?_ ?_) (fun p hp => dat p ?_ (gd p hp)))))))))))
    · exact inK _ (.tail _ (.tail _ (.tail _ (.tail _ (.tail _ (.tail _ (.head _)))))))
    · rw [← hnum]
      exact fun v h => nomatch h
    · exact inK _ (.tail _ (.tail _ (.tail _ (.tail _ (.tail _ (.tail _ (.tail _ (.tail _ (.tail _ (.head _))))))))))
    · exact fun v h => nomatch h
    · exact inK _ (.tail _ (.tail _ (.tail _ (.tail _ (.tail _ (.tail _ (.tail _ (.tail _ (.tail _ (.tail _ hp))))))))))
end Mine
end
-- part LW
section
namespace Mine
set_option maxRecDepth 100000
set_option maxHeartbeats 8000000
/-- the plain law: what the search finds is what the sums say -/
def PlainLaw (c : Cst) : Prop := ∀ (R U O : List Row) (bq : Row), R.map Row.pl = inAll c.f0 c.f1 4 → U.map Row.pl = inAll c.f0 c.f1 4 → O.Perm R → O.Pairwise (Lt c) → bq ∈ U → (∀ u ∈ U, lexD c u bq = false) →
  ∃ q0 O', O = q0 :: O' ∧ O.filter (isVal c R) = O.take (U.filter fun u => cost c u.t u.b == cost c bq.t bq.b).length ∧ cost c q0.t q0.b = cost c bq.t bq.b ∧ q0.t = bq.t ∧ q0.b = bq.b
theorem inAll_lt (f0 f1 : Int) : ∀ n, n ≤ 4 → ∀ p ∈ inAll f0 f1 n, p.1 < 4 ∧ p.2 < 4
  | 0, _, p, hp => nomatch hp
  | n + 1, hn, p, hp => by
    rw [inAll_succ] at hp
    rcases List.mem_append.mp hp with h | h
    · exact inAll_lt f0 f1 n (by omega) p h
    · unfold inRow at h
      obtain ⟨b, hb, e⟩ := List.mem_map.mp (List.mem_filter.mp h).1
      have := List.mem_range.mp hb
      rw [← e]
      exact ⟨by omega, by omega⟩
theorem inAll_nodup (f0 f1 : Int) : ∀ n, (inAll f0 f1 n).Nodup ∧ ∀ p ∈ inAll f0 f1 n, p.1 < n
  | 0 => ⟨List.nodup_nil, fun _ h => nomatch h⟩
  | n + 1 => by
    obtain ⟨h1, h2⟩ := inAll_nodup f0 f1 n
    have h3 : ∀ p ∈ inRow f0 f1 n 4, p.1 = n := by
      intro p hp
      unfold inRow at hp
      obtain ⟨b, hb, e⟩ := List.mem_map.mp (List.mem_filter.mp hp).1
      rw [← e]
    have h4 : (inRow f0 f1 n 4).Nodup := by
      unfold inRow
      refine List.Pairwise.filter _ (List.Pairwise.map _ ?_ List.nodup_range)
      intro a b hab e
      exact hab (congrArg Prod.snd e)
    rw [inAll_succ]
    refine ⟨List.nodup_append.mpr ⟨h1, h4, fun a ha b hb e => ?_⟩, fun p hp => ?_⟩
    · have := h2 a ha
      rw [e, h3 b hb] at this
      omega
    · rcases List.mem_append.mp hp with h | h
      · have := h2 p h
        omega
      · rw [h3 p h]
        omega
theorem StepIn.mono {K K' : List (Addr × Obj)} {a : Nat} (h : StepIn K a) (s : ∀ p ∈ K, p ∈ K') : StepIn K' a :=
  let ⟨x, y, z, q, r⟩ := h
  ⟨x, y, z, s _ q, fun i v e => let ⟨a, b, d, f, g, p, t, u⟩ := r i v e; ⟨a, b, d, f, g, p, t, s _ u⟩⟩
theorem inAll_mem (f0 f1 : Int) (t b : Nat) (hb : b < 4) (h : insideB f0 f1 t b = true) : ∀ n, t < n → (t, b) ∈ inAll f0 f1 n
  | 0, ht => absurd ht (Nat.not_lt_zero _)
  | n + 1, ht => by
    rw [inAll_succ]
    by_cases e : t = n
    · subst e
      refine List.mem_append_right _ ?_
      unfold inRow
      exact List.mem_filter.mpr ⟨List.mem_map_of_mem (List.mem_range.mpr hb), h⟩
    · exact List.mem_append_left _ (inAll_mem f0 f1 t b hb h n (by omega))
theorem inAll_pos (c : Cst) (hn : Num c) : 0 < (inAll c.f0 c.f1 4).length := by
  have h := hn.f00; have h' := hn.f01; have g := hn.f10; have g' := hn.f11
  refine List.length_pos_of_mem (inAll_mem c.f0 c.f1 3 3 (by decide) ?_ 4 (by decide))
  rw [insideB_is _ _ _ _ h h' g g' (by decide) (by decide) (by decide) (by decide)]
  rw [Bool.and_eq_true, decide_eq_true_iff, decide_eq_true_iff]
  constructor
  · show c.f0 + c.f1 < 3 + 3
    omega
  · show c.f0 ≤ 3
    omega
/-- statements 10 to 20 -/
theorem law_b (w : World) (mean : ExcName → Option Value) (mg mb : Str → Option Value) (fa : Addr) (cd : Value) (h₀ : Heap) (L : Nat) (m : Str → Option Value) (s : Shared) (Q : Flow → Shared → Prop) (B : Below callerA h₀ [] h₀) (X : (hd.heap_39 w.params).In h₀) (T : Top hd.view_39 (looseW hd.view_39 [Str.ofString "Whitespace"]) mean mg mb h₀)
   (c : Cst) (hn : Num c) (hpl : PlainLaw c) (hm : FOk c m) (K : List (Addr × Obj)) (hK : Kon w L c K) (o5 o6 o7 o8 o9 o10 o11 : Obj) (v5 v6 v7 v8 v9 v10 v11 : Option Value) (d5 : o5.data = .cell v5) (d6 : o6.data = .cell v6) (d7 : o7.data = .cell v7) (d8 : o8.data = .cell v8) (d9 : o9.data = .cell v9) (d10 : o10.data = .cell v10) (d11 : o11.data = .cell v11)
   (hKo : OwnOff K [L + 5, L + 6, L + 7, L + 8, L + 9, L + 10, L + 11]) (hKr : OwnOff K [c.rA, c.uA]) (hcr : ∀ k, 5 ≤ k → k ≤ 11 → L + k ≠ c.rA) (hcu : ∀ k, 5 ≤ k → k ≤ 11 → L + k ≠ c.uA) (hru : c.rA ≠ c.uA) (rn un : Nat)
   (N : News h₀ L s.heap ((c.rA, listOf #[] rn) :: (c.uA, listOf #[] un) :: ([(L + 5, o5), (L + 6, o6), (L + 7, o7), (L + 8, o8), (L + 9, o9), (L + 10, o10), (L + 11, o11)] ++ K))) (F : Fr h₀ L s.heap m)
   (hQ : ∀ h' tk' m', Fr h₀ L h' m' → Q (.ret (.bool true)) { s with heap := h', toks := tk' }) :
   wpAny (model PySem.Challenge.rw_pu0052_01.row.prog w) (callerA.deeper (envOfC (Str.ofString "law") lawScope L fa cd)) (execs [st 10, st 11, st 12, st 13, st 14, st 15, st 16, st 17, st 18, st 19, st 20] (envOfC (Str.ofString "law") lawScope L fa cd)) Q (fun _ _ => False) s := by
  have lk : ∀ (i j : Nat), i ≠ j → L + i ≠ L + j := fun i j h e => h (Nat.add_left_cancel e)
  have hap : Apart L c := ⟨hcr 5 (by decide) (by decide), hcr 6 (by decide) (by decide), hcr 7 (by decide) (by decide), hcr 8 (by decide) (by decide), hcu 5 (by decide) (by decide), hcu 6 (by decide) (by decide), hcu 7 (by decide) (by decide), hcu 8 (by decide) (by decide), hru⟩
  have sb : ∀ {as : List Addr}, (∀ a ∈ as, a ∈ [L + 5, L + 6, L + 7, L + 8, L + 9, L + 10, L + 11]) → OwnOff K as := fun h => off_sub hKo h
  -- 10
  refine wpAny_execs_cons (j_outer w mean mg mb fa cd h₀ L m s _ B X T c hn hap hm ((L + 9, o9) :: (L + 10, o10) :: (L + 11, o11) :: K) (hK.mono fun p hp => .tail _ (.tail _ (.tail _ hp))) ?_ o5 o6 o7 o8 v5 v6 v7 v8 d5 d6 d7 d8 rn un (news_perm N ?_) F ?_)
  · have hk : ∀ k, 9 ≤ k → k ≤ 11 → ∀ a ∈ [L + 5, L + 6, L + 7, L + 8, c.rA, c.uA], L + k ≠ a := by
      intro k h1 h2 a ha
      simp only [List.mem_cons, List.not_mem_nil, or_false] at ha
      rcases ha with rfl | rfl | rfl | rfl | rfl | rfl
      · exact lk _ _ (by omega)
      · exact lk _ _ (by omega)
      · exact lk _ _ (by omega)
      · exact lk _ _ (by omega)
      · exact hcr k (by omega) h2
      · exact hcu k (by omega) h2
    refine off_cons' (hk 9 (by decide) (by decide)) (off_cons' (hk 10 (by decide) (by decide)) (off_cons' (hk 11 (by decide) (by decide)) ?_))
    intro p hp b hb
    simp only [List.mem_cons, List.not_mem_nil, or_false] at hb
    rcases hb with rfl | rfl | rfl | rfl | rfl | rfl
    · exact hKo p hp _ (by simp)
    · exact hKo p hp _ (by simp)
    · exact hKo p hp _ (by simp)
    · exact hKo p hp _ (by simp)
    · exact hKr p hp _ (by simp)
    · exact hKr p hp _ (by simp)
  · refine all_cons (.tail _ (.tail _ (.head _))) (all_cons (.tail _ (.tail _ (.tail _ (.head _)))) (all_cons (.tail _ (.tail _ (.tail _ (.tail _ (.head _))))) (all_cons (.tail _ (.tail _ (.tail _ (.tail _ (.tail _ (.head _)))))) (all_cons (.head _) (all_cons (.tail _ (.head _)) (fun p hp => .tail _ (.tail _ (.tail _ (.tail _ (.tail _ (.tail _ hp)))))))))))
  intro h1 tk1 m1 o5' o6' o7' o8' v5' v6' v7' v8' R U rn' un' tl d5' d6' d7' d8' S1 hh hT F1 N1
  clear N
  dsimp only
  have hm1 := hm.same S1
  have h9 : ∀ q ∈ tl, L + 11 < q.1 := fun q hq => hh.1 (L + 11, o11) (.tail _ (.tail _ (.head _))) q hq
  obtain ⟨lR, lU⟩ := told_len hT
  have lA := inAll_len c.f0 c.f1 4
  -- one list for the four cells that rest
  obtain ⟨C4, hC4, N1⟩ : ∃ C4 : List (Addr × Obj), (∀ p ∈ C4, L + 5 ≤ p.1 ∧ p.1 ≤ L + 8) ∧ News h₀ L h1 ((L + 9, o9) :: (L + 10, o10) :: (L + 11, o11) :: (c.rA, listOf (R.map Row.v).toArray rn') :: (c.uA, listOf (U.map Row.v).toArray un') :: (C4 ++ (tl ++ K))) := by
    refine ⟨[(L + 5, o5'), (L + 6, o6'), (L + 7, o7'), (L + 8, o8')], all_cons ⟨by show L + 5 ≤ L + 5; omega, by show L + 5 ≤ L + 8; omega⟩ (all_cons ⟨by show L + 5 ≤ L + 6; omega, by show L + 6 ≤ L + 8; omega⟩ (all_cons ⟨by show L + 5 ≤ L + 7; omega, by show L + 7 ≤ L + 8; omega⟩ (all_cons ⟨by show L + 5 ≤ L + 8; omega, by show L + 8 ≤ L + 8; omega⟩ all_nil))), news_perm N1 ?_⟩
    intro p hp
    simp only [List.mem_cons, List.mem_append, List.not_mem_nil, or_false] at hp ⊢
    rcases hp with h | h | h | h | h | (h | h | h | h) | h | h <;> simp [h]
  have c4 : ∀ (k : Nat), 9 ≤ k → ∀ p ∈ C4, p.1 ≠ L + k := fun k hk p hp => Nat.ne_of_lt (Nat.lt_of_le_of_lt (hC4 p hp).2 (Nat.add_lt_add_left hk L))
  have tlk : ∀ (k : Nat), k ≤ 11 → ∀ p ∈ tl, p.1 ≠ L + k := fun k hk p hp => Nat.ne_of_gt (Nat.lt_of_le_of_lt (Nat.add_le_add_left hk L) (h9 p hp))
  -- 11
  refine wpAny_execs_cons (q11 w mean mg mb fa cd h₀ L m1 _ _ B X T _ N1 F1 ?_)
  intro h2 tk2 xr ad hx lad F2 N2
  clear N1
  dsimp only
  obtain ⟨m2, e2, F2⟩ : ∃ m2 : Str → Option Value, (m2 (Str.ofString "rows") = some (.ref c.rA) ∧ m2 (Str.ofString "due") = some (.ref c.uA) ∧ m2 (Str.ofString "rule") = some (.ref xr)) ∧ Fr h₀ L h2 m2 := ⟨(fun y => if y = Str.ofString "rule" then some (.ref xr) else m1 y), ⟨hm1.rows, hm1.due, rfl⟩, F2⟩
  have adk : ∀ (k : Nat), 9 ≤ k → k ≤ 11 → ∀ p ∈ ad, p.1 ≠ L + k := fun k h1 h2 p hp => Nat.ne_of_gt (Nat.lt_of_le_of_lt (Nat.add_le_add_left h2 L) (lad (L + 11, o11) (.tail _ (.tail _ (.head _))) p hp))
  -- 12
  refine wpAny_execs_cons (p12 w mean mg mb fa cd h₀ L m2 _ _ B X T _ N2 F2 ?_)
  intro h3 tk3 oA on lo F3 N3
  clear N2
  dsimp only
  obtain ⟨m3, e3, F3⟩ : ∃ m3 : Str → Option Value, (m3 (Str.ofString "rows") = some (.ref c.rA) ∧ m3 (Str.ofString "due") = some (.ref c.uA) ∧ m3 (Str.ofString "rule") = some (.ref xr) ∧ m3 (Str.ofString "order") = some (.ref oA)) ∧ Fr h₀ L h3 m3 := ⟨(fun y => if y = Str.ofString "order" then some (.ref oA) else m2 y), ⟨e2.1, e2.2.1, e2.2.2, rfl⟩, F3⟩
  -- the law's ledger beneath the last loops, as one list
  obtain ⟨G, gR, gT, gr, gu, g9, N3⟩ : ∃ G : List (Addr × Obj), RuleIn w G xr ∧ Told c G R U (inAll c.f0 c.f1 4) ∧ (c.rA, listOf (R.map Row.v).toArray rn') ∈ G ∧ (c.uA, listOf (U.map Row.v).toArray un') ∈ G ∧ OwnOff G [L + 9, L + 10, L + 11] ∧ News h₀ L h3 ((oA, listOf #[] on) :: (L + 9, o9) :: (L + 10, o10) :: (L + 11, o11) :: G) := by
    refine ⟨ad ++ ((c.rA, listOf (R.map Row.v).toArray rn') :: (c.uA, listOf (U.map Row.v).toArray un') :: (C4 ++ (tl ++ K))), hx.mono (fun p hp => List.mem_append_left _ hp), hT.mono (fun p hp => List.mem_append_right _ (.tail _ (.tail _ (List.mem_append_right _ (List.mem_append_left _ hp))))), List.mem_append_right _ (.head _), List.mem_append_right _ (.tail _ (.head _)), ?_, news_perm N3 ?_⟩
    · have hk3 : ∀ a ∈ [L + 9, L + 10, L + 11], ∃ k, 9 ≤ k ∧ k ≤ 11 ∧ a = L + k := all_cons ⟨9, by decide, by decide, rfl⟩ (all_cons ⟨10, by decide, by decide, rfl⟩ (all_cons ⟨11, by decide, by decide, rfl⟩ all_nil))
      refine off_app (fun p hp b hb => ?_) (off_cons' (fun b hb => ?_) (off_cons' (fun b hb => ?_) (off_app (fun p hp b hb => ?_) (off_app (fun p hp b hb => ?_) (off_sub hKo (all_cons (by simp) (all_cons (by simp) (all_cons (by simp) all_nil))))))))
      all_goals
        obtain ⟨k, k1, k2, e⟩ := hk3 b hb
        rw [e]
      · exact adk k k1 k2 p hp
      · exact Ne.symm (hcr k (Nat.le_trans (by decide) k1) k2)
      · exact Ne.symm (hcu k (Nat.le_trans (by decide) k1) k2)
      · exact c4 k k1 p hp
      · exact tlk k k2 p hp
    · refine all_cons (.head _) (all_cons ?_ (all_cons ?_ (all_cons ?_ (fun p hp => .tail _ ?_))))
      · exact .tail _ (List.mem_append_right _ (.head _))
      · exact .tail _ (List.mem_append_right _ (.tail _ (.head _)))
      · exact .tail _ (List.mem_append_right _ (.tail _ (.tail _ (.head _))))
      · rcases List.mem_append.mp hp with h | h
        · exact List.mem_append_left _ h
        · exact List.mem_append_right _ (.tail _ (.tail _ (.tail _ h)))
  have oa9 : L + 9 ≠ oA := Nat.ne_of_lt (lo (L + 9, o9) (List.mem_append_right _ (.head _)))
  clear lo lad adk tlk c4 hC4 h9 hx hT F2
  clear hh S1 hKo hKr hK
  have R16 : R.length ≤ 16 := lR ▸ lA
  have U16 : U.length ≤ 16 := lU ▸ lA
  have Rlt : ∀ r ∈ R, r.t < 4 ∧ r.b < 4 := fun r hr => inAll_lt c.f0 c.f1 4 (Nat.le_refl _) r.pl (gT.rp ▸ List.mem_map_of_mem hr)
  have rk : ∀ k, 9 ≤ k → k ≤ 11 → c.rA ≠ L + k := fun k h1 h2 => Ne.symm (hcr k (Nat.le_trans (by decide) h1) h2)
  have uk : ∀ k, 9 ≤ k → k ≤ 11 → c.uA ≠ L + k := fun k h1 h2 => Ne.symm (hcu k (Nat.le_trans (by decide) h1) h2)
  have ri : ∀ {K' : List (Addr × Obj)} {O : List Row}, (∀ r ∈ O, r ∈ R) → (∀ p ∈ G, p ∈ K') → ∀ r ∈ O, RowIn c K' r := fun h s r hr => let ⟨x, y, z, q⟩ := gT.ri r (h r hr); ⟨x, y, z, s _ q⟩
  have ui : ∀ {K' : List (Addr × Obj)}, (∀ p ∈ G, p ∈ K') → ∀ u ∈ U, DueIn c K' u := fun s r hr => let ⟨x, y, z, q⟩ := gT.ui r hr; ⟨x, y, z, s _ q⟩
  -- 13
  refine wpAny_execs_cons (so_loop w mean mg mb fa cd h₀ L m3 _ _ B X T c xr oA on rn' e3.2.2.1 e3.2.2.2 e3.1 R R16 (gT.rp ▸ (inAll_nodup c.f0 c.f1 4).1) ((L + 10, o10) :: (L + 11, o11) :: G) (gR.mono (fun p hp => .tail _ (.tail _ hp))) (ri (fun _ h => h) (fun p hp => .tail _ (.tail _ hp))) (.tail _ (.tail _ gr)) (off_cons (lk _ _ (by decide)) (off_cons (lk _ _ (by decide)) (off_of g9 (.head _)))) oa9 o9 v9 d9 N3 F3 ?_)
  intro h4 tk4 m4 o9' v9' oA' on' O d9' e4 oa9' S4 hO hP F4 N4
  clear N3 F3
  dsimp only
  have e4' : m4 (Str.ofString "rows") = some (.ref c.rA) ∧ m4 (Str.ofString "due") = some (.ref c.uA) ∧ m4 (Str.ofString "order") = some (.ref oA') := ⟨(S4 _ (by decide) (by decide)).trans e3.1, (S4 _ (by decide) (by decide)).trans e3.2.1, e4⟩
  have lO : O.length ≤ 16 := hP.length_eq ▸ R16
  have Oin : ∀ r ∈ O, r ∈ R := fun r hr => hP.mem_iff.mp hr
  have oa10 : oA' ≠ L + 10 := ne_data N4 (.head _) (.tail _ (.tail _ (.head _))) (by rw [d10]; exact fun h => nomatch h)
  have oa11 : oA' ≠ L + 11 := ne_data N4 (.head _) (.tail _ (.tail _ (.tail _ (.head _)))) (by rw [d11]; exact fun h => nomatch h)
  -- 14
  have l4 : ∀ p ∈ [(Str.ofString "rows", Value.ref c.rA)], m4 p.1 = some p.2 := all_cons e4'.1 all_nil
  refine wpAny_execs_cons (s14 w mean mg mb fa cd h₀ L m4 _ _ B X T c o10 v10 d10 R R16 rn' ((oA', listOf (O.map Row.v).toArray on') :: (L + 9, o9') :: (L + 11, o11) :: G) (ri (fun _ h => h) (fun p hp => .tail _ (.tail _ (.tail _ hp)))) Rlt (off_cons oa10 (off_cons (lk _ _ (by decide)) (off_cons (lk _ _ (by decide)) (off_of g9 (.tail _ (.head _)))))) (rk 10 (by decide) (by decide)) (news_perm N4 ?_) (fr_names F4 _ l4) ?_)
  · exact all_cons (.tail _ (.tail _ (.head _))) (all_cons (.tail _ (.tail _ (.tail _ (.tail _ gr)))) (all_cons (.head _) (all_cons (.tail _ (.head _)) (all_cons (.tail _ (.tail _ (.tail _ (.head _)))) (fun p hp => .tail _ (.tail _ (.tail _ (.tail _ hp))))))))
  intro h5 tk5 D oD o10' kvs d10' D1 D2 D3 D4 D5 F5 N5
  replace F5 := fr_back0 l4 F5
  clear N4 F4 l4
  dsimp only
  -- 15
  refine wpAny_execs_cons (s15 w mean mg mb fa cd h₀ L m4 _ _ B X T _ N5 F5 ?_)
  intro h6 tk6 sa add hs ladd F6 N6
  obtain ⟨m6, e6, F6⟩ : ∃ m6 : Str → Option Value, (m6 (Str.ofString "rows") = some (.ref c.rA) ∧ m6 (Str.ofString "due") = some (.ref c.uA) ∧ m6 (Str.ofString "order") = some (.ref oA') ∧ m6 (Str.ofString "steps") = some (.ref sa)) ∧ Fr h₀ L h6 m6 := ⟨(fun y => if y = Str.ofString "steps" then some (.ref sa) else m4 y), ⟨e4'.1, e4'.2.1, e4'.2.2, rfl⟩, F6⟩
  clear N5 F5
  dsimp only
  have add9 : ∀ p ∈ add, p.1 ≠ L + 9 := fun p hp => Nat.ne_of_gt (ladd (L + 9, o9') (.tail _ (.tail _ (.tail _ (.tail _ (.head _))))) p hp)
  have add11 : ∀ p ∈ add, p.1 ≠ L + 11 := fun p hp => Nat.ne_of_gt (ladd (L + 11, o11) (.tail _ (.tail _ (.tail _ (.tail _ (.tail _ (.head _)))))) p hp)
  -- 16
  refine wpAny_execs_cons (p16 w mean mg mb fa cd h₀ L m6 _ _ B X T _ N6 F6 ?_)
  intro h7 tk7 vA vn lv F7 N7
  obtain ⟨m7, e7, F7⟩ : ∃ m7 : Str → Option Value, (m7 (Str.ofString "rows") = some (.ref c.rA) ∧ m7 (Str.ofString "due") = some (.ref c.uA) ∧ m7 (Str.ofString "order") = some (.ref oA') ∧ m7 (Str.ofString "steps") = some (.ref sa) ∧ m7 (Str.ofString "valleys") = some (.ref vA)) ∧ Fr h₀ L h7 m7 := ⟨(fun y => if y = Str.ofString "valleys" then some (.ref vA) else m6 y), ⟨e6.1, e6.2.1, e6.2.2.1, e6.2.2.2, rfl⟩, F7⟩
  clear N6 F6
  dsimp only
  -- 17
  have lv' : ∀ {q : Addr × Obj}, q ∈ add ++ ((L + 10, o10') :: (D, oD) :: (c.rA, listOf (R.map Row.v).toArray rn') :: (oA', listOf (O.map Row.v).toArray on') :: (L + 9, o9') :: (L + 11, o11) :: G) → q.1 ≠ vA := fun h => Nat.ne_of_lt (lv _ h)
  have v10n : L + 10 ≠ vA := lv' (q := (L + 10, o10')) (List.mem_append_right _ (.head _))
  have vDn : D ≠ vA := lv' (q := (D, oD)) (List.mem_append_right _ (.tail _ (.head _)))
  have vrn : c.rA ≠ vA := lv' (q := (c.rA, listOf (R.map Row.v).toArray rn')) (List.mem_append_right _ (.tail _ (.tail _ (.head _))))
  have von : oA' ≠ vA := lv' (q := (oA', listOf (O.map Row.v).toArray on')) (List.mem_append_right _ (.tail _ (.tail _ (.tail _ (.head _)))))
  have v9n : L + 9 ≠ vA := lv' (q := (L + 9, o9')) (List.mem_append_right _ (.tail _ (.tail _ (.tail _ (.tail _ (.head _))))))
  have v11n : L + 11 ≠ vA := lv' (q := (L + 11, o11)) (List.mem_append_right _ (.tail _ (.tail _ (.tail _ (.tail _ (.tail _ (.head _)))))))
  have vG : ∀ p ∈ G, p.1 ≠ vA := fun p hp => lv' (q := p) (List.mem_append_right _ (.tail _ (.tail _ (.tail _ (.tail _ (.tail _ (.tail _ hp)))))))
  have va : ∀ p ∈ add, p.1 ≠ vA := fun p hp => lv' (q := p) (List.mem_append_left _ hp)
  have two : ∀ {P : Nat → Prop}, P (L + 9) → P vA → ∀ a ∈ [L + 9, vA], P a := fun h1 h2 => all_cons h1 (all_cons h2 all_nil)
  refine wpAny_execs_cons (va_loop w mean mg mb fa cd h₀ L m7 _ _ B X T c R O lO (fun r hr => Rlt r (Oin r hr)) sa vA D oA' on' o10' oD e7.2.2.2.1 e7.2.2.2.2 e7.2.2.1 d10' kvs D3 D1 D2
    ((L + 11, o11) :: (oA', listOf (O.map Row.v).toArray on') :: (add ++ G)) (hs.mono (fun p hp => .tail _ (.tail _ (List.mem_append_left _ hp)))) (ri Oin (fun p hp => .tail _ (.tail _ (List.mem_append_right _ hp)))) (.tail _ (.head _))
    (off_cons' (two (lk _ _ (by decide)) v11n) (off_cons' (two (Ne.symm oa9') von) (off_app (fun p hp => two (add9 p hp) (va p hp)) (fun p hp => two (g9 p hp _ (.head _)) (vG p hp)))))
    v9n v10n vDn (Ne.symm (D5 (L + 9, o9') (.tail _ (.head _)))) vn o9' v9' d9' (news_perm N7 ?_) F7 ?_)
  · refine all_cons (.tail _ (List.mem_append_right _ (.tail _ (.tail _ (.tail _ (.tail _ (.head _))))))) (all_cons (.tail _ (List.mem_append_right _ (.head _))) (all_cons (.tail _ (List.mem_append_right _ (.tail _ (.head _)))) (all_cons (.head _) (all_cons (.tail _ (List.mem_append_right _ (.tail _ (.tail _ (.tail _ (.tail _ (.tail _ (.head _)))))))) (all_cons (.tail _ (List.mem_append_right _ (.tail _ (.tail _ (.tail _ (.head _)))))) (fun p hp => .tail _ ?_))))))
    rcases List.mem_append.mp hp with h | h
    · exact List.mem_append_left _ h
    · exact List.mem_append_right _ (.tail _ (.tail _ (.tail _ (.tail _ (.tail _ (.tail _ h))))))
  intro h8 tk8 m8 o9'' v9'' vn' d9'' S8 F8 N8
  have e8 : m8 (Str.ofString "due") = some (.ref c.uA) ∧ m8 (Str.ofString "order") = some (.ref oA') ∧ m8 (Str.ofString "valleys") = some (.ref vA) := ⟨(S8 _ (by decide)).trans e7.2.1, (S8 _ (by decide)).trans e7.2.2.1, (S8 _ (by decide)).trans e7.2.2.2.2⟩
  clear N7 F7 lv' lv
  dsimp only
  -- 18
  have l8 : ∀ p ∈ [(Str.ofString "due", Value.ref c.uA)], m8 p.1 = some p.2 := all_cons e8.1 all_nil
  have U0 : 0 < U.length := lU ▸ inAll_pos c hn
  have gk : ∀ p ∈ G, p ∈ (vA, listOf ((O.filter (isVal c R)).map Row.v).toArray vn') :: (oA', listOf (O.map Row.v).toArray on') :: (L + 9, o9'') :: (L + 10, o10') :: (D, oD) :: (add ++ G) := fun p hp => .tail _ (.tail _ (.tail _ (.tail _ (.tail _ (List.mem_append_right _ hp)))))
  refine wpAny_execs_cons (s18 w mean mg mb fa cd h₀ L m8 _ _ B X T c o11 v11 d11 U U0 un' ((vA, listOf ((O.filter (isVal c R)).map Row.v).toArray vn') :: (oA', listOf (O.map Row.v).toArray on') :: (L + 9, o9'') :: (L + 10, o10') :: (D, oD) :: (add ++ G)) (ui gk)
    (off_cons (Ne.symm v11n) (off_cons oa11 (off_cons (lk _ _ (by decide)) (off_cons (lk _ _ (by decide)) (off_cons (Ne.symm (D5 (L + 11, o11) (.tail _ (.tail _ (.head _))))) (off_app (off_one add11) (off_of g9 (.tail _ (.tail _ (.head _)))))))))) (uk 11 (by decide) (by decide)) (news_perm N8 ?_) (fr_names F8 _ l8) ?_)
  · refine all_cons (.tail _ (.tail _ (.tail _ (.tail _ (.head _))))) (all_cons (.tail _ (.tail _ (.tail _ (.tail _ (.tail _ (.tail _ (List.mem_append_right _ gu))))))) (all_cons (.tail _ (.tail _ (.tail _ (.head _)))) (all_cons (.tail _ (.tail _ (.tail _ (.tail _ (.tail _ (.head _)))))) (all_cons (.head _) (all_cons (.tail _ (.head _)) (all_cons (.tail _ (.tail _ (.head _))) (fun p hp => ?_)))))))
    exact .tail _ (.tail _ (.tail _ (.tail _ (.tail _ (.tail _ hp)))))
  intro h9 tk9 o11' bq hb hbl d11' F9 N9
  clear N8
  dsimp only
  -- 19
  refine wpAny_execs_cons (s19 w mean mg mb fa cd h₀ L m8 _ _ B X T c o11' bq d11' U U16 un' _ (ui gk) hb N9 F9 ?_)
  intro h10 tk10 Dl Dl1 Dl2 F10 N10
  clear N9
  dsimp only
  -- 20
  obtain ⟨q0, O', hO0, hV, hq0⟩ := hpl R U O bq gT.rp gT.up hP hO hb hbl
  obtain ⟨m10, l10, F10⟩ : ∃ m10 : Str → Option Value, (∀ p ∈ [(Str.ofString "least", Value.ref Dl), (Str.ofString "valleys", Value.ref vA), (Str.ofString "order", Value.ref oA')], m10 p.1 = some p.2) ∧ Fr h₀ L h10 m10 := ⟨(fun y => if y = Str.ofString "least" then some (Value.ref Dl) else if y = Str.ofString "due" then some (Value.ref c.uA) else m8 y), all_cons rfl (all_cons e8.2.2 (all_cons e8.2.1 all_nil)), F10⟩
  refine wpAny_execs_cons (s20 w mean mg mb fa cd h₀ L m10 _ _ B X T c o11' bq q0 d11' O O' _ _ hO0 lO (Nat.le_trans (List.length_filter_le _ _) U16) hV hq0 vA oA' Dl vn' on' _ (ri (O := O) Oin gk q0 (hO0 ▸ .head _)) (ui gk bq hb) (news_perm N10 ?_) (fr_names F10 _ l10) hQ)
  exact all_cons (.tail _ (.head _)) (all_cons (.head _) (all_cons (.tail _ (.tail _ (.tail _ (.head _)))) (all_cons (.tail _ (.tail _ (.tail _ (.tail _ (.head _))))) (fun p hp => .tail _ (.tail _ (.tail _ hp))))))
end Mine
end
-- part TOP
section
namespace Mine
set_option maxRecDepth 100000
set_option maxHeartbeats 8000000
theorem cut {cm : Str → Option Value} {n : Str} {c : Addr} {cs : List (Str × Addr)} {cells : List (Addr × Obj)} (x : CellsAre cm ((n, c) :: cs) cells) : ∃ o r, cells = (c, o) :: r ∧ o.data = .cell (cm n) ∧ CellsAre cm cs r := by
  cases x with
  | cons h r => exact ⟨_, _, rfl, h, r⟩
theorem eleven {cm : Str → Option Value} {n1 n2 n3 n4 n5 n6 n7 n8 n9 n10 n11 : Str} {c1 c2 c3 c4 c5 c6 c7 c8 c9 c10 c11 : Addr} {cells : List (Addr × Obj)} (x : CellsAre cm [(n1, c1), (n2, c2), (n3, c3), (n4, c4), (n5, c5), (n6, c6), (n7, c7), (n8, c8), (n9, c9), (n10, c10), (n11, c11)] cells) :
    ∃ o1 o2 o3 o4 o5 o6 o7 o8 o9 o10 o11, cells = [(c1, o1), (c2, o2), (c3, o3), (c4, o4), (c5, o5), (c6, o6), (c7, o7), (c8, o8), (c9, o9), (c10, o10), (c11, o11)] ∧ o1.data = .cell (cm n1) ∧ o2.data = .cell (cm n2) ∧ o3.data = .cell (cm n3) ∧ o4.data = .cell (cm n4) ∧ o5.data = .cell (cm n5) ∧ o6.data = .cell (cm n6) ∧ o7.data = .cell (cm n7) ∧ o8.data = .cell (cm n8) ∧ o9.data = .cell (cm n9) ∧ o10.data = .cell (cm n10) ∧ o11.data = .cell (cm n11) := by
  obtain ⟨o1, r1, rfl, h1, x1⟩ := cut x
  obtain ⟨o2, r2, rfl, h2, x2⟩ := cut x1
  obtain ⟨o3, r3, rfl, h3, x3⟩ := cut x2
  obtain ⟨o4, o5, o6, o7, o8, o9, o10, o11, rfl, h4, h5, h6, h7, h8, h9, h10, h11⟩ := kc_eight x3
  exact ⟨_, _, _, o4, o5, o6, o7, o8, o9, o10, o11, rfl, h1, h2, h3, h4, h5, h6, h7, h8, h9, h10, h11⟩
/-- the law's cells -/
def lawCells (L : Nat) : List (Str × Addr) := [(Str.ofString "best", L + 11), (Str.ofString "cost", L + 10), (Str.ofString "row", L + 9), (Str.ofString "far", L + 8), (Str.ofString "lead", L + 7), (Str.ofString "blanks", L + 6), (Str.ofString "tabs", L + 5), (Str.ofString "bound", L + 4), (Str.ofString "floor", L + 3), (Str.ofString "calls", L + 2), (Str.ofString "script", L + 1)]
theorem lawCells_is (L : Nat) : cellsFrom (L + 1) lawScope.names [] = lawCells L := by rfl
/-- the whole law, from its cells on -/
theorem law_top (w : World) (mean : ExcName → Option Value) (mg mb : Str → Option Value) (fa : Addr) (cd : Value) (h₀ : Heap) (s : Shared) (m cm : Str → Option Value) (E : Value → Shared → Prop) (Q : Flow → Shared → Prop) (hpl : ∀ c, Num c → PlainLaw c) (B : Below callerA h₀ [] h₀) (X : (hd.heap_39 w.params).In h₀) (T : Top hd.view_39 (looseW hd.view_39 [Str.ofString "Whitespace"]) mean mg mb h₀)
   (aS : Addr) (vs : List Value) (ns : List Int) (hL : h₀.IsList aS vs.toArray) (hI : IntsAre vs ns) (hlen : ¬ ((63 : Nat) : Int) < ((ns.length : Nat) : Int)) (cells : List (Addr × Obj)) (cs : List (Str × Addr)) (N : News h₀ h₀.objs.size s.heap cells) (x : CellsAre cm cs cells)
   (hcs : cs = lawCells h₀.objs.size) (hc : cm (Str.ofString "script") = some (.ref aS)) (F : Fr h₀ h₀.objs.size s.heap m)
   (hQ : ∀ h' tk' m', Fr h₀ h₀.objs.size h' m' → Q (.ret (.bool true)) { s with heap := h', toks := tk' }) :
   wpAny (model PySem.Challenge.rw_pu0052_01.row.prog w) (callerA.deeper (envOfC (Str.ofString "law") lawScope h₀.objs.size fa cd)) (execs lawBody (envOfC (Str.ofString "law") lawScope h₀.objs.size fa cd)) Q E s := by
  subst hcs
  obtain ⟨o11, o10, o9, o8, o7, o6, o5, o4, o3, o2, o1, rfl, d11, d10, d9, d8, d7, d6, d5, d4, d3, d2, d1⟩ := eleven x
  rw [hc] at d1
  refine wpAny_mono ?_ (fun _ _ h => h) (E := fun _ _ => False) (fun _ _ h => h.elim)
  generalize h₀.objs.size = L at *
  replace N := news_perm N (l' := (L + 1, o1) :: (L + 2, o2) :: (L + 3, o3) :: (L + 4, o4) :: [(L + 5, o5), (L + 6, o6), (L + 7, o7), (L + 8, o8), (L + 9, o9), (L + 10, o10), (L + 11, o11)]) (fun p hp => List.mem_reverse.mp hp)
  have e : lawBody = st 0 :: st 1 :: st 2 :: st 3 :: st 4 :: st 5 :: st 6 :: st 7 :: st 8 :: st 9 :: [st 10, st 11, st 12, st 13, st 14, st 15, st 16, st 17, st 18, st 19, st 20] := rfl
  rw [e]
  have hCC : ∀ p ∈ [(L + 5, o5), (L + 6, o6), (L + 7, o7), (L + 8, o8), (L + 9, o9), (L + 10, o10), (L + 11, o11)], (L + 5 ≤ p.1) := by
    have g : ∀ k, 5 ≤ k → L + 5 ≤ L + k := fun k h => Nat.add_le_add_left h L
    exact all_cons (g 5 (by decide)) (all_cons (g 6 (by decide)) (all_cons (g 7 (by decide)) (all_cons (g 8 (by decide)) (all_cons (g 9 (by decide)) (all_cons (g 10 (by decide)) (all_cons (g 11 (by decide)) all_nil))))))
  have hCd : ∀ p ∈ [(L + 5, o5), (L + 6, o6), (L + 7, o7), (L + 8, o8), (L + 9, o9), (L + 10, o10), (L + 11, o11)], ∃ v, p.2.data = .cell v := all_cons ⟨_, d5⟩ (all_cons ⟨_, d6⟩ (all_cons ⟨_, d7⟩ (all_cons ⟨_, d8⟩ (all_cons ⟨_, d9⟩ (all_cons ⟨_, d10⟩ (all_cons ⟨_, d11⟩ all_nil))))))
  have hin : ∀ {P : Nat → Prop}, (∀ p ∈ [(L + 5, o5), (L + 6, o6), (L + 7, o7), (L + 8, o8), (L + 9, o9), (L + 10, o10), (L + 11, o11)], P p.1) → ∀ b ∈ [L + 5, L + 6, L + 7, L + 8, L + 9, L + 10, L + 11], P b := fun h => all_cons (h _ (.head _)) (all_cons (h _ (.tail _ (.head _))) (all_cons (h _ (.tail _ (.tail _ (.head _)))) (all_cons (h _ (.tail _ (.tail _ (.tail _ (.head _))))) (all_cons (h _ (.tail _ (.tail _ (.tail _ (.tail _ (.head _)))))) (all_cons (h _ (.tail _ (.tail _ (.tail _ (.tail _ (.tail _ (.head _))))))) (all_cons (h _ (.tail _ (.tail _ (.tail _ (.tail _ (.tail _ (.tail _ (.head _)))))))) all_nil))))))
  have seven : ∀ {P : Nat → Prop}, (∀ b ∈ [L + 5, L + 6, L + 7, L + 8, L + 9, L + 10, L + 11], P b) → ∀ k, 5 ≤ k → k ≤ 11 → P (L + k) := fun {P} h k h1 h2 => by
    have e : L + k ∈ List.map (L + ·) [5, 6, 7, 8, 9, 10, 11] := List.mem_map_of_mem (by
      have : ∀ k : _root_.Fin 12, 5 ≤ k.val → k.val ∈ [5, 6, 7, 8, 9, 10, 11] := by decide
      exact this ⟨k, Nat.lt_succ_of_le h2⟩ h1)
    exact h _ e
  refine law_a w mean mg mb fa cd h₀ L m s Q B X T aS vs ns hL hI (Nat.le_of_not_lt fun h => hlen (Int.ofNat_lt.mpr h)) o1 o2 o3 o4 _ _ _ d1 d2 d3 d4 [(L + 5, o5), (L + 6, o6), (L + 7, o7), (L + 8, o8), (L + 9, o9), (L + 10, o10), (L + 11, o11)] hCC hCd N F _ ?_
  intro h1 tk1 m1 c rn un K hn hm hK hoff hcr hru F1 N1
  refine law_b w mean mg mb fa cd h₀ L m1 _ Q B X T c hn (hpl c hn) hm K hK o5 o6 o7 o8 o9 o10 o11 _ _ _ _ _ _ _ d5 d6 d7 d8 d9 d10 d11 ?_ (fun p hp => hcr p (List.mem_append_right _ hp)) ?_ ?_ hru rn un N1 F1 hQ
  · exact fun p hp => hin (fun q hq => hoff p hp q hq)
  · exact seven (P := fun b => b ≠ c.rA) (hin (P := fun b => b ≠ c.rA) fun q hq => hcr q (List.mem_append_left _ hq) _ (.head _))
  · exact seven (P := fun b => b ≠ c.uA) (hin (P := fun b => b ≠ c.uA) fun q hq => hcr q (List.mem_append_left _ hq) _ (.tail _ (.head _)))
end Mine
end
-- part E3
section
namespace Mine
set_option maxRecDepth 100000
set_option maxHeartbeats 8000000
local macro_rules | `(tactic| w_call $_k $ho $hd $hcd $hD $T $F) => `(tactic| (have he := Dflts.none $hD rfl; subst he; have he := Dflts.noKw $hD; subst he; refine call_cellsN (by decide) $ho (fd_plain $hd) (Top.nolimit $T) $hcd rfl (kinds_of (by kinds_ok)) (by decide +kernel) fun h₁ tk₁ cells $F N0 X0 => ?_))
theorem e1 (hpl : ∀ c, Num c → PlainLaw c) : PySem.Challenge.rw_pu0052_01.Holds := hd (by
  k_go0
  rename Below _ _ _ _ => B
  rename News _ _ _ _ => N
  rename CellsAre _ _ _ => x
  rename Fr _ _ _ _ => F
  rename Heap.IsList _ _ _ => hL
  rename IntsAre _ _ => hI
  rename ¬ _ < _ => hlen
  refine law_top _ _ _ _ _ _ _ _ _ _ _ _ hpl B (by assumption) (by assumption) _ _ _ hL hI hlen _ _ N x (lawCells_is _) rfl F ?_
  intro h' tk' m' F'
  clear N x F
  dsimp only
  k_steps)
end Mine
end
-- part PL
section
namespace Mine
set_option maxRecDepth 100000
theorem look_put (l : List (Str × Int)) (k j : Str) (v d : Int) : kdpLook (kdpPut l k v) j d = if j = k then v else kdpLook l j d := by
  unfold kdpPut
  split
  · rename_i h
    induction l with
    | nil => simp at h
    | cons p r ih =>
      unfold kdpLook at *
      rw [List.map_cons, List.find?_cons, List.find?_cons]
      by_cases hp : p.1 = k
      · rw [if_pos (decide_eq_true hp)]
        by_cases hj : j = k
        · rw [if_pos hj]
          have : decide ((p.1, v).1 = j) = true := decide_eq_true (hp.trans hj.symm)
          rw [this]
          rfl
        · rw [if_neg hj]
          have h1 : decide ((p.1, v).1 = j) = false := decide_eq_false fun e => hj (e.symm.trans hp)
          have h2 : decide (p.1 = j) = false := decide_eq_false fun e => hj (e.symm.trans hp)
          rw [h1]
          dsimp only
          congr 2
          rw [List.find?_map]
          clear ih h
          induction r with
          | nil => rfl
          | cons q r ih =>
            rw [List.find?_cons, List.find?_cons]
            dsimp only [Function.comp_apply]
            by_cases hq : q.1 = k
            · rw [if_pos (decide_eq_true hq)]
              have g1 : decide ((q.1, v).1 = j) = false := decide_eq_false fun e => hj (e.symm.trans hq)
              have g2 : decide (q.1 = j) = false := decide_eq_false fun e => hj (e.symm.trans hq)
              rw [g1]
              exact ih
            · rw [if_neg (fun e => hq (of_decide_eq_true e))]
              by_cases hqj : q.1 = j
              · rw [decide_eq_true hqj]
                dsimp only
                rw [Option.map_some, if_neg (fun e => hq (of_decide_eq_true e))]
              · rw [decide_eq_false hqj]
                exact ih
      · rw [if_neg (fun e => hp (of_decide_eq_true e))]
        have hr : (r.any fun p => decide (p.1 = k)) = true := by
          simpa [hp] using h
        by_cases hpj : p.1 = j
        · rw [decide_eq_true hpj]
          rw [if_neg (fun e => hp (hpj.trans e))]
        · rw [decide_eq_false hpj]
          exact ih hr
  · rename_i h
    unfold kdpLook
    rw [List.find?_append]
    by_cases hj : j = k
    · rw [if_pos hj]
      have h0 : l.find? (fun p => decide (p.1 = j)) = none := by
        rw [List.find?_eq_none]
        intro p hp e
        exact h (List.any_eq_true.mpr ⟨p, hp, decide_eq_true ((of_decide_eq_true e).trans hj)⟩)
      rw [h0, Option.none_or, List.find?_cons, decide_eq_true hj.symm]
      rfl
    · rw [if_neg hj, List.find?_cons, decide_eq_false (fun e => hj e.symm), List.find?_nil, Option.or_none]
theorem lead_nat (t b : Int) : lead t b = lead (t.toNat : Nat) (b.toNat : Nat) := by
  have : ∀ x y : Str, x.cps.toList = y.cps.toList → x = y := by
    intro x y h
    cases x with | mk a => cases y with | mk b => cases a with | mk a => cases b with | mk b => exact congrArg _ (congrArg _ h)
  apply this
  rw [lead_list, lead_list]
  rfl
theorem lead_inj {t b u v : Nat} (h : lead t b = lead u v) : t = u ∧ b = v := by
  have e : (lead t b).cps.toList = (lead u v).cps.toList := congrArg (fun s : Str => s.cps.toList) h
  rw [lead_list, lead_list] at e
  have e1 := congrArg (List.count 9) e
  have e2 := congrArg (List.count 32) e
  rw [List.count_append, List.count_append] at e1 e2
  rw [List.count_replicate, List.count_replicate, List.count_replicate, List.count_replicate] at e1 e2
  simp only [beq_self_eq_true, if_true, Int.toNat_natCast] at e1 e2
  have : ((9 : Nat) == 32) = false := rfl
  have this2 : ((32 : Nat) == 9) = false := rfl
  rw [this2] at e1
  rw [this] at e2
  simp only [Bool.false_eq_true, if_false] at e1 e2
  omega
theorem look_cm (c : Cst) (t b : Nat) (d : Int) (R : List Row) : kdpLook (cm c R) (lead t b) d = if (t, b) ∈ R.map Row.pl then cost c t b else d := by
  have key : ∀ (R : List Row), kdpLook (cm c R.reverse) (lead t b) d = if (t, b) ∈ R.map Row.pl then cost c t b else d := by
    intro R
    induction R with
    | nil => rfl
    | cons r R ih =>
      rw [List.reverse_cons, cm_snoc, look_put, ih]
      by_cases h : lead t b = lead r.t r.b
      · rw [if_pos h]
        obtain ⟨e1, e2⟩ := lead_inj h
        rw [if_pos (by rw [List.map_cons]; exact List.mem_cons.mpr (.inl (by unfold Row.pl; rw [e1, e2]))), e1, e2]
      · rw [if_neg h]
        have : (t, b) ≠ r.pl := fun e => h (by unfold Row.pl at e; rw [(Prod.mk.inj e).1, (Prod.mk.inj e).2])
        simp only [List.map_cons, List.mem_cons, this, false_or]
  have := key R.reverse
  rw [List.reverse_reverse] at this
  rw [this]
  simp only [List.map_reverse, List.mem_reverse]
/-- between nothing and y -/
def Btw (x y : Int) : Prop := (0 ≤ x ∧ x ≤ y) ∨ (y ≤ x ∧ x ≤ 0)
/-- one of the six steps leads the way -/
theorem six (u v : Int) (h : ¬ (u = 0 ∧ v = 0)) : ∃ p ∈ stepsL, Btw p.1 u ∧ Btw p.2 v ∧ Btw (p.1 + p.2) (u + v) := by
  have i1 : ∀ {a b : Int}, 1 ≤ a → 0 ≤ b → 1 ≤ a + b := fun h g => Int.le_trans h (Int.le_add_of_nonneg_right g)
  have i2 : ∀ {a b : Int}, a ≤ -1 → b ≤ 0 → a + b ≤ -1 := fun h g => Int.le_trans (Int.add_le_add h g) (by decide)
  have up : ∀ {a : Int}, 1 ≤ a → Btw 1 a := fun h => .inl ⟨by decide, h⟩
  have dn : ∀ {a : Int}, a ≤ -1 → Btw (-1) a := fun h => .inr ⟨h, by decide⟩
  have no : ∀ {a : Int}, Btw 0 a := fun {a} => (Int.le_total 0 a).elim (fun h => .inl ⟨by decide, h⟩) (fun h => .inr ⟨h, by decide⟩)
  have lt : ∀ {a : Int}, a < 0 → a ≤ -1 := fun h => Int.le_of_lt_add_one h
  rcases Int.lt_trichotomy u 0 with hu | hu | hu
  · rcases Int.lt_or_le 0 v with hv | hv
    · exact ⟨(-1, 1), .tail _ (.tail _ (.tail _ (.tail _ (.tail _ (.head _))))), dn (lt hu), up hv, no⟩
    · exact ⟨(-1, 0), .tail _ (.head _), dn (lt hu), no, dn (i2 (lt hu) hv)⟩
  · rcases Int.lt_trichotomy v 0 with hv | hv | hv
    · exact ⟨(0, -1), .tail _ (.tail _ (.tail _ (.head _))), no, dn (lt hv), dn (by rw [hu, Int.zero_add]; exact lt hv)⟩
    · exact absurd ⟨hu, hv⟩ h
    · exact ⟨(0, 1), .tail _ (.tail _ (.head _)), no, up hv, up (by rw [hu, Int.zero_add]; exact hv)⟩
  · rcases Int.lt_or_le v 0 with hv | hv
    · exact ⟨(1, -1), .tail _ (.tail _ (.tail _ (.tail _ (.head _)))), up hu, dn (lt hv), no⟩
    · exact ⟨(1, 0), .head _, up hu, no, up (i1 hu hv)⟩
theorem abs_btw (p q x : Int) (h : Btw x (q - p)) : ((p + x).natAbs : Int) + (q - x).natAbs ≤ p.natAbs + q.natAbs := by
  unfold Btw at h
  omega
theorem abs_cut (u x : Int) (h : Btw x u) : (u - x).natAbs + x.natAbs = u.natAbs := by
  unfold Btw at h
  omega
theorem btw_le (l p q x : Int) (h : Btw x (q - p)) (h1 : l ≤ p) (h2 : l ≤ q) : l ≤ p + x ∧ l ≤ q - x := by
  unfold Btw at h
  omega
theorem btw_lt (l p q x : Int) (h : Btw x (q - p)) (h1 : p < l) (h2 : q < l) : p + x < l ∧ q - x < l := by
  unfold Btw at h
  omega
theorem sum_up (p r x y : Int) : p + x + (r + y) = p + r + (x + y) := by omega
theorem sum_dn (q s x y : Int) : q - x + (s - y) = q + s - (x + y) := by omega
theorem sub_two (p r q s : Int) : (q - p) + (s - r) = (q + s) - (p + r) := sum_dn q s p r
theorem sh_up (p x a : Int) : p + x - a = p - a + x := by omega
theorem sh_dn (p x a : Int) : p - x - a = p - a - x := by omega
theorem six_le {a a' b b' c c' A A' B B' C C' : Int} (h1 : a + a' ≤ A + A') (h2 : b + b' ≤ B + B') (h3 : c + c' ≤ C + C') : a + b + c + (a' + b' + c') ≤ A + B + C + (A' + B' + C') := by omega
theorem far_btw (p r q s x y : Int) (h1 : Btw x (q - p)) (h2 : Btw y (s - r)) (h3 : Btw (x + y) ((q - p) + (s - r))) : far (p + x) (r + y) + far (q - x) (s - y) ≤ far p r + far q s := by
  unfold far
  rw [sum_up p r x y, sum_dn q s x y]
  rw [sub_two] at h3
  exact six_le (abs_btw p q x h1) (abs_btw r s y h2) (abs_btw (p + r) (q + s) (x + y) h3)
theorem far_btw' (p r q s x y a b : Int) (h1 : Btw x (q - p)) (h2 : Btw y (s - r)) (h3 : Btw (x + y) ((q - p) + (s - r))) : far (p + x - a) (r + y - b) + far (q - x - a) (s - y - b) ≤ far (p - a) (r - b) + far (q - a) (s - b) := by
  rw [sh_up p, sh_up r, sh_dn q, sh_dn s]
  have e : ∀ q p a : Int, q - a - (p - a) = q - p := fun q p a => by omega
  refine far_btw (p - a) (r - b) (q - a) (s - b) x y ?_ ?_ ?_ <;> rw [e] <;> try rw [e]
  · exact h1
  · exact h2
  · exact h3
theorem cost_btw (c : Cst) (hn : Num c) (p r q s x y : Int) (h1 : Btw x (q - p)) (h2 : Btw y (s - r)) (h3 : Btw (x + y) ((q - p) + (s - r))) : cost c (p + x) (r + y) + cost c (q - x) (s - y) ≤ cost c p r + cost c q s := by
  unfold cost
  have g0 := Int.mul_le_mul_of_nonneg_left (far_btw' p r q s x y (c.Ts 0) (c.Bs 0) h1 h2 h3) hn.w00
  have g1 := Int.mul_le_mul_of_nonneg_left (far_btw' p r q s x y (c.Ts 1) (c.Bs 1) h1 h2 h3) (Int.add_nonneg hn.w10 hn.a0)
  have g2 := Int.mul_le_mul_of_nonneg_left (far_btw' p r q s x y (c.Ts 2) (c.Bs 2) h1 h2 h3) hn.w20
  rw [Int.mul_add, Int.mul_add] at g0 g1 g2
  exact six_le g0 g1 g2
/-- the places that the floor is less than -/
structure Reg (c : Cst) (t b : Int) : Prop where
  (t0 : 0 ≤ t) (t4 : t < 4) (b0 : 0 ≤ b) (b4 : b < 4) (s : c.f0 + c.f1 + 1 ≤ t + b) (f : c.f0 ≤ t)
theorem reg_btw (c : Cst) (p r q s x y : Int) (h1 : Btw x (q - p)) (h2 : Btw y (s - r)) (h3 : Btw (x + y) ((q - p) + (s - r))) (hp : Reg c p r) (hq : Reg c q s) : Reg c (p + x) (r + y) ∧ Reg c (q - x) (s - y) := by
  have a0 := btw_le 0 p q x h1 hp.t0 hq.t0
  have a1 := btw_lt 4 p q x h1 hp.t4 hq.t4
  have a2 := btw_le 0 r s y h2 hp.b0 hq.b0
  have a3 := btw_lt 4 r s y h2 hp.b4 hq.b4
  have a4 := btw_le c.f0 p q x h1 hp.f hq.f
  rw [sub_two] at h3
  have a5 := btw_le (c.f0 + c.f1 + 1) (p + r) (q + s) (x + y) h3 hp.s hq.s
  exact ⟨⟨a0.1, a1.1, a2.1, a3.1, by rw [sum_up]; exact a5.1, a4.1⟩, ⟨a0.2, a1.2, a2.2, a3.2, by rw [sum_dn]; exact a5.2, a4.2⟩⟩
theorem nb_num {A B C D : Int} (h : A + B ≤ C + D) (h1 : ¬ A < C) (h2 : D < C) : B < C := by omega
theorem nb_len {a a' x b b' y n : Nat} (h1 : a' + x = a) (h2 : b' + y = b) (h : a + b ≤ n + 1) (h3 : 0 < x + y) : a' + b' ≤ n := by omega
theorem nb (c : Cst) (hn : Num c) : ∀ (n : Nat) (p r q s : Int), (q - p).natAbs + (s - r).natAbs ≤ n → Reg c p r → Reg c q s → cost c q s < cost c p r → ∃ k ∈ stepsL, Reg c (p + k.1) (r + k.2) ∧ cost c (p + k.1) (r + k.2) < cost c p r := by
  have same : ∀ {p q r s : Int}, q - p = 0 → s - r = 0 → ¬ cost c q s < cost c p r := fun h1 h2 h => by
    rw [Int.eq_of_sub_eq_zero h1, Int.eq_of_sub_eq_zero h2] at h
    exact Int.lt_irrefl _ h
  intro n
  induction n with
  | zero =>
    intro p r q s hd _ _ hlt
    have h0 := Nat.eq_zero_of_add_eq_zero (Nat.le_zero.mp hd)
    exact absurd hlt (same (Int.natAbs_eq_zero.mp h0.1) (Int.natAbs_eq_zero.mp h0.2))
  | succ n ih =>
    intro p r q s hd hp hq hlt
    by_cases h0 : q - p = 0 ∧ s - r = 0
    · exact absurd hlt (same h0.1 h0.2)
    obtain ⟨k, hk, b1, b2, b3⟩ := six _ _ h0
    obtain ⟨r1, r2⟩ := reg_btw c p r q s k.1 k.2 b1 b2 b3 hp hq
    by_cases h : cost c (p + k.1) (r + k.2) < cost c p r
    · exact ⟨k, hk, r1, h⟩
    · refine ih p r (q - k.1) (s - k.2) ?_ hp r2 (nb_num (cost_btw c hn p r q s k.1 k.2 b1 b2 b3) h hlt)
      have hz : ∀ k ∈ stepsL, 0 < k.1.natAbs + k.2.natAbs := by decide
      rw [show q - k.1 - p = q - p - k.1 from sh_dn q k.1 p, show s - k.2 - r = s - r - k.2 from sh_dn s k.2 r]
      exact nb_len (abs_cut _ _ b1) (abs_cut _ _ b2) hd (hz k hk)
theorem inAll_iff (f0 f1 : Int) : ∀ n (p : Nat × Nat), p ∈ inAll f0 f1 n ↔ (p.1 < n ∧ p.2 < 4 ∧ insideB f0 f1 p.1 p.2 = true)
  | 0, p => ⟨fun h => (nomatch h), fun h => absurd h.1 (Nat.not_lt_zero _)⟩
  | n + 1, p => by
    constructor
    · intro h
      have hi : insideB f0 f1 p.1 p.2 = true := by
        unfold inAll at h
        obtain ⟨t, _, ht⟩ := List.mem_flatMap.mp h
        unfold inRow at ht
        exact (List.mem_filter.mp ht).2
      have hb : p.2 < 4 := by
        unfold inAll at h
        obtain ⟨t, _, ht⟩ := List.mem_flatMap.mp h
        unfold inRow at ht
        obtain ⟨b, hb, e⟩ := List.mem_map.mp (List.mem_filter.mp ht).1
        rw [← e]
        exact List.mem_range.mp hb
      exact ⟨(inAll_nodup f0 f1 (n + 1)).2 p h, hb, hi⟩
    · rintro ⟨h1, h2, h3⟩
      exact inAll_mem f0 f1 p.1 p.2 h2 h3 (n + 1) h1
theorem in_reg (c : Cst) (hn : Num c) (t b : Nat) : (t, b) ∈ inAll c.f0 c.f1 4 ↔ Reg c t b := by
  rw [inAll_iff]
  constructor
  · rintro ⟨h1, h2, h3⟩
    have g1 : (t : Int) < 4 := Int.ofNat_lt.mpr h1
    have g2 : (b : Int) < 4 := Int.ofNat_lt.mpr h2
    rw [insideB_is _ _ _ _ hn.f00 hn.f01 hn.f10 hn.f11 (Int.natCast_nonneg _) g1 (Int.natCast_nonneg _) g2, Bool.and_eq_true, decide_eq_true_iff, decide_eq_true_iff] at h3
    exact ⟨Int.natCast_nonneg _, g1, Int.natCast_nonneg _, g2, h3.1, h3.2⟩
  · rintro ⟨h1, h2, h3, h4, h5, h6⟩
    refine ⟨Int.ofNat_lt.mp h2, Int.ofNat_lt.mp h4, ?_⟩
    rw [insideB_is _ _ _ _ hn.f00 hn.f01 hn.f10 hn.f11 h1 h2 h3 h4, Bool.and_eq_true, decide_eq_true_iff, decide_eq_true_iff]
    exact ⟨h5, h6⟩
/-- a place is a valley just where no place of all is cheaper -/
theorem isVal_iff (c : Cst) (hn : Num c) (R : List Row) (hR : R.map Row.pl = inAll c.f0 c.f1 4) (q : Row) (hq : q ∈ R) : isVal c R q = true ↔ ∀ r ∈ R, cost c q.t q.b ≤ cost c r.t r.b := by
  have hl : isVal c R q = true ↔ ∀ k ∈ stepsL, ¬ kdpLook (cm c R) (lead (q.t + k.1) (q.b + k.2)) (cost c q.t q.b) < cost c q.t q.b := by
    unfold isVal lows
    rw [decide_eq_true_iff, List.eq_replicate_iff]
    constructor
    · intro h k hk
      exact of_decide_eq_false (h.2 _ (List.mem_map_of_mem hk))
    · intro h
      refine ⟨rfl, fun b hb => ?_⟩
      obtain ⟨k, hk, e⟩ := List.mem_map.mp hb
      rw [← e]
      exact decide_eq_false (h k hk)
  rw [hl]
  have hqr : Reg c q.t q.b := (in_reg c hn q.t q.b).mp (hR ▸ List.mem_map_of_mem hq)
  constructor
  · intro h r hr
    have hrr : Reg c r.t r.b := (in_reg c hn r.t r.b).mp (hR ▸ List.mem_map_of_mem hr)
    apply Int.not_lt.mp
    intro hlt
    obtain ⟨k, hk, hreg, hlow⟩ := nb c hn _ _ _ _ _ (Nat.le_refl _) hqr hrr hlt
    refine h k hk ?_
    have e1 : ((q.t + k.1).toNat : Int) = q.t + k.1 := Int.toNat_of_nonneg hreg.t0
    have e2 : ((q.b + k.2).toNat : Int) = q.b + k.2 := Int.toNat_of_nonneg hreg.b0
    rw [lead_nat, look_cm, if_pos]
    · rw [e1, e2]
      exact hlow
    · rw [hR, in_reg c hn, e1, e2]
      exact hreg
  · intro h k hk hlt
    rw [lead_nat, look_cm] at hlt
    split at hlt
    · rename_i hm
      obtain ⟨r, hr, e⟩ := List.mem_map.mp hm
      have e1 : r.t = (q.t + k.1).toNat := (Prod.mk.inj e).1
      have e2 : r.b = (q.b + k.2).toNat := (Prod.mk.inj e).2
      rw [← e1, ← e2] at hlt
      have := h r hr
      omega
    · omega
/-- the cheapest ones of a list in order are its first ones -/
theorem first_ones (c : Cst) (v : Int) : ∀ (O : List Row), O.Pairwise (Lt c) → (∀ r ∈ O, v ≤ cost c r.t r.b) → O.filter (fun r => cost c r.t r.b == v) = O.take (O.filter (fun r => cost c r.t r.b == v)).length
  | [], _, _ => rfl
  | x :: O, hs, hv => by
    have hs' := List.pairwise_cons.mp hs
    by_cases h : cost c x.t x.b = v
    · rw [List.filter_cons_of_pos (by rw [beq_iff_eq]; exact h), List.length_cons, List.take_succ_cons, ← first_ones c v O hs'.2 (fun r hr => hv r (.tail _ hr))]
    · have hz : (x :: O).filter (fun r => cost c r.t r.b == v) = [] := by
        rw [List.filter_eq_nil_iff]
        intro r hr e
        rw [beq_iff_eq] at e
        have hx := hv x (.head _)
        rcases List.mem_cons.mp hr with rfl | hr
        · exact h e
        · have hlt := hs'.1 r hr
          unfold Lt cmpR at hlt
          rw [cmp3_lt] at hlt
          omega
      rw [hz]
      rfl
theorem plain_law (c : Cst) (hn : Num c) : PlainLaw c := by
  intro R U O bq hR hU hP hO hb hbl
  have e0 : R.map Row.pl = U.map Row.pl := hR.trans hU.symm
  -- the best is the cheapest
  have hmin : ∀ u ∈ U, cost c bq.t bq.b ≤ cost c u.t u.b := by
    intro u hu
    have := hbl u hu
    apply Int.not_lt.mp
    intro hlt
    rw [show lexD c u bq = true from (lex3_iff ..).mpr (.inl hlt)] at this
    exact Bool.noConfusion this
  have hminR : ∀ r ∈ R, cost c bq.t bq.b ≤ cost c r.t r.b := by
    intro r hr
    have : r.pl ∈ U.map Row.pl := e0 ▸ List.mem_map_of_mem hr
    obtain ⟨u, hu, e⟩ := List.mem_map.mp this
    have h := hmin u hu
    rw [(Prod.mk.inj e).1, (Prod.mk.inj e).2] at h
    exact h
  have hbR : bq.pl ∈ R.map Row.pl := e0 ▸ List.mem_map_of_mem hb
  obtain ⟨r0, hr0, er0⟩ := List.mem_map.mp hbR
  have er1 : r0.t = bq.t := (Prod.mk.inj er0).1
  have er2 : r0.b = bq.b := (Prod.mk.inj er0).2
  have hr0O : r0 ∈ O := hP.mem_iff.mpr hr0
  obtain ⟨q0, O', hO0⟩ : ∃ q0 O', O = q0 :: O' := by
    cases O with
    | nil => nomatch hr0O
    | cons q0 O' => exact ⟨q0, O', rfl⟩
  have hq0 : q0 = r0 := by
    rw [hO0] at hr0O
    rcases List.mem_cons.mp hr0O with h | h
    · exact h.symm
    · have hlt := (List.pairwise_cons.mp (hO0 ▸ hO)).1 r0 h
      have hq0R : q0 ∈ R := hP.mem_iff.mp (hO0 ▸ .head _)
      have : q0.pl ∈ U.map Row.pl := e0 ▸ List.mem_map_of_mem hq0R
      obtain ⟨u, hu, e⟩ := List.mem_map.mp this
      have hf := hbl u hu
      unfold Lt cmpR at hlt
      rw [cmp3_lt, er1, er2] at hlt
      have ht : lexD c u bq = true := by
        unfold lexD
        rw [(Prod.mk.inj e).1, (Prod.mk.inj e).2, lex3_iff]
        omega
      rw [ht] at hf
      exact Bool.noConfusion hf
  refine ⟨q0, O', hO0, ?_, by rw [hq0, er1, er2], by rw [hq0, er1], by rw [hq0, er2]⟩
  have hfil : O.filter (isVal c R) = O.filter (fun r => cost c r.t r.b == cost c bq.t bq.b) := by
    refine List.filter_congr fun r hr => ?_
    have hrR : r ∈ R := hP.mem_iff.mp hr
    rw [Bool.eq_iff_iff, isVal_iff c hn R hR r hrR, beq_iff_eq]
    constructor
    · intro h
      have g := h r0 hr0
      rw [er1, er2] at g
      have := hminR r hrR
      omega
    · intro h r' hr'
      rw [h]
      exact hminR r' hr'
  rw [hfil, first_ones c (cost c bq.t bq.b) O hO (fun r hr => hminR r (hP.mem_iff.mp hr))]
  congr 1
  have l1 : (O.filter (fun r => cost c r.t r.b == cost c bq.t bq.b)).length = (U.filter (fun u => cost c u.t u.b == cost c bq.t bq.b)).length := by
    rw [(hP.filter _).length_eq]
    have key : ∀ (A : List Row), (A.filter (fun r => cost c r.t r.b == cost c bq.t bq.b)).length = ((A.map Row.pl).filter (fun p => cost c p.1 p.2 == cost c bq.t bq.b)).length := by
      intro A
      rw [List.filter_map, List.length_map]
      rfl
    rw [key, key, e0]
  exact l1
end Mine
end
theorem PySem.Challenge.cw_pu0052_01_holds : PySem.Challenge.rw_pu0052_01.Holds := by
  exact Mine.e1 Mine.plain_law
