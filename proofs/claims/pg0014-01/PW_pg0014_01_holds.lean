import PyProof.Rows.All
import Wide.All
import OpenK.AllK
import Wide.FinOn
import Lean
import PySem.Challenge.RW_pg0014_01
set_option Elab.async false
set_option maxRecDepth 100000
set_option maxHeartbeats 8000000
-- part Hd
section PartHd
open PySem PySem.W PyProof.Rows
namespace Mine
open_top hd for PySem.Challenge.rw_pg0014_01
/-- the head's line leaves the walker's switch for tops on, and the walks below want it off -/
theorem walk_off : True := by
  w_top off
  trivial
end Mine

end PartHd
-- part Base
section PartBase
open PySem PySem.W PySem.Calls PyProof.Rows
namespace Mine

theorem fill (P : Params) : Mine.hd.heap_39 P = Mine.hd.heap_39 P ∧ PySem.Challenge.rw_pg0014_01.foot = PySem.Challenge.rw_pg0014_01.foot := by
  k_fill
  exact ⟨rfl, rfl⟩

/-- what every state of the call keeps: the text's own objects, the globals -/
structure Amb (w : World) (mean : ExcName → Option Value) (mg mb : Str → Option Value) (h : Heap) : Prop where
  K : (Mine.hd.heap_39 w.params).In h
  T : Top Mine.hd.view_39 (looseW Mine.hd.view_39 []) mean mg mb h

theorem Amb.keeps {w mean mg mb} {h h' : Heap} (X : Amb w mean mg mb h) (hk : ∀ b o, h.get? b = some o → h'.get? b = some o) : Amb w mean mg mb h' :=
  ⟨X.K.keeps hk, X.T.keeps hk⟩

/-- a plain def of the text is entered; all that stood at the call stays -/
theorem enter {w : World} {A : Around} {R : Result → Shared → Prop} {s : Shared} {mean mg mb} {f : Addr} {oc : Value} {od : Option Addr} {osl : Array (Option Value)}
    {name qual : Str} {params : Arguments} {body : List Stmt} {scope : Scope} {dV kV doc pm cdv ct : Value} {an : Option Addr} {args : Args} {binds : List (Str × Value)}
    (X : Amb w mean mg mb s.heap)
    (ho : (Mine.hd.heap_39 w.params).lookup f = some ⟨oc, od, .func (fnOf name qual params body scope dV kV doc pm an cdv ct), osl⟩)
    (hcd : codeIn (Mine.hd.heap_39 w.params) cdv qual = true) (hroom : A.depth < recursionLimit)
    (hbind : BindsTo s (fnOf name qual params body scope dV kV doc pm an cdv ct) args binds) (hloc : ∀ y ∈ binds, scope.names.lookup y.1 = some .local)
    (h : ∀ h₁, Fr s.heap s.heap.objs.size h₁ (fun y => binds.reverse.lookup y) → News s.heap s.heap.objs.size h₁ [] →
      wpAny (model PySem.Challenge.rw_pg0014_01.row.prog w) (A.deeper (envOf qual scope s.heap.objs.size f cdv)) (execs body (envOf qual scope s.heap.objs.size f cdv))
        (fun fl s' => R (.ok (.ret (match fl with | .ret v => v | _ => .none))) s') (fun _ _ => False)
        { s with heap := h₁, toks := s.toks + binds.length })
    (hco : scope.isCoroutine = false) (hgen : scope.isGenerator = false) (hk : scope.kind = .function)
    (hcell : ∀ x ∈ scope.names, x.2 ≠ .cell) : codeAny (model PySem.Challenge.rw_pg0014_01.row.prog w) A (.call (.ref f) args) R s := by
  refine codeAny_call_def (fd := fnOf name qual params body scope dV kV doc pm an cdv ct) hroom (X.K _ _ ho) rfl X.T.nolimit (codeRec_of X.K hcd) rfl hbind hcell hloc (fun h₁ hns hk₁ => ?_) hco hgen hk
  exact wpAny_mono (h h₁ ⟨hns, hk₁, Nat.le_refl _⟩ News.nil) (fun _ _ x => x) fun _ _ x => x.elim

theorem isterm_call {w : World} {A : Around} {s : Shared} {mean mg mb} {Q E : Value → Shared → Prop} {x : Int} {t : Tok}
    (X : Amb w mean mg mb s.heap) (hroom : A.depth < recursionLimit)
    (h : ∀ h' tk', (∀ b o, s.heap.get? b = some o → h'.get? b = some o) → Q (.bool (decide (x < 256))) { s with heap := h', toks := tk' }) :
    wpAny (model PySem.Challenge.rw_pg0014_01.row.prog w) A (call (.ref 21) [.int x t]) Q E s := by
  obtain ⟨KX, T⟩ := X
  refine wpAny_call (enter ⟨KX, T⟩ (f := 21) (by k_is) (by k_is) hroom (BindsTo.of_eq rfl) (locs rfl) (fun h₁ F N => ?_) rfl rfl rfl (by decide))
  k_steps
  exact h _ _ F.keep

theorem isnonterm_call {w : World} {A : Around} {s : Shared} {mean mg mb} {Q E : Value → Shared → Prop} {x : Int} {t : Tok}
    (X : Amb w mean mg mb s.heap) (hroom : A.depth < recursionLimit)
    (h : ∀ h' tk', (∀ b o, s.heap.get? b = some o → h'.get? b = some o) → Q (.bool (decide (256 ≤ x))) { s with heap := h', toks := tk' }) :
    wpAny (model PySem.Challenge.rw_pg0014_01.row.prog w) A (call (.ref 28) [.int x t]) Q E s := by
  obtain ⟨KX, T⟩ := X
  refine wpAny_call (enter ⟨KX, T⟩ (f := 28) (by k_is) (by k_is) hroom (BindsTo.of_eq rfl) (locs rfl) (fun h₁ F N => ?_) rfl rfl rfl (by decide))
  k_steps
  exact h _ _ F.keep


section
variable {w : World} {A : Around} {s : Shared} {mean : ExcName → Option Value} {mg mb : Str → Option Value} {Q E : Value → Shared → Prop} {h₀ : Heap} {L : Addr} {m : Str → Option Value} {news : List (Addr × Obj)}
theorem isterm_K {x : Int} {t : Tok} (F : Fr h₀ L s.heap m) (N : News h₀ L s.heap news) (K : (Mine.hd.heap_39 w.params).In h₀) (T : Top Mine.hd.view_39 (looseW Mine.hd.view_39 []) mean mg mb h₀)
    (hroom : A.depth < recursionLimit)
    (h : ∀ h' tk', Fr h₀ L h' m → News h₀ L h' news → Q (.bool (decide (x < 256))) { s with heap := h', toks := tk' }) :
    wpAny (model PySem.Challenge.rw_pg0014_01.row.prog w) A (call (.ref 21) [.int x t]) Q E s :=
  isterm_call (Amb.keeps ⟨K, T⟩ F.keep) hroom fun h' tk' hk => h h' tk' (Fr.keeps F hk) (News.keepsAll N hk)
theorem isnonterm_K {x : Int} {t : Tok} (F : Fr h₀ L s.heap m) (N : News h₀ L s.heap news) (K : (Mine.hd.heap_39 w.params).In h₀) (T : Top Mine.hd.view_39 (looseW Mine.hd.view_39 []) mean mg mb h₀)
    (hroom : A.depth < recursionLimit)
    (h : ∀ h' tk', Fr h₀ L h' m → News h₀ L h' news → Q (.bool (decide (256 ≤ x))) { s with heap := h', toks := tk' }) :
    wpAny (model PySem.Challenge.rw_pg0014_01.row.prog w) A (call (.ref 28) [.int x t]) Q E s :=
  isnonterm_call (Amb.keeps ⟨K, T⟩ F.keep) hroom fun h' tk' hk => h h' tk' (Fr.keeps F hk) (News.keepsAll N hk)
end

/-- read from behind: the trees that lie there, or none -/
def bStep (t : Option Int) (x : Int) : Option Int := t.bind fun t => if x < 256 then some (t + 1) else if t < x - 254 then none else some (t - (x - 254) + 1)
def behindF (ns : List Int) : Int := (ns.reverse.foldl bStep (some 0)).getD 0
/-- read from the front: the trees that are waited for -/
def fStep (t : Option Int) (x : Int) : Option Int := t.bind fun t => if t < 1 then none else if 256 ≤ x then some (t - 1 + x - 254) else some (t - 1)
def frontF (ns : List Int) (r : Int) : Bool := ns.foldl fStep (some r) == some 0
end Mine

end PartBase
-- part Beh
section PartBeh
open PySem PySem.W PySem.Calls PyProof.Rows
namespace Mine
theorem fill2 (P : Params) : Mine.hd.heap_39 P = Mine.hd.heap_39 P ∧ PySem.Challenge.rw_pg0014_01.foot = PySem.Challenge.rw_pg0014_01.foot := by
  k_fill
  exact ⟨rfl, rfl⟩
theorem bStep_none : ∀ l : List Int, l.foldl bStep none = none
  | [] => rfl
  | _ :: r => bStep_none r
theorem fStep_none : ∀ l : List Int, l.foldl fStep none = none
  | [] => rfl
  | _ :: r => fStep_none r
theorem rev_get {ns : List Int} {j : Nat} (hj : j < ns.length) {k : Int} (hk : k = (ns.length : Int) - 1 - (j : Int)) : ns.reverse[j]? = some (ns.getD k.toNat 0) := by
  have e : k.toNat = ns.length - 1 - j := by omega
  rw [e, List.getElem?_reverse hj, List.getD_eq_getElem?_getD, List.getElem?_eq_getElem (by omega)]
  rfl
theorem rev_take_step {ns : List Int} {j : Nat} (hj : j < ns.length) {k : Int} (hk : k = (ns.length : Int) - 1 - (j : Int)) :
    (ns.reverse.take (j + 1)).foldl bStep (some 0) = bStep ((ns.reverse.take j).foldl bStep (some 0)) (ns.getD k.toNat 0) := by
  rw [List.take_add_one, rev_get hj hk]; simp
theorem behind_stop {ns : List Int} {j : Nat} (h : (ns.reverse.take j).foldl bStep (some 0) = none) : behindF ns = 0 := by
  unfold behindF
  rw [← List.take_append_drop j ns.reverse, List.foldl_append, h, bStep_none]; rfl
theorem behind_end {ns : List Int} {c : Int} (h : (ns.reverse.take ns.length).foldl bStep (some 0) = some c) : behindF ns = c := by
  unfold behindF
  rw [← List.length_reverse, List.take_length] at h
  rw [h]; rfl
local macro_rules | `(tactic| walk_at "call ref") => `(tactic| (k_here; (with_reducible show wpAny _ _ (call (Value.ref 21) _) _ _ _); k_dflt (refine' isterm_K ?k1 ?k2 ?k3 ?k4 ?k5 ?_; (case k1 => k_asm); (case k2 => k_asm); (case k3 => k_asm); (case k4 => k_asm); (case k5 => (simp only [depth_deeper]; omega)); intro h' tk' F' N')))
local macro_rules | `(tactic| walk_at "call ref") => `(tactic| (k_here; (with_reducible show wpAny _ _ (call (Value.ref 28) _) _ _ _); k_dflt (refine' isnonterm_K ?k1 ?k2 ?k3 ?k4 ?k5 ?_; (case k1 => k_asm); (case k2 => k_asm); (case k3 => k_asm); (case k4 => k_asm); (case k5 => (simp only [depth_deeper]; omega)); intro h' tk' F' N')))

theorem inv1 {h₀ h' : Heap} {L : Addr} {x y : Str} {m₀ m' : Str → Option Value} {P : List Int → Int × Tok → Prop} {pre : List Int} {own news' : List (Addr × Obj)} {s₁ : Shared} {tk : Nat} {c : Int} {ct : Tok}
    (F : Fr h₀ L h' m') (N : News h₀ L h' news') (hy : m' y = some (.int c ct)) (ho : ∀ p ∈ own, p ∈ news') (hm : ∀ z, z ≠ x → z ≠ y → m' z = m₀ z) (hP : P pre (c, ct)) :
    InvEndN h₀ L (KstS (fun _ => []) (fun c => [(y, .int c.1 c.2)]) (fun _ => True) x [] m₀ P pre) own [] s₁ { s₁ with heap := h', toks := tk } :=
  ⟨h', tk, m', news', [], rfl, F, N, (fun _ h => nomatch h), ho, rfl, (c, ct), rfl, trivial, (fun p hp => by rw [List.mem_singleton.mp hp]; exact hy), (fun z h1 h2 _ => hm z h1 (h2 (y, .int c ct) (List.mem_singleton.mpr rfl))), hP⟩

theorem behind_call {w : World} {A : Around} {s : Shared} {mean mg mb} {Q E : Value → Shared → Prop} {l : Addr} {vs : List Value} {ns : List Int}
    (X : Amb w mean mg mb s.heap) (hh : A.handled = none) (hroom : A.depth + 1 < recursionLimit) (hl : s.heap.IsList l vs.toArray) (hi : IntsAre vs ns) (hlen : ns.length ≤ 100)
    (hret : ∀ t h' tk', (∀ b o, s.heap.get? b = some o → h'.get? b = some o) → Q (.int (behindF ns) t) { s with heap := h', toks := tk' }) :
    wpAny (model PySem.Challenge.rw_pg0014_01.row.prog w) A (call (.ref 49) [.ref l]) Q E s := by
  obtain ⟨KX, T⟩ := X
  refine wpAny_call (enter ⟨KX, T⟩ (f := 49) (by k_is) (by k_is) (by omega) (BindsTo.of_eq rfl) (locs rfl) (fun h₁ F N => ?_) rfl rfl rfl (by decide))
  k_steps
  refine kst_rangeD (σ := Int × Tok) (n := ns.length) (fun _ => []) (fun c => [(Str.ofString "trees", .int c.1 c.2)]) (fun _ => True) [] (fun pre c => ((ns.reverse.take pre.length).foldl bStep (some 0) = some c.1)) (0, tk) hh (by assumption) (small_down (by omega) (by omega) (by omega) (by omega)) ?_ (by assumption) (by assumption) trivial ?_ rfl ?_ ?_
  · rw [rangeSize_downNat]; omega
  · intro p hp; rw [List.mem_singleton.mp hp]; rfl
  · rintro ⟨c, ct⟩ pre k t u h tk own hk hpl hoff _ hP F₁ N₁
    dsimp only at hP
    have hk0 : 0 ≤ k := by omega
    have hk1 : k < ns.length := by omega
    have hstep := rev_take_step hpl hk
    rw [hP] at hstep
    k_steps
    · rename (ns.getD k.toNat 0 < 256) => hx
      refine inv1 (by assumption) (by assumption) rfl (fun p hp => by simpa using hp) (fun z h1 h2 => by simp [h1, h2, kstB]) ?_
      show List.foldl bStep (some 0) (List.take (pre ++ [k]).length ns.reverse) = _
      rw [List.length_append, List.length_singleton, hstep]
      simp only [bStep, Option.bind_some]
      rw [if_pos hx]
    · have e : behindF ns = 0 := behind_stop (j := pre.length + 1) (by
        rw [hstep]; simp only [bStep, Option.bind_some]
        rw [if_neg (by assumption), if_pos (by omega)])
      rw [e] at hret
      exact hret _ _ _ (Fr.keep (by assumption))
    · refine inv1 (by assumption) (by assumption) rfl (fun p hp => by simpa using hp) (fun z h1 h2 => by simp [h1, h2, kstB]) ?_
      show List.foldl bStep (some 0) (List.take (pre ++ [k]).length ns.reverse) = _
      rw [List.length_append, List.length_singleton, hstep]
      simp only [bStep, Option.bind_some]
      rw [if_neg (by assumption), if_neg (by omega)]
  · rintro ⟨c, ct⟩ u h tk _ hP F₁ N₁
    dsimp only at hP
    rw [downKs_length] at hP
    k_steps
    have e := behind_end hP
    rw [e] at hret
    exact hret _ _ _ (Fr.keep (by assumption))

theorem front_stop {ns : List Int} {r : Int} {j : Nat} (h : (ns.take j).foldl fStep (some r) = none) : frontF ns r = false := by
  unfold frontF
  rw [← List.take_append_drop j ns, List.foldl_append, h, fStep_none]; rfl
theorem take_step {ns : List Int} {r n : Int} {j : Nat} (hn : ns[j]? = some n) :
    (ns.take (j + 1)).foldl fStep (some r) = fStep ((ns.take j).foldl fStep (some r)) n := by
  rw [List.take_add_one, hn]; simp

theorem front_call {w : World} {A : Around} {s : Shared} {mean mg mb} {Q E : Value → Shared → Prop} {l : Addr} {vs : List Value} {ns : List Int} {r : Int} {rt : Tok}
    (X : Amb w mean mg mb s.heap) (hh : A.handled = none) (hroom : A.depth + 1 < recursionLimit) (hl : s.heap.IsList l vs.toArray) (hi : IntsAre vs ns)
    (hret : ∀ h' tk', (∀ b o, s.heap.get? b = some o → h'.get? b = some o) → Q (.bool (frontF ns r)) { s with heap := h', toks := tk' }) :
    wpAny (model PySem.Challenge.rw_pg0014_01.row.prog w) A (call (.ref 56) [.ref l, .int r rt]) Q E s := by
  obtain ⟨KX, T⟩ := X
  refine wpAny_call (enter ⟨KX, T⟩ (f := 56) (by k_is) (by k_is) (by omega) (BindsTo.of_eq rfl) (locs rfl) (fun h₁ F N => ?_) rfl rfl rfl (by decide))
  iterate 8 walk1
  refine kst_list (σ := Int × Tok) (ns := ns) (fun _ => []) (fun c => [(Str.ofString "missing", .int c.1 c.2)]) (fun _ => True) [] (fun pre c => (pre.foldl fStep (some r) = some c.1)) (r, rt) hh hl (by assumption) (by assumption) (by assumption) trivial ?_ rfl ?_ ?_
  · intro p hp; rw [List.mem_singleton.mp hp]; rfl
  · rintro ⟨c, ct⟩ pre post n t u h tk own hns hmem hoff _ hP F₁ N₁
    dsimp only at hP
    have hstep : (pre ++ [n]).foldl fStep (some r) = fStep (some c) n := by rw [List.foldl_append, hP]; rfl
    k_steps
    · have e : frontF ns r = false := by
        unfold frontF
        rw [hns, show pre ++ n :: post = (pre ++ [n]) ++ post by simp, List.foldl_append, hstep]
        simp only [fStep, Option.bind_some]
        rw [if_pos (by assumption), fStep_none]; rfl
      rw [e] at hret
      exact hret _ _ (Fr.keep (by assumption))
    · refine inv1 (by assumption) (by assumption) rfl (fun p hp => by simpa using hp) (fun z h1 h2 => by simp [h1, h2, kstB]) ?_
      show List.foldl fStep (some r) (pre ++ [n]) = _
      rw [hstep]
      simp only [fStep, Option.bind_some]
      rw [if_neg (by assumption), if_pos (by assumption)]
    · refine inv1 (by assumption) (by assumption) rfl (fun p hp => by simpa using hp) (fun z h1 h2 => by simp [h1, h2, kstB]) ?_
      show List.foldl fStep (some r) (pre ++ [n]) = _
      rw [hstep]
      simp only [fStep, Option.bind_some]
      rw [if_neg (by assumption), if_neg (by assumption)]
  · rintro ⟨c, ct⟩ u h tk _ hP F₁ N₁
    dsimp only at hP
    k_steps
    have e : frontF ns r = decide (c = 0) := by
      unfold frontF
      rw [hP]
      by_cases hc : c = 0
      · subst hc; rfl
      · have : (some c == some (0 : Int)) = false := by simpa using hc
        rw [this]; simp [hc]
    rw [e] at hret
    exact hret _ _ (Fr.keep (by assumption))
end Mine

end PartBeh
-- part SegR
section PartSegR
open PySem PySem.W PySem.Calls PyProof.Rows
namespace Mine
open Sem (wp)
section
variable {M : Model} {A : Around} {R : GenEnd} {Y : Protocol} {n : Nat} {s₀ : Shared} {c : Code} {fs : List Frame} {s : Shared} {env : Env}
  {K : Flow → Sem Fin} {H : Value → Sem Fin} {gd : Bool → Bool} {lv : List Value → List Value}

/-- a statement without a yield -/
theorem seg_stmt {st : Stmt} (h : wpAny M (A.over c fs) (exec st env) (fun f s' => Seg M A R Y n s₀ c (K f) fs s') (fun x s' => Seg M A R Y n s₀ c (H x) fs s') s) :
    Seg M A R Y n s₀ c ((exec st env).wrap K H gd lv) fs s := seg_wrap h

theorem seg_If {test : Expr} {body orelse : List Stmt} {pos : Pos}
    (h : wpAny M (A.over c fs) (isTrue test env (eval test env)) (fun b s' => if b = true then Seg M A R Y n s₀ c ((execs body env).wrap K H gd lv) fs s' else Seg M A R Y n s₀ c ((execs orelse env).wrap K H gd lv) fs s')
      (fun x s' => Seg M A R Y n s₀ c (H x) fs s') s) :
    Seg M A R Y n s₀ c ((exec (.If test body orelse pos) env).wrap K H gd lv) fs s := by
  rw [exec_If]
  refine seg_bind_wrap (wpAny_standAt ?_)
  refine seg_bind_wrap (wpAny_mono h (fun b s' hb => ?_) fun _ _ x => x)
  cases b with
  | true => exact hb
  | false => exact hb

/-- the frame that a loop of the frame's own leaves on the stack -/
abbrev ownFrame (env : Env) (K : Flow → Sem Fin) (H : Value → Sem Fin) (gd : Bool → Bool) (lv : List Value → List Value) (c : Code) (p : Pos) : Frame :=
  .ret (fun r => ((match r with | .ok f => (.pure f : Sem Flow) | .error e => .raise e).onRaise fun (x : Value) => do
        if (← field x 1) == Value.none then unsupported "frame.own-activation:exception-without-traceback"
        setFlight x env.frame).wrap K H gd lv) none (gd false) (lv []) c p []

theorem seg_For {target iter : Expr} {body orelse : List Stmt} {pos : Pos}
    (h : wpAny M (A.over c fs) (eval iter env) (fun x s₁ => wpAny M (A.over c fs) (pyIter x) (fun it s₂ =>
        ∀ p, Seg M A R Y n s₀ (.forLoop target it body orelse env) (M.den (.forLoop target it body orelse env)) (ownFrame env K H gd lv c p :: fs) s₂)
        (fun x s' => Seg M A R Y n s₀ c (H x) fs s') s₁) (fun x s' => Seg M A R Y n s₀ c (H x) fs s') s)
    (hs : ∀ x, foldedSetIterable iter env x = pure x := by intro _; rfl) :
    Seg M A R Y n s₀ c ((exec (.For target iter body orelse pos) env).wrap K H gd lv) fs s := by
  rw [exec_For]
  refine seg_bind_wrap (wpAny_standAt ?_)
  refine seg_bind_wrap (wpAny_mono h (fun x s₁ h₁ => ?_) fun _ _ y => y)
  refine seg_bind_wrap (wpAny_of_eq (hs x) ?_)
  refine seg_bind_wrap (wpAny_standAt ?_)
  refine seg_bind_wrap (wpAny_holding (wpAny_mono h₁ (fun it s₂ h₂ => ?_) fun _ _ y => y))
  exact seg_call h₂
end

section
variable {prog : Program} {w : World} {A : Around} {R : GenEnd} {Y : Protocol} {n : Nat} {s₀ : Shared} {fs : List Frame} {s : Shared} {env : Env}

abbrev loopRaise (env : Env) (e : Value) : Sem Fin := (do noteFrame e env; theTreesLotGoes e : Sem Unit).wrap (fun _ => .raise e) .raise id id

theorem seg_forLoop {target : Expr} {it : Value} {body orelse : List Stmt}
    (h : wpAny (model prog w) (A.over (.forLoop target it body orelse env) fs) (pyNext it) (fun r s' => match r with
        | none => Seg (model prog w) A R Y n s₀ (.forLoop target it body orelse env) (.pure (.again (.block orelse env))) fs s'
        | some v => wpAny (model prog w) (A.over (.forLoop target it body orelse env) fs) (letOwnedTupleGo target it v) (fun _ s₁ => wpAny (model prog w) (A.over (.forLoop target it body orelse env) fs) (assign target env v) (fun _ s₂ =>
            Seg (model prog w) A R Y n s₀ (.forLoop target it body orelse env) ((execs body env).wrap (fun f => match f with
              | .next | .cont => .pure (.again (.forLoop target it body orelse env))
              | .brk => .pure (.done .next)
              | .ret v => .pure (.done (.ret v))) (loopRaise env) id id) fs s₂)
            (fun x s' => Seg (model prog w) A R Y n s₀ (.forLoop target it body orelse env) (loopRaise env x) fs s') s₁)
            (fun x s' => Seg (model prog w) A R Y n s₀ (.forLoop target it body orelse env) (loopRaise env x) fs s') s')
      (fun x s' => Seg (model prog w) A R Y n s₀ (.forLoop target it body orelse env) (loopRaise env x) fs s') s) :
    Seg (model prog w) A R Y n s₀ (.forLoop target it body orelse env) ((model prog w).den (.forLoop target it body orelse env)) fs s := by
  show Seg _ A R Y n s₀ _ ((forTurn target it body orelse env).onRaise (fun x => do noteFrame x env; theTreesLotGoes x)) fs s
  have hE : ∀ x s', Seg (model prog w) A R Y n s₀ (.forLoop target it body orelse env) (loopRaise env x) fs s' →
      Seg (model prog w) A R Y n s₀ (.forLoop target it body orelse env) ((do noteFrame x env; theTreesLotGoes x : Sem Unit).bind fun _ => .raise x) fs s' := fun x s' hx => by
    rw [Sem.bind_eq_wrap]; exact hx
  unfold forTurn
  rw [Sem.onRaise_eq_wrap]
  refine seg_bind_wrap (wpAny_standAt ?_)
  refine seg_bind_wrap (wpAny_onRaise (wpAny_mono h (fun r s' hr => ?_) fun x s' hx => wpAny_standAt (hE x s' hx)))
  cases r with
  | none => exact hr
  | some v =>
    refine seg_bind_wrap (wpAny_mono hr (fun _ s₁ h₁ => ?_) hE)
    refine seg_bind_wrap (wpAny_mono h₁ (fun _ s₂ h₂ => ?_) hE)
    rw [Sem.bind_eq_wrap', Sem.wrap_wrap]
    rw [Sem.wrap_congr (execs body env) _ _ (K' := fun f => match f with
              | .next | .cont => .pure (.again (.forLoop target it body orelse env))
              | .brk => .pure (.done .next)
              | .ret v => .pure (.done (.ret v))) (H' := loopRaise env)
        (fun f => by cases f <;> rfl)
        (fun e => by show (do noteFrame e env; theTreesLotGoes e : Sem Unit).bind (fun _ => .raise e) = _; rw [Sem.bind_eq_wrap])]
    exact h₂

theorem seg_block_nil {c : Code} (h : Seg (model prog w) A R Y n s₀ (.block [] env) (.pure (.done .next)) fs s) : Seg (model prog w) A R Y n s₀ c (.pure (.again (.block [] env))) fs s :=
  seg_again rfl h
end
end Mine

end PartSegR
-- part Gen0
section PartGen0
open PySem PySem.W PySem.Calls PyProof.Rows
namespace Mine
theorem fill3 (P : Params) : Mine.hd.heap_39 P = Mine.hd.heap_39 P ∧ PySem.Challenge.rw_pg0014_01.foot = PySem.Challenge.rw_pg0014_01.foot := by
  k_fill
  exact ⟨rfl, rfl⟩
/-- the heap's part below an address -/
def trunc (C : Nat) (h : Heap) : Heap := ⟨h.objs.extract 0 C, h.life⟩
theorem trunc_get {C : Nat} {h : Heap} {b : Nat} (hb : b < C) : (trunc C h).get? b = h.get? b := by
  unfold trunc Heap.get?
  have : (h.objs.extract 0 C)[b]? = h.objs[b]? := by
    rw [Array.getElem?_extract]
    split
    · simp
    · rename_i hn
      rw [Array.getElem?_eq_none]
      rw [Nat.sub_zero] at hn
      have hb' : b < C := hb
      have : min C h.objs.size ≤ b := Nat.le_of_not_lt hn
      omega
  rw [this]
theorem trunc_none {C : Nat} {h : Heap} {b : Nat} (hb : C ≤ b) : (trunc C h).get? b = none := by
  unfold trunc Heap.get?
  have : (h.objs.extract 0 C)[b]? = none := by
    rw [Array.getElem?_eq_none]
    simp; omega
  rw [this]
theorem trunc_some {C : Nat} {h : Heap} {b : Nat} {o : Obj} (e : (trunc C h).get? b = some o) : b < C ∧ h.get? b = some o := by
  by_cases hb : b < C
  · exact ⟨hb, trunc_get hb ▸ e⟩
  · rw [trunc_none (Nat.le_of_not_lt hb)] at e; cases e
theorem trunc_size {C : Nat} {h : Heap} : (trunc C h).objs.size ≤ C := by
  unfold trunc; simp; omega

noncomputable def gStmt : Stmt := PySem.Challenge.pw_pg0014_01.main.body.getD 6 (.Pass default)
def bodyOf : Stmt → List Stmt
  | .FunctionDef _ _ b _ _ _ _ _ _ _ => b
  | _ => []
def scopeOf : Stmt → Scope
  | .FunctionDef _ _ _ _ _ _ s _ _ _ => s
  | _ => default
noncomputable def gBody : List Stmt := bodyOf gStmt
noncomputable def gScope : Scope := scopeOf gStmt
abbrev gEnv (sc : Scope) (C : Nat) : Env := envOf (Str.ofString "_grouping_intervals") sc C 35 (.ref 34)


/-- what one waking of the generator leaves as it was: all below its frame, and itself -/
def Since (C : Nat) (s₀ s : Shared) : Prop := ∃ h' tk, s = { s₀ with heap := h', toks := tk } ∧ ∀ (b : Nat) o, (b < C ∨ b = C + 1) → s₀.heap.get? b = some o → h'.get? b = some o
def gR (C : Nat) (fin : Bool) : GenEnd := fun n s₀ r s' => fin = true ∧ n = 0 ∧ r = .ok (.ret .none) ∧ Since C s₀ s'
/-- the four objects that the generator holds: its frame, itself, its iterator, its row -/
def Kept4 (C gl I : Nat) (h h' : Heap) : Prop := ∀ b : Nat, (b = C ∨ b = C + 1 ∨ b = I ∨ b = gl) → ∀ o, h.get? b = some o → h'.get? b = some o
def gY (h₀ : Heap) (C gl : Nat) (fin : Bool) (T : List Int) : Protocol := fun m s₀ v s kap =>
  (∃ t, v = .int (T.getD (T.length - 1 - m) 0) t) ∧ Since C s₀ s ∧ ∃ I : Nat, C + 1 < I ∧ (∃ oi, s.heap.get? I = some oi) ∧ (∃ oc, s.heap.get? C = some oc) ∧
    ((m ≠ 0 ∨ fin = true) → ∀ s'', h₀.StaysIn s''.heap → Kept4 C gl I s.heap s''.heap → kap (.send .none) s'')

/-- the generator's own state at the head of its loop -/
structure GSt (h₀ : Heap) (C gl I : Nat) (og : Obj) (vs : List Value) (i : Nat) (last : Value) (h : Heap) : Prop where
  stays : h₀.StaysIn h
  gen : h.get? (C + 1) = some og
  ns : ∃ m, h.Ns C m ∧ m (Str.ofString "grouping") = some (.ref gl) ∧ m (Str.ofString "last_interval") = some last
  list : h.IsList gl vs.toArray
  iter : h.IsListIter I gl i

theorem GSt.keeps {h₀ h h' : Heap} {C gl I : Nat} {og : Obj} {vs : List Value} {i : Nat} {last : Value} (X : GSt h₀ C gl I og vs i last h) (hs : h₀.StaysIn h') (hk : Kept4 C gl I h h') :
    GSt h₀ C gl I og vs i last h' where
  stays := hs
  gen := hk _ (.inr (.inl rfl)) _ X.gen
  ns := let ⟨m, a, b⟩ := X.ns; ⟨m, a.at' fun o e => hk C (.inl rfl) o e, b⟩
  list := X.list.at fun o e => hk gl (.inr (.inr (.inr rfl))) o e
  iter := X.iter.at fun o e => hk I (.inr (.inr (.inl rfl))) o e

theorem Amb.trunc {w mean mg mb} {h₀ h : Heap} {C : Nat} (X : Amb w mean mg mb h₀) (hs : h₀.StaysIn h) (hC : h₀.objs.size ≤ C) : Amb w mean mg mb (trunc C h) :=
  X.keeps fun b o e => by rw [trunc_get (Nat.lt_of_lt_of_le (Heap.lt_size e) hC)]; exact hs b o e

theorem GSt.fr {h₀ h : Heap} {C gl I : Nat} {og : Obj} {vs : List Value} {i : Nat} {last : Value} (X : GSt h₀ C gl I og vs i last h) :
    ∃ u : Str → Option Value, Fr (trunc C h) C h (fun y => if y = Str.ofString "grouping" then some (.ref gl) else if y = Str.ofString "last_interval" then some last else u y) := by
  obtain ⟨m, hn, h1, h2⟩ := X.ns
  refine ⟨m, ?_⟩
  have e : (fun y => if y = Str.ofString "grouping" then some (.ref gl) else if y = Str.ofString "last_interval" then some last else m y) = m := by
    funext y
    split
    · rename_i q; rw [q, h1]
    · split
      · rename_i q; rw [q, h2]
      · rfl
  rw [e]
  exact ⟨hn, fun b o e => (trunc_some e).2, trunc_size⟩

theorem Since.trans {C : Nat} {s₀ s s' : Shared} (x : Since C s₀ s) (y : Since C s s') : Since C s₀ s' := by
  obtain ⟨h₁, t₁, rfl, k₁⟩ := x
  obtain ⟨h₂, t₂, rfl, k₂⟩ := y
  exact ⟨h₂, t₂, rfl, fun b o hb e => k₂ b o hb (k₁ b o hb e)⟩
theorem Since.refl (C : Nat) (s : Shared) : Since C s s := ⟨s.heap, s.toks, rfl, fun _ _ _ e => e⟩
theorem since_fr {C : Nat} {s : Shared} {h' : Heap} {tk : Nat} {m : Str → Option Value} {og : Obj} {rest : List (Addr × Obj)} (F : Fr (trunc C s.heap) C h' m) (N : News (trunc C s.heap) C h' ((C + 1, og) :: rest)) (hg : s.heap.get? (C + 1) = some og) :
    Since C s { s with heap := h', toks := tk } := ⟨h', tk, rfl, fun b o hb e => by
  rcases hb with hb | rfl
  · exact F.keep b o (by rw [trunc_get hb]; exact e)
  · rw [hg] at e
    cases e
    exact (N _ (List.mem_cons_self ..)).1⟩
theorem fr_list {C gl : Nat} {h h' : Heap} {m : Str → Option Value} {vs : List Value} (F : Fr (trunc C h) C h' m) (hgl : gl < C) (hl : h.IsList gl vs.toArray) : h'.IsList gl vs.toArray :=
  hl.at fun o e => F.keep gl o (by rw [trunc_get hgl]; exact e)
theorem fr_stays {C : Nat} {h₀ h h' : Heap} {m : Str → Option Value} (F : Fr (trunc C h) C h' m) (hC : h₀.objs.size ≤ C) (hs : h₀.StaysIn h) : h₀.StaysIn h' :=
  fun b o e => F.keep b o (by rw [trunc_get (Nat.lt_of_lt_of_le (Heap.lt_size e) hC)]; exact hs b o e)

theorem gen_loop {w : World} {A : Around} {mean mg mb} {h₀ : Heap} {C gl I : Nat} {og : Obj} {vs : List Value} {sz tail T : List Int} {fin : Bool} {K : Flow → Sem Fin} {H : Value → Sem Fin} {c₁ : Code} {p : Pos}
    (X : Amb w mean mg mb h₀) (hC : h₀.objs.size ≤ C) (hgl : gl < C) (hI : C + 1 < I) (hh : A.handled = none)
    (hi : IntsAre vs (sz ++ tail)) (hsz : ∀ x ∈ sz, 1 ≤ x ∧ x ≤ 4) (hT : ∀ i, i < sz.length → T.getD i 0 = sz.getD i 0) (hTl : sz.length ≤ T.length)
    (sc : Scope) (hsc : sc = gScope) (body : List Stmt) (hbody : body = (match gBody with | [_, .For _ _ b _ _] => b | _ => []))
    (tgt : Expr) (htgt : tgt = (match gBody with | [_, .For t _ _ _ _] => t | _ => default))
    (hend : ∀ s₀ s last, Since C s₀ s → GSt h₀ C gl I og vs sz.length last s.heap → (sz ≠ [] → ∃ t, last = .int (sz.getD (sz.length - 1) 0) t) →
      Seg (model PySem.Challenge.rw_pg0014_01.row.prog w) A (gR C fin) (gY h₀ C gl fin T) (T.length - sz.length) s₀ (.forLoop tgt (.ref I) body [] (gEnv sc C)) ((model PySem.Challenge.rw_pg0014_01.row.prog w).den (.forLoop tgt (.ref I) body [] (gEnv sc C))) (ownFrame (gEnv sc C) K H id id c₁ p :: []) s) :
    ∀ k i s₀ s last, i + k = sz.length → Since C s₀ s → GSt h₀ C gl I og vs i last s.heap → (i ≠ 0 → ∃ t, last = .int (sz.getD (i - 1) 0) t) →
      Seg (model PySem.Challenge.rw_pg0014_01.row.prog w) A (gR C fin) (gY h₀ C gl fin T) (T.length - i) s₀ (.forLoop tgt (.ref I) body [] (gEnv sc C)) ((model PySem.Challenge.rw_pg0014_01.row.prog w).den (.forLoop tgt (.ref I) body [] (gEnv sc C))) (ownFrame (gEnv sc C) K H id id c₁ p :: []) s := by
  intro k
  induction k with
  | zero =>
    intro i s₀ s last hk hs hg hl
    obtain rfl : i = sz.length := by omega
    refine hend s₀ s last hs hg fun hne => hl fun e => hne (List.eq_nil_of_length_eq_zero e)
  | succ k ih =>
    intro i s₀ s last hk hs hg hl
    have hlt : i < sz.length := by omega
    obtain ⟨KX, TX⟩ := X.trunc hg.stays hC
    conv at hsc => rhs; whnf
    conv at hbody => rhs; whnf
    conv at htgt => rhs; whnf
    subst hsc hbody htgt
    obtain ⟨u, F⟩ := hg.fr
    have N : News (trunc C s.heap) C s.heap [(C + 1, og)] := fun q hq => by
      rw [List.mem_singleton.mp hq]
      exact ⟨hg.gen, Nat.succ_ne_self _, trunc_none (Nat.le_succ _)⟩
    have hgI : gl ≠ I := by omega
    refine seg_forLoop ?_
    refine (Walks.list (by exact hh) I gl hgI vs.toArray).item i s _ _ (by rw [List.size_toArray, hi.length, List.length_append]; omega) ⟨hg.iter, hg.list⟩ (fun v h₁ tk₁ hv hst₁ hk₁ => ?_)
    obtain ⟨x, hx⟩ : ∃ x, (sz ++ tail)[i]? = some x := ⟨_, List.getElem?_eq_getElem (by rw [List.length_append]; omega)⟩
    obtain ⟨t, hvx⟩ := hi.get i x hx
    have hvv : v = .int x t := by
      have hv' : vs[i]? = some v := by simpa using hv
      rw [hvx] at hv'; exact (Option.some.inj hv').symm
    subst hvv
    have hxs : sz[i]? = some x := by rwa [List.getElem?_append_left hlt] at hx
    have hxb := hsz x (List.mem_of_getElem? hxs)
    have kI : ∀ (b : Nat) o, b < C ∨ b = C + 1 ∨ b = C → s.heap.get? b = some o → h₁.get? b = some o := fun b o hb e => hk₁ b o (by
      intro hm; have e : (b : Nat) = I := List.mem_singleton.mp hm; omega) e
    have F₁ : Fr (trunc C s.heap) C h₁ (fun y => if y = Str.ofString "grouping" then some (.ref gl) else if y = Str.ofString "last_interval" then some last else u y) :=
      ⟨F.ns.at' fun o e => kI C o (.inr (.inr rfl)) e, fun b o e => kI b o (.inl (trunc_some e).1) (trunc_some e).2, F.above⟩
    obtain ⟨oi, hoi, hoi2⟩ := hst₁.1
    have N₁ : News (trunc C s.heap) C h₁ [(C + 1, og), (I, oi)] := fun q hq => by
      rcases List.mem_cons.mp hq with rfl | hq
      · exact ⟨kI _ _ (.inr (.inl rfl)) hg.gen, Nat.succ_ne_self _, trunc_none (Nat.le_succ _)⟩
      · rw [List.mem_singleton.mp hq]
        exact ⟨hoi, by show I ≠ C; omega, trunc_none (by show C ≤ I; omega)⟩
    clear F N
    refine wpAny_of_eq rfl ?_
    refine wpAny_assign_Name (stN F₁ N₁ fun h₂ F₂ N₂ => ?_)
    have hS₂ : ∀ tk, Since C s₀ { s with heap := h₂, toks := tk } := fun tk => hs.trans (since_fr F₂ N₂ hg.gen)
    obtain ⟨m, hm⟩ : ∃ m, T.length - i = m + 1 := ⟨T.length - i - 1, by omega⟩
    rw [hm]
    refine seg_execs_cons (seg_If ?_)
    k_steps
    · exfalso; rename (x = 127) => q; omega
    refine seg_execs_nil ?_
    refine seg_execs_cons (seg_If ?_)
    k_steps
    · exfalso; rename (x = 0) => q; omega
    refine seg_execs_nil ?_
    refine seg_execs_cons (seg_Expr_Yield rfl rfl rfl ?_)
    k_steps
    rename_i kap hkap
    have hval : T.getD (T.length - 1 - m) 0 = x := by
      have e : T.length - 1 - m = i := by omega
      rw [e, hT i hlt, List.getD_eq_getElem?_getD, hxs]; rfl
    refine ⟨⟨t, by rw [hval]⟩, ?_, I, hI, ⟨oi, (N₂ _ (List.mem_cons_of_mem _ (List.mem_cons_self ..))).1⟩, F₂.ns.imp fun _ x => by obtain ⟨_, _, x, _⟩ := x; exact x, fun _ s'' hs'' hk'' => hkap .none s'' ?_⟩
    · exact hS₂ _
    · obtain ⟨KX'', TX''⟩ := X.trunc hs'' hC
      have F'' : Fr (trunc C s''.heap) C s''.heap (fun y => if y = Str.ofString "interval" then some (Value.int x t)
          else if y = Str.ofString "grouping" then some (Value.ref gl) else if y = Str.ofString "last_interval" then some last else u y) :=
        ⟨F₂.ns.at' fun o e => hk'' C (.inl rfl) o e, fun b o e => (trunc_some e).2, trunc_size⟩
      have N'' : News (trunc C s''.heap) C s''.heap [(C + 1, og), (I, oi)] := fun q hq => by
        have hq' := N₂ q hq
        rcases List.mem_cons.mp hq with rfl | hq
        · exact ⟨hk'' _ (.inr (.inl rfl)) _ hq'.1, Nat.succ_ne_self _, trunc_none (Nat.le_succ _)⟩
        · rw [List.mem_singleton.mp hq] at hq' ⊢
          exact ⟨hk'' I (.inr (.inr (.inl rfl))) _ hq'.1, by show I ≠ C; omega, trunc_none (by show C ≤ I; omega)⟩
      have hl₂ : s''.heap.IsList gl vs.toArray := (fr_list F₂ hgl hg.list).at fun o e => hk'' gl (.inr (.inr (.inr rfl))) o e
      have hgen'' := (N'' _ (List.mem_cons_self ..)).1
      clear F₂ N₂ F₁ N₁
      refine seg_execs_cons (seg_stmt ?_)
      k_steps
      refine seg_execs_nil (seg_again rfl ?_)
      have e1 : m = T.length - (i + 1) := by omega
      rw [e1]
      refine ih (i + 1) s'' _ (.int x t) (by omega) ?_ ?_ fun _ => ⟨t, by rw [Nat.add_sub_cancel, List.getD_eq_getElem?_getD, hxs]; rfl⟩
      · exact since_fr (by assumption) (by assumption) hgen''
      · rename_i F' N'
        exact ⟨fr_stays F' hC hs'', (N' _ (List.mem_cons_self ..)).1, ⟨_, F'.ns, rfl, rfl⟩, fr_list F' hgl hl₂, ⟨oi, (N' _ (List.mem_cons_of_mem _ (List.mem_cons_self ..))).1, hoi2⟩⟩
end Mine

end PartGen0
-- part Gen1
section PartGen1
open PySem PySem.W PySem.Calls PyProof.Rows
namespace Mine
theorem fill4 (P : Params) : Mine.hd.heap_39 P = Mine.hd.heap_39 P ∧ PySem.Challenge.rw_pg0014_01.foot = PySem.Challenge.rw_pg0014_01.foot := by
  k_fill
  exact ⟨rfl, rfl⟩

abbrev gK0 (f : Flow) : Sem PySem.Fin := .pure (.done (.ret (match f with | .ret v => v | _ => .none)))
abbrev gH0 (env : Env) (e : Value) : Sem PySem.Fin := (leaving env e).wrap (fun _ => .raise e) .raise id id
abbrev gK1 (env : Env) (f : Flow) : Sem PySem.Fin := match f with | .next => (execs [] env).wrap gK0 (gH0 env) id id | f => gK0 f

section
variable {w : World} {A : Around} {mean : ExcName → Option Value} {mg mb : Str → Option Value} {h₀ : Heap} {C gl I : Nat} {og : Obj} {vs : List Value} {sz T : List Int} {c₁ : Code} {p : Pos}

theorem gen_end_nil {H : Value → Sem PySem.Fin} (hC : h₀.objs.size ≤ C) (hgl : gl < C) (hI : C + 1 < I) (hh : A.handled = none) (hi : IntsAre vs sz) (hT : T.length = sz.length)
    (sc : Scope) (body : List Stmt) (tgt : Expr) :
    ∀ s₀ s last, Since C s₀ s → GSt h₀ C gl I og vs sz.length last s.heap → 
      Seg (model PySem.Challenge.rw_pg0014_01.row.prog w) A (gR C true) (gY h₀ C gl true T) (T.length - sz.length) s₀ (.forLoop tgt (.ref I) body [] (gEnv sc C)) ((model PySem.Challenge.rw_pg0014_01.row.prog w).den (.forLoop tgt (.ref I) body [] (gEnv sc C))) (ownFrame (gEnv sc C) (gK1 (gEnv sc C)) H id id c₁ p :: []) s := by
  intro s₀ s last hs hg
  refine seg_forLoop ?_
  have hgI : gl ≠ I := by omega
  have e : sz.length = vs.toArray.size := by rw [List.size_toArray, hi.length]
  refine (Walks.list (by exact hh) I gl hgI vs.toArray).done s _ _ ⟨e ▸ hg.iter, hg.list⟩ (fun h₁ tk₁ hk₁ => ?_)
  refine seg_block_nil (seg_leaf (.ok .next) ?_)
  refine seg_end (.ok (.ret .none)) ⟨rfl, by omega, rfl, hs.trans ⟨h₁, tk₁, rfl, fun b o hb e => hk₁ b o (fun hm => ?_) e⟩⟩
  have e : (b : Nat) = I := List.mem_singleton.mp hm
  omega

theorem gen_end_max {H : Value → Sem PySem.Fin} {tl : List Int} (X : Amb w mean mg mb h₀) (hC : h₀.objs.size ≤ C) (hgl : gl < C) (hI : C + 1 < I) (hh : A.handled = none) (hi : IntsAre vs (sz ++ 127 :: tl)) (hT : T.length = sz.length)
    (sc : Scope) (hsc : sc = gScope) (body : List Stmt) (hbody : body = (match gBody with | [_, .For _ _ b _ _] => b | _ => []))
    (tgt : Expr) (htgt : tgt = (match gBody with | [_, .For t _ _ _ _] => t | _ => default)) :
    ∀ s₀ s last, Since C s₀ s → GSt h₀ C gl I og vs sz.length last s.heap → 
      Seg (model PySem.Challenge.rw_pg0014_01.row.prog w) A (gR C true) (gY h₀ C gl true T) (T.length - sz.length) s₀ (.forLoop tgt (.ref I) body [] (gEnv sc C)) ((model PySem.Challenge.rw_pg0014_01.row.prog w).den (.forLoop tgt (.ref I) body [] (gEnv sc C))) (ownFrame (gEnv sc C) (gK1 (gEnv sc C)) H id id c₁ p :: []) s := by
  intro s₀ s last hs hg
  obtain ⟨KX, TX⟩ := X.trunc hg.stays hC
  conv at hsc => rhs; whnf
  conv at hbody => rhs; whnf
  conv at htgt => rhs; whnf
  subst hsc hbody htgt
  obtain ⟨u, F⟩ := hg.fr
  have hgI : gl ≠ I := by omega
  refine seg_forLoop ?_
  refine (Walks.list (by exact hh) I gl hgI vs.toArray).item sz.length s _ _ (by rw [List.size_toArray, hi.length, List.length_append, List.length_cons]; omega) ⟨hg.iter, hg.list⟩ (fun v h₁ tk₁ hv hst₁ hk₁ => ?_)
  obtain ⟨t, hvx⟩ := hi.get sz.length 127 (by simp)
  have hvv : v = .int 127 t := by
    have hv' : vs[sz.length]? = some v := by simpa using hv
    rw [hvx] at hv'; exact (Option.some.inj hv').symm
  subst hvv
  have kI : ∀ (b : Nat) o, b < C ∨ b = C + 1 ∨ b = C → s.heap.get? b = some o → h₁.get? b = some o := fun b o hb e => hk₁ b o (by
    intro hm; have e : (b : Nat) = I := List.mem_singleton.mp hm; omega) e
  have F₁ : Fr (trunc C s.heap) C h₁ (fun y => if y = Str.ofString "grouping" then some (.ref gl) else if y = Str.ofString "last_interval" then some last else u y) :=
    ⟨F.ns.at' fun o e => kI C o (.inr (.inr rfl)) e, fun b o e => kI b o (.inl (trunc_some e).1) (trunc_some e).2, F.above⟩
  have N₁ : News (trunc C s.heap) C h₁ [(C + 1, og)] := fun q hq => by
    rw [List.mem_singleton.mp hq]
    exact ⟨kI _ _ (.inr (.inl rfl)) hg.gen, Nat.succ_ne_self _, trunc_none (Nat.le_succ _)⟩
  clear F
  refine wpAny_of_eq rfl ?_
  refine wpAny_assign_Name (stN F₁ N₁ fun h₂ F₂ N₂ => ?_)
  have hS₂ : ∀ tk, Since C s₀ { s with heap := h₂, toks := tk } := fun tk => hs.trans (since_fr F₂ N₂ hg.gen)
  refine seg_execs_cons (seg_If ?_)
  k_steps
  refine seg_execs_cons (seg_stmt ?_)
  k_steps
  refine seg_leaf (.ok (.ret .none)) ?_
  exact seg_end (.ok (.ret .none)) ⟨rfl, by omega, rfl, hS₂ _⟩

/-- the endless inner loop: the last size again and again -/
theorem gen_while {fs : List Frame} (X : Amb w mean mg mb h₀) (hC : h₀.objs.size ≤ C) (hgl : gl < C) {x : Int} {t : Tok}
    (hfs : splitAtGen fs = none) (hfg : fs.any Frame.guarded = false)
    (sc : Scope) (hsc : sc = gScope) (test : Expr) (htest : test = (match gBody with | [_, .For _ _ [_, .If _ [_, .While e _ _ _] _ _, _, _] _ _] => e | _ => default))
    (body : List Stmt) (hbody : body = (match gBody with | [_, .For _ _ [_, .If _ [_, .While _ b _ _] _ _, _, _] _ _] => b | _ => [])) :
    ∀ m s₀ s i, Since C s₀ s → GSt h₀ C gl I og vs i (.int x t) s.heap → C + 1 < I → (∀ j, j ≤ m → T.getD (T.length - 1 - j) 0 = x) →
      Seg (model PySem.Challenge.rw_pg0014_01.row.prog w) A (gR C false) (gY h₀ C gl false T) (m + 1) s₀ (.whileLoop test body [] (gEnv sc C)) ((model PySem.Challenge.rw_pg0014_01.row.prog w).den (.whileLoop test body [] (gEnv sc C))) fs s := by
  conv at hsc => rhs; whnf
  conv at hbody => rhs; whnf
  conv at htest => rhs; whnf
  subst hsc hbody htest
  intro m
  induction m with
  | zero =>
    intro s₀ s i hs hg hI hT
    obtain ⟨KX, TX⟩ := X.trunc hg.stays hC
    obtain ⟨u, F⟩ := hg.fr
    have N : News (trunc C s.heap) C s.heap [(C + 1, og)] := fun q hq => by
      rw [List.mem_singleton.mp hq]
      exact ⟨hg.gen, Nat.succ_ne_self _, trunc_none (Nat.le_succ _)⟩
    have hS := since_fr (tk := s.toks) F N hg.gen
    refine seg_whileLoop ?_
    k_steps
    refine seg_execs_cons (seg_Expr_Yield hfs rfl hfg ?_)
    k_steps
    refine ⟨⟨t, by rw [hT 0 (Nat.le_refl _)]⟩, hs, I, hI, hg.iter.imp fun _ x => x.1, hg.ns.elim fun _ x => x.1.imp fun _ y => by obtain ⟨_, _, y, _⟩ := y; exact y, fun q => ?_⟩
    rcases q with q | q
    · exact absurd rfl q
    · cases q
  | succ m ih =>
    intro s₀ s i hs hg hI hT
    obtain ⟨KX, TX⟩ := X.trunc hg.stays hC
    obtain ⟨u, F⟩ := hg.fr
    have N : News (trunc C s.heap) C s.heap [(C + 1, og)] := fun q hq => by
      rw [List.mem_singleton.mp hq]
      exact ⟨hg.gen, Nat.succ_ne_self _, trunc_none (Nat.le_succ _)⟩
    refine seg_whileLoop ?_
    k_steps
    refine seg_execs_cons (seg_Expr_Yield hfs rfl hfg ?_)
    k_steps
    rename_i kap hkap
    refine ⟨⟨t, by rw [hT (m + 1) (Nat.le_refl _)]⟩, hs, I, hI, hg.iter.imp fun _ x => x.1, hg.ns.elim fun _ x => x.1.imp fun _ y => by obtain ⟨_, _, y, _⟩ := y; exact y, fun _ s'' hs'' hk'' => hkap .none s'' ?_⟩
    refine seg_execs_nil (seg_again rfl ?_)
    exact ih s'' s'' i (Since.refl _ _) (hg.keeps hs'' hk'') hI fun j hj => hT j (by omega)

theorem gen_end_zero {H : Value → Sem PySem.Fin} {tl : List Int} {m : Nat} (X : Amb w mean mg mb h₀) (hC : h₀.objs.size ≤ C) (hgl : gl < C) (hI : C + 1 < I) (hh : A.handled = none) (hi : IntsAre vs (sz ++ 0 :: tl)) (hT : T.length = sz.length + (m + 1))
    (hTl : ∀ j, j ≤ m → T.getD (T.length - 1 - j) 0 = sz.getD (sz.length - 1) 0)
    (sc : Scope) (hsc : sc = gScope) (body : List Stmt) (hbody : body = (match gBody with | [_, .For _ _ b _ _] => b | _ => []))
    (tgt : Expr) (htgt : tgt = (match gBody with | [_, .For t _ _ _ _] => t | _ => default)) :
    ∀ s₀ s last, Since C s₀ s → GSt h₀ C gl I og vs sz.length last s.heap → (∃ t, last = .int (sz.getD (sz.length - 1) 0) t) →
      Seg (model PySem.Challenge.rw_pg0014_01.row.prog w) A (gR C false) (gY h₀ C gl false T) (T.length - sz.length) s₀ (.forLoop tgt (.ref I) body [] (gEnv sc C)) ((model PySem.Challenge.rw_pg0014_01.row.prog w).den (.forLoop tgt (.ref I) body [] (gEnv sc C))) (ownFrame (gEnv sc C) (gK1 (gEnv sc C)) H id id c₁ p :: []) s := by
  rintro s₀ s last hs hg ⟨t₀, rfl⟩
  obtain ⟨KX, TX⟩ := X.trunc hg.stays hC
  have hsc' := hsc
  have hb' := hbody
  conv at hsc => rhs; whnf
  conv at hbody => rhs; whnf
  conv at htgt => rhs; whnf
  subst hbody htgt
  rw [hsc] at hsc' ⊢
  clear hsc hb'
  obtain ⟨u, F⟩ := hg.fr
  have hgI : gl ≠ I := by omega
  have e0 : T.length - sz.length = m + 1 := by omega
  rw [e0]
  refine seg_forLoop ?_
  refine (Walks.list (by exact hh) I gl hgI vs.toArray).item sz.length s _ _ (by rw [List.size_toArray, hi.length, List.length_append, List.length_cons]; omega) ⟨hg.iter, hg.list⟩ (fun v h₁ tk₁ hv hst₁ hk₁ => ?_)
  obtain ⟨t, hvx⟩ := hi.get sz.length 0 (by simp)
  have hvv : v = .int 0 t := by
    have hv' : vs[sz.length]? = some v := by simpa using hv
    rw [hvx] at hv'; exact (Option.some.inj hv').symm
  subst hvv
  have kI : ∀ (b : Nat) o, b < C ∨ b = C + 1 ∨ b = C → s.heap.get? b = some o → h₁.get? b = some o := fun b o hb e => hk₁ b o (by
    intro hm; have e : (b : Nat) = I := List.mem_singleton.mp hm; omega) e
  have F₁ : Fr (trunc C s.heap) C h₁ (fun y => if y = Str.ofString "grouping" then some (.ref gl) else if y = Str.ofString "last_interval" then some (.int (sz.getD (sz.length - 1) 0) t₀) else u y) :=
    ⟨F.ns.at' fun o e => kI C o (.inr (.inr rfl)) e, fun b o e => kI b o (.inl (trunc_some e).1) (trunc_some e).2, F.above⟩
  obtain ⟨oi, hoi, hoi2⟩ := hst₁.1
  have N₁ : News (trunc C s.heap) C h₁ [(C + 1, og), (I, oi)] := fun q hq => by
    rcases List.mem_cons.mp hq with rfl | hq
    · exact ⟨kI _ _ (.inr (.inl rfl)) hg.gen, Nat.succ_ne_self _, trunc_none (Nat.le_succ _)⟩
    · rw [List.mem_singleton.mp hq]
      exact ⟨hoi, by show I ≠ C; omega, trunc_none (by show C ≤ I; omega)⟩
  clear F
  refine wpAny_of_eq rfl ?_
  refine wpAny_assign_Name (stN F₁ N₁ fun h₂ F₂ N₂ => ?_)
  have hS₂ : ∀ tk, Since C s₀ { s with heap := h₂, toks := tk } := fun tk => hs.trans (since_fr F₂ N₂ hg.gen)
  have hg₂ : GSt h₀ C gl I og vs (sz.length + 1) (.int (sz.getD (sz.length - 1) 0) t₀) h₂ :=
    ⟨fr_stays F₂ hC hg.stays, (N₂ _ (List.mem_cons_self ..)).1, ⟨_, F₂.ns, rfl, rfl⟩, fr_list F₂ hgl hg.list, ⟨oi, (N₂ _ (List.mem_cons_of_mem _ (List.mem_cons_self ..))).1, hoi2⟩⟩
  refine seg_execs_cons (seg_If ?_)
  k_steps
  refine seg_execs_nil ?_
  refine seg_execs_cons (seg_If ?_)
  k_steps
  refine seg_execs_cons (seg_If ?_)
  k_steps
  refine seg_execs_nil ?_
  refine seg_execs_cons (seg_While fun p' => ?_)
  exact gen_while X hC hgl rfl rfl _ hsc' _ rfl _ rfl m s₀ _ _ (hS₂ _) hg₂ hI hTl
end
end Mine

end PartGen1
-- part Gen2
section PartGen2
open PySem PySem.W PySem.Calls PyProof.Rows
namespace Mine
theorem fill5 (P : Params) : Mine.hd.heap_39 P = Mine.hd.heap_39 P ∧ PySem.Challenge.rw_pg0014_01.foot = PySem.Challenge.rw_pg0014_01.foot := by
  k_fill
  exact ⟨rfl, rfl⟩

/-- what the generator tells of a row: T, and whether it ends behind it -/
inductive Tells3 (sz : List Int) : List Int → List Int → Bool → Prop where
  | nil : Tells3 sz [] sz true
  | max (tl : List Int) : Tells3 sz (127 :: tl) sz true
  | zero (tl T : List Int) (m : Nat) : T.length = sz.length + (m + 1) → (∀ i, i < sz.length → T.getD i 0 = sz.getD i 0) → (∀ j, j ≤ m → T.getD (T.length - 1 - j) 0 = sz.getD (sz.length - 1) 0) → sz ≠ [] → Tells3 sz (0 :: tl) T false

section
variable {w : World} {A : Around} {mean : ExcName → Option Value} {mg mb : Str → Option Value} {h₀ : Heap} {C gl : Nat} {og : Obj} {vs : List Value} {sz tail T : List Int} {fin : Bool}

theorem gen_run {I : Nat} {H : Value → Sem PySem.Fin} {c₁ : Code} {p : Pos} (X : Amb w mean mg mb h₀) (hC : h₀.objs.size ≤ C) (hgl : gl < C) (hI : C + 1 < I) (hh : A.handled = none)
    (hi : IntsAre vs (sz ++ tail)) (hsz : ∀ x ∈ sz, 1 ≤ x ∧ x ≤ 4) (hsays : Tells3 sz tail T fin)
    (sc : Scope) (hsc : sc = gScope) (body : List Stmt) (hbody : body = (match gBody with | [_, .For _ _ b _ _] => b | _ => []))
    (tgt : Expr) (htgt : tgt = (match gBody with | [_, .For t _ _ _ _] => t | _ => default)) (s₀ s : Shared) (hs : Since C s₀ s) (hg : GSt h₀ C gl I og vs 0 .none s.heap) :
    Seg (model PySem.Challenge.rw_pg0014_01.row.prog w) A (gR C fin) (gY h₀ C gl fin T) T.length s₀ (.forLoop tgt (.ref I) body [] (gEnv sc C)) ((model PySem.Challenge.rw_pg0014_01.row.prog w).den (.forLoop tgt (.ref I) body [] (gEnv sc C))) (ownFrame (gEnv sc C) (gK1 (gEnv sc C)) H id id c₁ p :: []) s := by
  cases hsays with
  | nil =>
    rw [List.append_nil] at hi
    refine gen_loop (tail := []) X hC hgl hI hh (by rw [List.append_nil]; exact hi) hsz (fun _ _ => rfl) (Nat.le_refl _) sc hsc body hbody tgt htgt (fun s₀ s last a b _ => gen_end_nil hC hgl hI hh hi rfl sc body tgt s₀ s last a b) sz.length 0 s₀ s .none (Nat.zero_add _) hs hg (fun h => absurd rfl h)
  | max tl =>
    exact gen_loop X hC hgl hI hh hi hsz (fun _ _ => rfl) (Nat.le_refl _) sc hsc body hbody tgt htgt (fun s₀ s last a b _ => gen_end_max X hC hgl hI hh hi rfl sc hsc body hbody tgt htgt s₀ s last a b) sz.length 0 s₀ s .none (Nat.zero_add _) hs hg (fun h => absurd rfl h)
  | zero tl T m h1 h2 h3 h4 =>
    exact gen_loop X hC hgl hI hh hi hsz h2 (by omega) sc hsc body hbody tgt htgt (fun s₀ s last a b c => gen_end_zero X hC hgl hI hh hi h1 h3 sc hsc body hbody tgt htgt s₀ s last a b (c h4)) sz.length 0 s₀ s .none (Nat.zero_add _) hs hg (fun h => absurd rfl h)

theorem gen_start (X : Amb w mean mg mb h₀) (hC : h₀.objs.size ≤ C) (hgl : gl < C) (hh : A.handled = none)
    (hi : IntsAre vs (sz ++ tail)) (hsz : ∀ x ∈ sz, 1 ≤ x ∧ x ≤ 4) (hsays : Tells3 sz tail T fin) (sc : Scope) (hsc : sc = gScope) (gb : List Stmt) (hgb : gb = gBody)
    (s : Shared) (hst : h₀.StaysIn s.heap) (hgen : s.heap.get? (C + 1) = some og) (hns : ∃ u : Str → Option Value, s.heap.Ns C (fun y => if y = Str.ofString "grouping" then some (.ref gl) else u y)) (hl : s.heap.IsList gl vs.toArray) :
    Seg (model PySem.Challenge.rw_pg0014_01.row.prog w) A (gR C fin) (gY h₀ C gl fin T) T.length s (.func gb (gEnv sc C)) ((model PySem.Challenge.rw_pg0014_01.row.prog w).den (.func gb (gEnv sc C))) [] s := by
  obtain ⟨KX, TX⟩ := X.trunc hst hC
  have hsc' := hsc
  conv at hsc => rhs; whnf
  conv at hgb => rhs; whnf
  subst hgb
  rw [hsc] at hsc' ⊢
  clear hsc
  obtain ⟨u, hns⟩ := hns
  have F : Fr (trunc C s.heap) C s.heap (fun y => if y = Str.ofString "grouping" then some (.ref gl) else u y) := ⟨hns, fun b o e => (trunc_some e).2, trunc_size⟩
  have N : News (trunc C s.heap) C s.heap [(C + 1, og)] := fun q hq => by
    rw [List.mem_singleton.mp hq]
    exact ⟨hgen, Nat.succ_ne_self _, trunc_none (Nat.le_succ _)⟩
  refine seg_func (seg_execs_cons (seg_stmt ?_))
  k_steps
  refine seg_execs_cons (seg_For ?_)
  k_steps
  rename_i h₁ F₁ N₁
  have hl₁ := fr_list F₁ hgl hl
  have hlt : C + 1 < h₁.objs.size := Heap.lt_size (N₁ _ (List.mem_cons_self ..)).1
  refine wpAny_pyIter_list hl₁ fun p => ?_
  refine gen_run (og := og) X hC hgl hlt hh hi hsz hsays _ hsc' _ rfl _ rfl _ _ ((since_fr F₁ N₁ hgen).trans ⟨_, _, rfl, fun b o _ e => Heap.get?_push_of_some _ e⟩) ?_
  exact ⟨fun b o e => Heap.get?_push_of_some _ (fr_stays F₁ hC hst b o e), Heap.get?_push_of_some _ (N₁ _ (List.mem_cons_self ..)).1, ⟨_, F₁.ns.push _, rfl, rfl⟩, hl₁.push _, ⟨_, Heap.get?_push_size _ rfl, rfl, rfl⟩⟩
end
end Mine

end PartGen2
-- part Gen3
section PartGen3
open PySem PySem.W PySem.Calls PyProof.Rows
namespace Mine
theorem fill6 (P : Params) : Mine.hd.heap_39 P = Mine.hd.heap_39 P ∧ PySem.Challenge.rw_pg0014_01.foot = PySem.Challenge.rw_pg0014_01.foot := by
  k_fill
  exact ⟨rfl, rfl⟩

section
variable {prog : Program} {w : World} {A : Around} {E : Value → Shared → Prop} {s : Shared}
theorem pyNext_gen {a : Addr} {g n : Nat} {gs : GenState} {R : GenEnd} {Y : Protocol} {Q : Option Value → Shared → Prop} (hh : A.handled = none)
    (hl : s.heap.NoLimit) (hroom : A.depth < recursionLimit)
    (hg : s.heap.IsGen a g) (hgs : s.gens[g]? = some gs)
    (hgo : gs.Goes (model prog w) A.in1 R Y n (.send .none) (s.setGen g .running))
    (hY : ∀ v s₁ gs', gs'.bare = true → Y (n - 1) (s.setGen g .running) v s₁ (fun r' s'' => match n with
        | 0 => False
        | m + 1 => gs'.Goes (model prog w) A.in1 R Y m r' s'') → Q (some v) (s₁.setGen g gs'))
    (hP : ∀ r s₁, R n (s.setGen g .running) r s₁ → r = .ok (.ret .none) ∧ ∀ h', (∀ b o, s₁.heap.get? b = some o → h'.get? b = some o) → Q none { s₁.setGen g .finished with heap := h' }) :
    wpAny (model prog w) A (pyNext (.ref a)) Q E s := by
  unfold pyNext
  refine wpAny_bind (wpAny_attempt (wpAny_callSpecial?_slot (name := Str.ofString "__next__") hg.typeIs slot_gen_next
    (wpAny_call_entry slot_gen_next hg.typeIs entry_gen_next ?_ (args_gen_next _))))
  show wpAny _ A.in1 (Builtin.Generator.genWake (.ref a) (.send .none)) _ _ s
  unfold Builtin.Generator.genWake
  refine wpAny_bind (wpAny_holding (wpAny_genNumber hg (wpAny_bind (wpAny_genState hgs ?_))))
  cases gs with
  | running => exact hgo.elim
  | finished => exact hgo.elim
  | _ =>
    refine wpAny_bind (wpAny_roomToWake hl hroom ?_)
    show wpAny _ A.in1 (.resume g (.send .none) [] _) _ _ s
    refine wpAny_resumeQ hgs hgo (fun x s₁ hx => ?_) (fun v s₁ gs' hb hv => ?_)
    · obtain ⟨rfl, hp⟩ := hP x s₁ hx
      show wpAny _ A.in1 (newExc (.type "StopIteration") [] >>= _) _ _ _
      refine wpAny_bind ?_
      simp only [newExc, newTuple]
      refine wpAny_bind (wpAny_newObj_type ?_ (by size_fits))
      refine wpAny_bind (m := firstArgMember _ _) (wpAny_of_eq (a := Value.none) (by first | rfl | (simp only [firstArgMember]; rfl)) ?_)
      refine wpAny_newObj_type ?_ (by size_fits)
      simp only [raiseNew]
      refine wpAny_bind (wpAny_bind (wpAny_handled ?_))
      first | rw [show A.in1.handled = none from hh] | rw [hh]
      refine wpAny_throw ?_
      refine wpAny_bind (wpAny_isInstance (T := "StopIteration") (b := true) ⟨_, Heap.get?_push_size _ rfl, rfl⟩ isSubtype_stop ?_)
      exact wpAny_pure (hp _ fun b o hb => Heap.get?_push_of_some _ (Heap.get?_push_of_some _ hb))
    · exact wpAny_pure ⟨v, rfl, wpAny_pure (hY v s₁ gs' hb hv)⟩
end


theorem enterGen {w : World} {A : Around} {R : Result → Shared → Prop} {s : Shared} {mean mg mb} {f : Addr} {oc : Value} {od : Option Addr} {osl : Array (Option Value)}
    {name qual : Str} {params : Arguments} {body : List Stmt} {scope : Scope} {dV kV doc pm cdv ct : Value} {an : Option Addr} {args : Args} {binds : List (Str × Value)}
    (X : Amb w mean mg mb s.heap)
    (ho : (Mine.hd.heap_39 w.params).lookup f = some ⟨oc, od, .func (fnOf name qual params body scope dV kV doc pm an cdv ct), osl⟩)
    (hcd : codeIn (Mine.hd.heap_39 w.params) cdv qual = true) (hroom : A.depth < recursionLimit)
    (hbind : BindsTo s (fnOf name qual params body scope dV kV doc pm an cdv ct) args binds) (hloc : ∀ y ∈ binds, scope.names.lookup y.1 = some .local)
    (h : ∀ h' tk og, h'.Ns s.heap.objs.size (fun y => binds.reverse.lookup y) → h'.get? (s.heap.objs.size + 1) = some og → h'.IsGen (s.heap.objs.size + 1) s.gens.size → (∀ b o, s.heap.get? b = some o → h'.get? b = some o) →
      R (.ok (.ret (.ref (s.heap.objs.size + 1)))) { s with heap := h', toks := tk, gens := s.gens.push (.fresh (.func body (envOf qual scope s.heap.objs.size f cdv))) })
    (hco : scope.isCoroutine = false) (hgen : scope.isGenerator = true) (hk : scope.kind = .function)
    (hcell : ∀ x ∈ scope.names, x.2 ≠ .cell) : codeAny (model PySem.Challenge.rw_pg0014_01.row.prog w) A (.call (.ref f) args) R s := by
  refine codeAny_call_generator (fd := fnOf name qual params body scope dV kV doc pm an cdv ct) hroom (X.K _ _ ho) rfl hco hgen rfl (codeRec_of X.K hcd) (hbind _ _ _ _ ?_)
  refine wpAny_newFunctionEnv hcell hloc (fun h₁ hns hsb => ⟨X.T.nolimit.fresh _ hsb, ?_⟩) hk
  have hsz : h₁.objs.size = s.heap.objs.size + 1 := by rw [hsb.1, Heap.size_push]
  dsimp only at *
  rw [hsz]
  refine h _ _ _ (hns.push _) (by rw [← hsz]; exact Heap.get?_push_size _ rfl) ⟨_, _, _, by rw [← hsz]; exact Heap.get?_push_size _ rfl, rfl, rfl, rfl⟩ fun b o e => Heap.get?_push_of_some _ (hsb.extBut b o (Nat.ne_of_lt (Heap.lt_size e)) (Heap.get?_push_of_some _ e))

section
variable {w : World} {A : Around} {mean : ExcName → Option Value} {mg mb : Str → Option Value} {Q E : Value → Shared → Prop} {s : Shared}

theorem gen_make {gl : Nat} (X : Amb w mean mg mb s.heap) (hroom : A.depth < recursionLimit)
    (h : ∀ h' tk og, h'.Ns s.heap.objs.size (fun y => if y = Str.ofString "grouping" then some (.ref gl) else none) → h'.get? (s.heap.objs.size + 1) = some og → h'.IsGen (s.heap.objs.size + 1) s.gens.size →
      (∀ b o, s.heap.get? b = some o → h'.get? b = some o) →
      Q (.ref (s.heap.objs.size + 1)) { s with heap := h', toks := tk, gens := s.gens.push (.fresh (.func gBody (gEnv gScope s.heap.objs.size))) }) :
    wpAny (model PySem.Challenge.rw_pg0014_01.row.prog w) A (call (.ref 35) [.ref gl]) Q E s := by
  obtain ⟨KX, T⟩ := X
  refine wpAny_call (enterGen ⟨KX, T⟩ (f := 35) (by k_is) (by k_is) hroom (BindsTo.of_eq rfl) (locs rfl) (fun h' tk og hns hog hgen hk => ?_) rfl rfl rfl (by decide))
  refine h h' tk og ?_ hog hgen hk
  have e : (fun y => if y = Str.ofString "grouping" then some (Value.ref gl) else none) = fun y : Str => List.lookup y [(Str.ofString "grouping", Value.ref gl)] := by
    funext y
    by_cases hy : y = Str.ofString "grouping"
    · rw [if_pos hy, hy]; simp [List.lookup]
    · rw [if_neg hy]
      have : (y == Str.ofString "grouping") = false := by simpa using hy
      simp [List.lookup, this]
  rw [e]
  exact hns
end
end Mine

end PartGen3
-- part Gen4
section PartGen4
open PySem PySem.W PySem.Calls PyProof.Rows
namespace Mine

/-- the generator as its reader holds it: j sizes told; its own objects are gn -/
structure GAt (w : World) (A : Around) (h₀ : Heap) (C gl g : Nat) (og ogl : Obj) (T : List Int) (fin : Bool) (j : Nat) (gn : List (Addr × Obj)) (gens : Array GenState) : Prop where
  isGen : ∀ h : Heap, h.get? (C + 1) = some og → h.IsGen (C + 1) g
  mem : (C + 1, og) ∈ gn
  high : ∀ p ∈ gn, C ≤ (p.1 : Nat)
  go : ∃ gs, gens[g]? = some gs ∧ ((j < T.length ∨ fin = true) → ∀ s'' : Shared, h₀.StaysIn s''.heap → (∀ p ∈ gn, s''.heap.get? p.1 = some p.2) → s''.heap.get? gl = some ogl →
      gs.Goes (model PySem.Challenge.rw_pg0014_01.row.prog w) A.in1 (gR C fin) (gY h₀ C gl fin T) (T.length - j) (.send .none) s'')

section
variable {w : World} {A : Around} {mean : ExcName → Option Value} {mg mb : Str → Option Value} {E : Value → Shared → Prop} {s : Shared} {h₀ : Heap} {C gl g : Nat} {og ogl : Obj} {T : List Int} {fin : Bool} {j : Nat} {gn : List (Addr × Obj)}

theorem next_item {Q : Option Value → Shared → Prop} (X : Amb w mean mg mb h₀) (G : GAt w A h₀ C gl g og ogl T fin j gn s.gens) (hj : j < T.length) (hgl : gl < C)
    (hs : h₀.StaysIn s.heap) (hn : ∀ p ∈ gn, s.heap.get? p.1 = some p.2) (hl : s.heap.get? gl = some ogl) (hh : A.handled = none) (hroom : A.depth < recursionLimit)
    (hQ : ∀ t h' tk gens' gn', (∀ (b : Nat) o, b < C → s.heap.get? b = some o → h'.get? b = some o) → GAt w A h₀ C gl g og ogl T fin (j + 1) gn' gens' → (∀ p ∈ gn', h'.get? p.1 = some p.2) →
      ((∀ x ∈ s.gens, x.bare = true) → ∀ x ∈ gens', x.bare = true) → Q (some (.int (T.getD j 0) t)) { s with heap := h', toks := tk, gens := gens' }) :
    wpAny (model PySem.Challenge.rw_pg0014_01.row.prog w) A (pyNext (.ref (C + 1))) Q E s := by
  obtain ⟨hig, hmem, hhigh, gs, hgs, hgo⟩ := G
  obtain ⟨m, hm⟩ : ∃ m, T.length - j = m + 1 := ⟨T.length - j - 1, by omega⟩
  rw [hm] at hgo
  refine pyNext_gen hh (X.T.nolimit.keeps hs) hroom (hig _ (hn _ hmem)) hgs (hgo (.inl hj) (s.setGen g .running) hs hn hl) (fun v s₁ gs' hb hv => ?_) (fun r s₁ hr => ?_)
  · obtain ⟨⟨t, rfl⟩, ⟨h', tk, rfl, hk⟩, I, hI, ⟨oi, hoi⟩, ⟨oc, hoc⟩, hgo'⟩ := hv
    have hv : T.getD (T.length - 1 - (m + 1 - 1)) 0 = T.getD j 0 := by
      have e : T.length - 1 - (m + 1 - 1) = j := by omega
      rw [e]
    rw [hv]
    have hog' : h'.get? (C + 1) = some og := hk _ _ (.inr rfl) (hn _ hmem)
    have hgl' : h'.get? gl = some ogl := hk _ _ (.inl hgl) hl
    refine hQ t h' tk _ [(C, oc), (C + 1, og), (I, oi)] (fun b o hb e => hk b o (.inl hb) e) ⟨hig, by simp, ?_, gs', setGen_self (gs := .running) (setGen_self hgs), fun q s'' a1 a2 a3 => ?_⟩ ?_ ?_
    · intro p hp
      rcases List.mem_cons.mp hp with rfl | hp
      · exact Nat.le_refl _
      rcases List.mem_cons.mp hp with rfl | hp
      · exact Nat.le_succ _
      rw [List.mem_singleton.mp hp]
      show C ≤ I
      omega
    · have e : T.length - (j + 1) = m := by omega
      rw [e]
      refine hgo' (q.imp (fun q => by omega) id) s'' a1 fun b hb o e => ?_
      rcases hb with rfl | rfl | rfl | rfl
      · have e' : h'.get? b = some o := e
        rw [hoc] at e'
        cases e'
        exact a2 (b, oc) (by simp)
      · have e' : h'.get? (C + 1) = some o := e
        rw [hog'] at e'
        cases e'
        exact a2 (C + 1, og) (by simp)
      · have e' : h'.get? b = some o := e
        rw [hoi] at e'
        cases e'
        exact a2 (b, oi) (by simp)
      · have e' : h'.get? b = some o := e
        rw [hgl'] at e'
        cases e'
        exact a3
    · intro p hp
      rcases List.mem_cons.mp hp with rfl | hp
      · exact hoc
      rcases List.mem_cons.mp hp with rfl | hp
      · exact hog'
      rw [List.mem_singleton.mp hp]
      exact hoi
    · exact (GenOnlyQ.of ((GenOnly.setGen s g .running).trans (GenOnly.setGen _ g gs')) (setGen_self (gs := .running) (setGen_self hgs)) hb).bare
  · obtain ⟨_, h0, _⟩ := hr
    cases h0

theorem next_done {Q : Option Value → Shared → Prop} (X : Amb w mean mg mb h₀) (hC : h₀.objs.size ≤ C) (G : GAt w A h₀ C gl g og ogl T true T.length gn s.gens) (hgl : gl < C)
    (hs : h₀.StaysIn s.heap) (hn : ∀ p ∈ gn, s.heap.get? p.1 = some p.2) (hl : s.heap.get? gl = some ogl) (hh : A.handled = none) (hroom : A.depth < recursionLimit)
    (hQ : ∀ h' tk gens', (∀ (b : Nat) o, b < C → s.heap.get? b = some o → h'.get? b = some o) → ((∀ x ∈ s.gens, x.bare = true) → ∀ x ∈ gens', x.bare = true) → Q none { s with heap := h', toks := tk, gens := gens' }) :
    wpAny (model PySem.Challenge.rw_pg0014_01.row.prog w) A (pyNext (.ref (C + 1))) Q E s := by
  obtain ⟨hig, hmem, hhigh, gs, hgs, hgo⟩ := G
  rw [Nat.sub_self] at hgo
  refine pyNext_gen hh (X.T.nolimit.keeps hs) hroom (hig _ (hn _ hmem)) hgs (hgo (.inr rfl) (s.setGen g .running) hs hn hl) (fun v s₁ gs' hb hv => ?_) (fun r s₁ hr => ?_)
  · obtain ⟨_, ⟨h', tk, rfl, hk⟩, I, _, _, _, hgo'⟩ := hv
    exact (hgo' (.inr rfl) _ (fun b o e => hk b o (.inl (Nat.lt_of_lt_of_le (Heap.lt_size e) hC)) (hs b o e)) fun _ _ _ e => e).elim
  · obtain ⟨_, _, rfl, h₁, tk₁, rfl, hk⟩ := hr
    refine ⟨rfl, fun h' hk' => ?_⟩
    exact hQ h' _ _ (fun b o hb e => hk' _ _ (hk b o (.inl hb) e)) (GenOnlyQ.of ((GenOnly.setGen s g .running).trans (GenOnly.setGen _ g .finished)) (setGen_self (gs := .running) (setGen_self hgs)) rfl).bare

theorem GAt.fresh {vs : List Value} {sz tail : List Int} {h₁ : Heap} (X : Amb w mean mg mb h₀) (hC : h₀.objs.size ≤ C) (hgl : gl < C) (hh : A.handled = none)
    (hi : IntsAre vs (sz ++ tail)) (hsz : ∀ x ∈ sz, 1 ≤ x ∧ x ≤ 4) (hsays : Tells3 sz tail T fin) (hgo : h₁.get? (C + 1) = some og) (hgen : h₁.IsGen (C + 1) g)
    (hns : h₁.Ns C (fun y => if y = Str.ofString "grouping" then some (.ref gl) else none)) (hl : h₁.IsList gl vs.toArray) (hogl : h₁.get? gl = some ogl) {gens : Array GenState} (hgens : gens[g]? = some (.fresh (.func gBody (gEnv gScope C)))) :
    ∃ oc, h₁.get? C = some oc ∧ GAt w A h₀ C gl g og ogl T fin 0 [(C, oc), (C + 1, og)] gens := by
  obtain ⟨oc, es, ep, hoc, r⟩ := id hns
  refine ⟨oc, hoc, ⟨fun h e => ?_, by simp, ?_, _, hgens, fun _ s'' a1 a2 a3 => ?_⟩⟩
  · obtain ⟨o, nm, qn, ho, rest⟩ := hgen
    rw [hgo] at ho
    cases ho
    exact ⟨_, nm, qn, e, rest⟩
  · intro p hp
    rcases List.mem_cons.mp hp with rfl | hp
    · exact Nat.le_refl _
    rw [List.mem_singleton.mp hp]
    exact Nat.le_succ _
  · refine ⟨rfl, gen_start (A := A.in1) X hC hgl hh hi hsz hsays gScope rfl gBody rfl s'' a1 (a2 (C + 1, og) (by simp)) ⟨fun _ => none, oc, es, ep, a2 (C, oc) (by simp), r⟩ ?_⟩
    obtain ⟨o, ho, rest⟩ := hl
    rw [hogl] at ho
    cases ho
    exact ⟨_, a3, rest⟩
end
end Mine

end PartGen4
-- part CompR
section PartCompR
open PySem PySem.W PySem.Calls PyProof.Rows
namespace Mine

section
variable {prog : Program} {w : World} {A : Around} {E : Value → Shared → Prop} {env : Env}

/-- what an element of a comprehension owes: its frame C stays a frame, all below C stays, the user's word holds of one more -/
def EltDone (C : Nat) (s₃ : Shared) (J : Heap → Prop) (s₅ : Shared) : Prop := ∃ h₅ tk₅ m₅, s₅ = { s₃ with heap := h₅, toks := tk₅ } ∧ Fr (trunc C s₃.heap) C h₅ m₅ ∧ J h₅

theorem comp_core {elt iter : Expr} {x : Str} {px : Pos} {ifs : List Expr} {scope : Scope} {cl : List (Str × Addr)} {pos : Pos} {s₂ : Shared} {I : Addr} {fp wr : List Addr} {n D : Nat} {P : Nat → Value → Prop}
    {St : Nat → Heap → Prop} (W : Walks prog w A I fp wr n P St) (hn1 : n ≤ 1000) {RR : Value → Addr → Result → Shared → Prop} (hD : D = s₂.heap.objs.size)
    (hcell : ∀ y ∈ scope.names, y.2 ≠ .cell) (hkind : scope.kind = .function) (hx : scope.names.lookup x = some .local) (hst : St 0 s₂.heap) (hfp : ∀ b ∈ fp, (b : Nat) < D)
    (Inv : Nat → List Value → Heap → Prop)
    (hstab : ∀ i ys h h', Inv i ys h → (∀ (b : Nat) o, b ≠ D → b ≠ D + 1 → b ∉ wr → h.get? b = some o → h'.get? b = some o) → Inv i ys h')
    (h0 : ∀ h, Inv 0 [] h) (hlen : ∀ i ys h, Inv i ys h → ys.length ≤ i)
    (helt : ∀ i v s₃ m₃ ys, i < n → P i v → (∀ (b : Nat) o, b < D → b ∉ wr → s₂.heap.get? b = some o → s₃.heap.get? b = some o) → (∃ h tk, s₃ = { s₂ with heap := h, toks := tk }) →
      Fr (trunc (D + 1) s₃.heap) (D + 1) s₃.heap m₃ → m₃ x = some v → Inv i ys s₃.heap →
      wpAny (model prog w) A (forIn ifs true fun c r => if r = true then do let ok ← isTrue c (compEnvC scope cl (D + 1) env) (eval c (compEnvC scope cl (D + 1) env)); pure (ForInStep.yield ok) else pure (ForInStep.yield r))
        (fun ok s₄ => if ok = true then wpAny (model prog w) A (eval elt (compEnvC scope cl (D + 1) env)) (fun y s₅ => EltDone (D + 1) s₃ (Inv (i + 1) (ys ++ [y])) s₅) (fun _ _ => False) s₄
          else EltDone (D + 1) s₃ (Inv (i + 1) ys) s₄) (fun _ _ => False) s₃)
    (hRR : ∀ h' tk m' ys, h'.Ns (D + 1) m' → h'.PlainList D ys.toArray → Inv n ys h' → (∀ (b : Nat) o, b < D → b ∉ wr → s₂.heap.get? b = some o → h'.get? b = some o) → RR (.ref D) (D + 1) (.ok .next) { s₂ with heap := h', toks := tk }) :
    wpAny (model prog w) A (newList []) (fun acc s₃ => wpAny (model prog w) A (newFunctionEnv scope env.globals cl [] env.qual none .none (some env)) (fun cenv s₄ =>
      codeAny (model prog w) A (.compStart (.ListComp elt [⟨.Name x px, iter, ifs, 0⟩] scope pos) 0 (.ref I) acc { cenv with scope := relabel scope env }) (RR acc cenv.locals) s₄) E s₃) E s₂ := by
  refine wpAny_newObj_type (wpAny_newFunctionEnv hcell (by intro y hy; simp at hy) (fun h₁ hns₁ hsb₁ => ?_) hkind)
  dsimp only at hns₁ hsb₁ ⊢
  generalize hH2 : s₂.heap.push { cls := .type "list", dict := none, data := .seq ([] : List Value).toArray } = H2 at hns₁ hsb₁ ⊢
  have hC : H2.objs.size = D + 1 := by rw [← hH2, Heap.size_push, hD]
  rw [hC] at hns₁ hsb₁ ⊢
  rw [← hD]
  have old : ∀ (b : Nat) o, b < D → s₂.heap.get? b = some o → h₁.get? b = some o := fun b o hb e => hsb₁.extBut b o (by show b ≠ D + 1; omega) (Heap.get?_push_of_some _ (hH2 ▸ Heap.get?_push_of_some _ e))
  have hacc : h₁.PlainList D ([] : List Value).toArray := ⟨_, hsb₁.extBut D _ (by show D ≠ D + 1; omega) (Heap.get?_push_of_some _ (hH2 ▸ hD ▸ Heap.get?_push_size _ rfl))⟩
  have hDf : D ∉ fp := fun hm => Nat.lt_irrefl _ (hfp _ hm)
  have hCf : D + 1 ∉ fp := fun hm => by have : D + 1 < D := hfp _ hm; omega
  have hDw : D ∉ wr := fun h => hDf (W.sub _ h)
  have hCw : D + 1 ∉ wr := fun h => hCf (W.sub _ h)
  have hst₁ : St 0 h₁ := W.frame _ _ _ hst fun b hb o e => old b o (hfp b hb) e
  have loop : ∀ s₃ : Shared, s₃ = { s₂ with heap := h₁, toks := s₂.toks + ([] : List (Str × Value)).length } →
      codeAny (model prog w) A (.compLoop (.ListComp elt [⟨.Name x px, iter, ifs, 0⟩] scope pos) 0 (.ref I) (.ref D) (compEnvC scope cl (D + 1) env)) (RR (.ref D) (D + 1)) s₃ := by
    rintro s₃ rfl
    refine codeAny_compLoop_tests (fun k s => ∃ i ys h tk m, s = { s₂ with heap := h, toks := tk } ∧ i + k = n + 1 ∧ i ≤ n ∧ St i h ∧ h.Ns (D + 1) m ∧ h.PlainList D ys.toArray ∧ Inv i ys h ∧
        (∀ (b : Nat) o, b < D → b ∉ wr → s₂.heap.get? b = some o → h.get? b = some o)) ?_ (n + 1) ⟨0, [], h₁, _, _, rfl, Nat.zero_add _, Nat.zero_le _, hst₁, hns₁, hacc, h0 _, fun b o hb _ e => old b o hb e⟩
    rintro k s ⟨i, ys, h, tk, m, rfl, hik, hin, hst', hns', hpl, hI, hk⟩
    by_cases hlt : i < n
    · refine W.item i _ _ _ hlt hst' fun v h₂ tk₂ hPv hst₂ hk₂ => ?_
      refine wpAny_assign_Name (wpAny_storeName_local (lookup_relabel_local hx) (hns'.at' fun o e => hk₂ _ o hCw e) (fun h₃ hn₃ hs₃ => ?_) (by simp [compEnvC, relabel, hkind]))
      have up₃ : ∀ (b : Nat) o, b ≠ D + 1 → b ∉ wr → h.get? b = some o → h₃.get? b = some o := fun b o hb hw e => hs₃.extBut b o hb (hk₂ b o hw e)
      have hst₃ : St (i + 1) h₃ := W.frame _ _ _ hst₂ fun b hb o e => hs₃.extBut b o (fun q => by have q' : b = D + 1 := q; rw [q'] at hb; exact hCf hb) e
      have hI₃ : Inv i ys h₃ := hstab _ _ _ _ hI fun b o _ h2 h3 e => up₃ b o h2 h3 e
      have F₃ : Fr (trunc (D + 1) h₃) (D + 1) h₃ (fun y => if y = x then some v else m y) := ⟨hn₃, fun b o e => (trunc_some e).2, trunc_size⟩
      have fin : ∀ {J : Heap → Prop} {s₄ : Shared}, EltDone (D + 1) { s₂ with heap := h₃, toks := tk₂ + 1 } J s₄ → ∃ h₄ tk₄ m₄, s₄ = { s₂ with heap := h₄, toks := tk₄ } ∧ St (i + 1) h₄ ∧ h₄.Ns (D + 1) m₄ ∧ h₄.PlainList D ys.toArray ∧ J h₄ ∧
          (∀ (b : Nat) o, b < D → b ∉ wr → s₂.heap.get? b = some o → h₄.get? b = some o) := by
        rintro J s₄ ⟨h₄, tk₄, m₄, rfl, F₄, hJ⟩
        have lo : ∀ (b : Nat) o, b < D + 1 → h₃.get? b = some o → h₄.get? b = some o := fun b o hb e => F₄.keep b o (by rw [trunc_get hb]; exact e)
        exact ⟨h₄, tk₄, m₄, rfl, W.frame _ _ _ hst₃ fun b hb o e => lo b o (Nat.lt_succ_of_lt (hfp b hb)) e, F₄.ns, hpl.at fun o e => lo D o (Nat.lt_succ_self _) (up₃ D o (Nat.ne_of_lt (Nat.lt_succ_self _)) hDw e), hJ,
          fun b o hb hw e => lo b o (Nat.lt_succ_of_lt hb) (up₃ b o (by omega) hw (hk b o hb hw e))⟩
      refine wpAny_mono (helt i v { s₂ with heap := h₃, toks := tk₂ + 1 } _ ys hlt hPv (fun b o hb hw e => up₃ b o (by omega) hw (hk b o hb hw e)) ⟨_, _, rfl⟩ F₃ (if_pos rfl) hI₃) (fun ok s₄ h₄ => ?_) fun _ _ f => f.elim
      cases ok with
      | false =>
        simp only [Bool.false_eq_true, if_false] at h₄ ⊢
        obtain ⟨h₅, tk₅, m₅, rfl, a1, a2, a3, a4, a5⟩ := fin h₄
        exact ⟨k - 1, by omega, i + 1, ys, h₅, tk₅, m₅, rfl, by omega, hlt, a1, a2, a3, a4, a5⟩
      | true =>
        simp only [if_true] at h₄ ⊢
        refine wpAny_mono h₄ (fun y s₅ h₅ => ?_) fun _ _ f => f.elim
        obtain ⟨h₆, tk₆, m₆, rfl, a1, a2, a3, a4, a5⟩ := fin h₅
        have hys : ys.toArray.size ≤ sizeLine := by
          have e := hlen _ _ _ hI
          rw [List.size_toArray, show sizeLine = 16777216 from rfl]; omega
        refine wpAny_list_append_plain (hsz := hys) a3 fun h₇ hl₇ hs₇ => ?_
        refine ⟨k - 1, by omega, i + 1, ys ++ [y], h₇, tk₆, m₆, rfl, by omega, hlt, W.frame _ _ _ a1 fun b hb o e => hs₇.extBut b o (fun q => hDf (q ▸ hb)) e, a2.sameBut hs₇ (by show D + 1 ≠ D; omega), by simpa using hl₇,
          hstab _ _ _ _ a4 fun b o h1 _ _ e => hs₇.extBut b o h1 e, fun b o hb hw e => hs₇.extBut b o (by show b ≠ D; omega) (a5 b o hb hw e)⟩
    · obtain rfl : i = n := by omega
      refine W.done _ _ _ hst' fun h₂ tk₂ hk₂ => ?_
      exact hRR h₂ tk₂ m ys (hns'.at' fun o e => hk₂ _ o hCw e) (hpl.at fun o e => hk₂ _ o hDw e) (hstab _ _ _ _ hI fun b o _ _ h3 e => hk₂ b o h3 e) fun b o hb hw e => hk₂ b o hw (hk b o hb hw e)
  exact codeAny_compStart_list (loop _ rfl) (W.self 0 _ _ _ hst₁ (loop _ rfl))
end
end Mine

end PartCompR
-- part CompS
section PartCompS
open PySem PySem.W PySem.Calls PyProof.Rows
namespace Mine

section
variable {prog : Program} {w : World} {A : Around} {E : Value → Shared → Prop} {env : Env} {elt iter : Expr} {x : Str} {px : Pos} {ifs : List Expr} {scope : Scope} {cl : List (Str × Addr)} {pos : Pos}

/-- what is left of a comprehension once its source stands -/
def CompGoal (prog : Program) (w : World) (A : Around) (E : Value → Shared → Prop) (env : Env) (elt iter : Expr) (x : Str) (px : Pos) (ifs : List Expr) (scope : Scope) (cl : List (Str × Addr)) (pos : Pos) (use : Option (Value → Sem Unit)) (Q : Value → Shared → Prop) (xv : Value) (s₁ : Shared) : Prop :=
  wpAny (model prog w) A (pyIter xv) (fun it s₂ => wpAny (model prog w) A (newList []) (fun acc s₃ => wpAny (model prog w) A (newFunctionEnv scope env.globals cl [] env.qual none .none (some env)) (fun cenv s₄ =>
      codeAny (model prog w) A (.compStart (.ListComp elt [⟨.Name x px, iter, ifs, 0⟩] scope pos) 0 it acc { cenv with scope := relabel scope env }) (compPost (model prog w) A E use Q acc cenv.locals) s₄) E s₃) E s₂) E s₁

theorem comp_eval {s : Shared} {Q : Value → Shared → Prop} (hclos : closureFor scope env = pure cl) (hkind : scope.kind = .function)
    (hnames : ∀ y ∈ scope.names, y.2 = .local → scope.names.lookup y.1 = some .local)
    (h : wpAny (model prog w) A (eval iter env) (CompGoal prog w A E env elt iter x px ifs scope cl pos none Q) E s)
    (hs : ∀ x, foldedSetIterable iter env x = pure x := by intro _; rfl) :
    wpAny (model prog w) A (eval (.ListComp elt [⟨.Name x px, iter, ifs, 0⟩] scope pos) env) Q E s := by
  rw [eval_ListComp]
  exact wpAny_comprehension_free (use := none) rfl hs hclos hkind hnames h

theorem comp_assign {s : Shared} {y : Str} {py spos : Pos} {Q : Flow → Shared → Prop} (hsw : swapsWith (.ListComp elt [⟨.Name x px, iter, ifs, 0⟩] scope pos) (some (.Name y py)) spos.line env = pure true)
    (hclos : closureFor scope env = pure cl) (hkind : scope.kind = .function)
    (hnames : ∀ y ∈ scope.names, y.2 = .local → scope.names.lookup y.1 = some .local)
    (h : wpAny (model prog w) A (eval iter env) (CompGoal prog w A E env elt iter x px ifs scope cl pos (some (assign (.Name y py) env)) (fun _ s' => Q .next s')) E s)
    (hs : ∀ x, foldedSetIterable iter env x = pure x := by intro _; rfl) :
    wpAny (model prog w) A (exec (.Assign [.Name y py] (.ListComp elt [⟨.Name x px, iter, ifs, 0⟩] scope pos) spos) env) Q E s := by
  rw [exec_Assign_Name_used _ _ _ _ hsw]
  refine wpAny_bind (wpAny_standAt (wpAny_bind ?_))
  show wpAny _ A (do let _ ← comprehension (.ListComp elt [⟨.Name x px, iter, ifs, 0⟩] scope pos) scope env _ (newList []) false (eval iter env) (some (assign (.Name y py) env))) _ _ s
  exact wpAny_bind (wpAny_mono (wpAny_comprehension_free (use := some (assign (.Name y py) env)) (Q := fun _ s' => Q .next s') rfl hs hclos hkind hnames h) (fun _ s' hq => wpAny_pure (wpAny_pure hq)) fun _ _ e => e)

/-- the user's word over a comprehension: what holds of the items made so far -/
structure CInv (D : Nat) (w₁ : List Addr) (Inv : Nat → List Value → Heap → Prop) : Prop where
  stab : ∀ i ys h h', Inv i ys h → (∀ (b : Nat) o, b ≠ D → b ≠ D + 1 → b ∉ w₁ → h.get? b = some o → h'.get? b = some o) → Inv i ys h'
  start : ∀ h, Inv 0 [] h
  len : ∀ i ys h, Inv i ys h → ys.length ≤ i

theorem comp_list {s₁ : Shared} {Q : Value → Shared → Prop} {a : Nat} {vs : List Value} {D : Nat} (hh : A.handled = none) (hl : s₁.heap.IsList a vs.toArray) (hn : vs.length ≤ 1000) (hD : D = s₁.heap.objs.size + 1)
    (hcell : ∀ y ∈ scope.names, y.2 ≠ .cell) (hkind : scope.kind = .function) (hx : scope.names.lookup x = some .local) (Inv : Nat → List Value → Heap → Prop) (hI : CInv D [s₁.heap.objs.size] Inv)
    (helt : ∀ i v s₃ m₃ ys, vs[i]? = some v → (∀ b o, s₁.heap.get? b = some o → s₃.heap.get? b = some o) → (∃ h tk, s₃ = { s₁ with heap := h, toks := tk }) →
      Fr (trunc (D + 1) s₃.heap) (D + 1) s₃.heap m₃ → m₃ x = some v → Inv i ys s₃.heap →
      wpAny (model prog w) A (forIn ifs true fun c r => if r = true then do let ok ← isTrue c (compEnvC scope cl (D + 1) env) (eval c (compEnvC scope cl (D + 1) env)); pure (ForInStep.yield ok) else pure (ForInStep.yield r))
        (fun ok s₄ => if ok = true then wpAny (model prog w) A (eval elt (compEnvC scope cl (D + 1) env)) (fun y s₅ => EltDone (D + 1) s₃ (Inv (i + 1) (ys ++ [y])) s₅) (fun _ _ => False) s₄
          else EltDone (D + 1) s₃ (Inv (i + 1) ys) s₄) (fun _ _ => False) s₃)
    (hQ : ∀ h' tk ys, h'.PlainList D ys.toArray → Inv vs.length ys h' → (∀ b o, s₁.heap.get? b = some o → h'.get? b = some o) → Q (.ref D) { s₁ with heap := h', toks := tk }) :
    CompGoal prog w A E env elt iter x px ifs scope cl pos none Q (.ref a) s₁ := by
  have ha : a < s₁.heap.objs.size := by obtain ⟨_, e, _⟩ := id hl; exact Heap.lt_size e
  refine wpAny_pyIter_list hl ?_
  have nI : ∀ b o, s₁.heap.get? b = some o → b ∉ [s₁.heap.objs.size] := fun b o e hm => by
    have e1 : b = s₁.heap.objs.size := List.mem_singleton.mp hm
    exact Nat.lt_irrefl _ (e1 ▸ Heap.lt_size e)
  have W := Walks.list (prog := prog) (w := w) hh s₁.heap.objs.size a (Nat.ne_of_lt ha) vs.toArray
  rw [List.size_toArray] at W
  refine comp_core (D := D) (n := vs.length) (RR := fun acc C => compPost (model prog w) A E none Q acc C) W hn (by rw [hD, Heap.size_push]) hcell hkind hx ⟨⟨_, Heap.get?_push_size _ rfl, rfl, rfl⟩, hl.push _⟩ ?_ Inv hI.stab hI.start hI.len ?_ ?_
  · intro b hb
    rcases List.mem_cons.mp hb with rfl | hb
    · rw [hD]; exact Nat.lt_succ_self _
    · rw [List.mem_singleton.mp hb, hD]; exact Nat.lt_succ_of_lt ha
  · rintro i v s₃ m₃ ys hi hP hk ⟨h, tk, rfl⟩ F₃ hm hInv
    exact helt i v _ m₃ ys (by simpa using hP) (fun b o e => hk b o (by rw [hD]; exact Nat.lt_succ_of_lt (Heap.lt_size e)) (nI b o e) (Heap.get?_push_of_some _ e)) ⟨_, _, rfl⟩ F₃ hm hInv
  · intro h' tk m' ys hns hpl hInv hk
    refine ⟨m', hns, fun h'' hs'' => ?_⟩
    refine hQ h'' tk ys (hpl.extBut hs''.extBut (by show D ≠ D + 1; omega)) (hI.stab _ _ _ _ hInv fun b o _ h2 _ e => hs''.extBut b o h2 e) fun b o e => hs''.extBut b o ?_ (hk b o (by rw [hD]; exact Nat.lt_succ_of_lt (Heap.lt_size e)) (nI b o e) (Heap.get?_push_of_some _ e))
    have hb := ltN (Heap.lt_size e)
    intro q
    have q' : @Eq Nat b (D + 1) := q
    omega

/-- the same over a range from nought -/
theorem comp_range_core {s₁ : Shared} {Q : Value → Shared → Prop} {r : Nat} {n : Nat} {t₀ u₀ v₀ : Tok} {D : Nat} {use : Option (Value → Sem Unit)} (hh : A.handled = none) (hr : IsRange s₁.heap r 0 (n : Int) 1 t₀ u₀ v₀) (hn : n ≤ 1000) (hD : D = s₁.heap.objs.size + 1)
    (hcell : ∀ y ∈ scope.names, y.2 ≠ .cell) (hkind : scope.kind = .function) (hx : scope.names.lookup x = some .local) (Inv : Nat → List Value → Heap → Prop) (hI : CInv D [s₁.heap.objs.size] Inv)
    (helt : ∀ i t s₃ m₃ ys, i < n → (∀ b o, s₁.heap.get? b = some o → s₃.heap.get? b = some o) → (∃ h tk, s₃ = { s₁ with heap := h, toks := tk }) →
      Fr (trunc (D + 1) s₃.heap) (D + 1) s₃.heap m₃ → m₃ x = some (.int (i : Int) t) → Inv i ys s₃.heap →
      wpAny (model prog w) A (forIn ifs true fun c r => if r = true then do let ok ← isTrue c (compEnvC scope cl (D + 1) env) (eval c (compEnvC scope cl (D + 1) env)); pure (ForInStep.yield ok) else pure (ForInStep.yield r))
        (fun ok s₄ => if ok = true then wpAny (model prog w) A (eval elt (compEnvC scope cl (D + 1) env)) (fun y s₅ => EltDone (D + 1) s₃ (Inv (i + 1) (ys ++ [y])) s₅) (fun _ _ => False) s₄
          else EltDone (D + 1) s₃ (Inv (i + 1) ys) s₄) (fun _ _ => False) s₃)
    (hQ : ∀ h' tk m' ys, h'.Ns (D + 1) m' → h'.PlainList D ys.toArray → Inv n ys h' → (∀ b o, s₁.heap.get? b = some o → h'.get? b = some o) → compPost (model prog w) A E use Q (.ref D) (D + 1) (.ok .next) { s₁ with heap := h', toks := tk }) :
    CompGoal prog w A E env elt iter x px ifs scope cl pos use Q (.ref r) s₁ := by
  refine wpAny_pyIter_range hr (small_one (by omega) (by omega) (by omega) (by omega)) ?_
  have nI : ∀ b o, s₁.heap.get? b = some o → b ∉ [s₁.heap.objs.size] := fun b o e hm => by
    have e1 : b = s₁.heap.objs.size := List.mem_singleton.mp hm
    exact Nat.lt_irrefl _ (e1 ▸ Heap.lt_size e)
  have W := Walks.range (prog := prog) (w := w) hh s₁.heap.objs.size 0 1 n
  refine comp_core (D := D) (n := n) (RR := fun acc C => compPost (model prog w) A E use Q acc C) W hn (by rw [hD, Heap.size_push]) hcell hkind hx ?_ ?_ Inv hI.stab hI.start hI.len ?_ ?_
  · show IsRangeIter _ _ _ _ _
    have e : Builtin.Range.rangeSize 0 (n : Int) 1 = (n : Int) := by rw [rangeSize_one]; split <;> omega
    rw [e]
    simpa using Heap.get?_push_size _ rfl
  · intro b hb
    rw [List.mem_singleton.mp hb, hD]; exact Nat.lt_succ_self _
  · rintro i v s₃ m₃ ys hi ⟨t, rfl⟩ hk ⟨h, tk, rfl⟩ F₃ hm hInv
    refine helt i t _ m₃ ys hi (fun b o e => hk b o (by rw [hD]; exact Nat.lt_succ_of_lt (Heap.lt_size e)) (nI b o e) (Heap.get?_push_of_some _ e)) ⟨_, _, rfl⟩ F₃ ?_ hInv
    rw [hm]
    congr 2
    omega
  · intro h' tk m' ys hns hpl hInv hk
    exact hQ h' tk m' ys hns hpl hInv fun b o e => hk b o (by rw [hD]; exact Nat.lt_succ_of_lt (Heap.lt_size e)) (nI b o e) (Heap.get?_push_of_some _ e)
end
end Mine

end PartCompS
-- part CompT
section PartCompT
open PySem PySem.W PySem.Calls PyProof.Rows
namespace Mine

section
variable {prog : Program} {w : World} {A : Around} {E : Value → Shared → Prop} {env : Env} {elt iter : Expr} {x : Str} {px : Pos} {ifs : List Expr} {scope : Scope} {cl : List (Str × Addr)} {pos : Pos}

/-- a comprehension over a range from anywhere -/
theorem comp_range_at {s₁ : Shared} {Q : Value → Shared → Prop} {r : Nat} {a b : Int} {n : Nat} {t₀ u₀ v₀ : Tok} {D : Nat} {use : Option (Value → Sem Unit)} (hh : A.handled = none) (hr : IsRange s₁.heap r a b 1 t₀ u₀ v₀)
    (ha : 0 ≤ a) (ha' : a ≤ 1000) (hb : 0 ≤ b) (hb' : b ≤ 1000) (hn : n = (b - a).toNat) (hD : D = s₁.heap.objs.size + 1)
    (hcell : ∀ y ∈ scope.names, y.2 ≠ .cell) (hkind : scope.kind = .function) (hx : scope.names.lookup x = some .local) (Inv : Nat → List Value → Heap → Prop) (hI : CInv D [s₁.heap.objs.size] Inv)
    (helt : ∀ i t s₃ m₃ ys, i < n → (∀ b o, s₁.heap.get? b = some o → s₃.heap.get? b = some o) → (∃ h tk, s₃ = { s₁ with heap := h, toks := tk }) →
      Fr (trunc (D + 1) s₃.heap) (D + 1) s₃.heap m₃ → m₃ x = some (.int (a + (i : Int)) t) → Inv i ys s₃.heap →
      wpAny (model prog w) A (forIn ifs true fun c r => if r = true then do let ok ← isTrue c (compEnvC scope cl (D + 1) env) (eval c (compEnvC scope cl (D + 1) env)); pure (ForInStep.yield ok) else pure (ForInStep.yield r))
        (fun ok s₄ => if ok = true then wpAny (model prog w) A (eval elt (compEnvC scope cl (D + 1) env)) (fun y s₅ => EltDone (D + 1) s₃ (Inv (i + 1) (ys ++ [y])) s₅) (fun _ _ => False) s₄
          else EltDone (D + 1) s₃ (Inv (i + 1) ys) s₄) (fun _ _ => False) s₃)
    (hQ : ∀ h' tk m' ys, h'.Ns (D + 1) m' → h'.PlainList D ys.toArray → Inv n ys h' → (∀ b o, s₁.heap.get? b = some o → h'.get? b = some o) → compPost (model prog w) A E use Q (.ref D) (D + 1) (.ok .next) { s₁ with heap := h', toks := tk }) :
    CompGoal prog w A E env elt iter x px ifs scope cl pos use Q (.ref r) s₁ := by
  refine wpAny_pyIter_range hr (small_one (by omega) (by omega) (by omega) (by omega)) ?_
  have nI : ∀ b o, s₁.heap.get? b = some o → b ∉ [s₁.heap.objs.size] := fun b o e hm => by
    have e1 : b = s₁.heap.objs.size := List.mem_singleton.mp hm
    exact Nat.lt_irrefl _ (e1 ▸ Heap.lt_size e)
  have W := Walks.range (prog := prog) (w := w) hh s₁.heap.objs.size a 1 n
  refine comp_core (D := D) (n := n) (RR := fun acc C => compPost (model prog w) A E use Q acc C) W (by omega) (by rw [hD, Heap.size_push]) hcell hkind hx ?_ ?_ Inv hI.stab hI.start hI.len ?_ ?_
  · show IsRangeIter _ _ _ _ _
    have e : Builtin.Range.rangeSize a b 1 = (n : Int) := by rw [rangeSize_one]; split <;> omega
    rw [e]
    simpa using Heap.get?_push_size _ rfl
  · intro b hb
    rw [List.mem_singleton.mp hb, hD]; exact Nat.lt_succ_self _
  · rintro i v s₃ m₃ ys hi ⟨t, rfl⟩ hk ⟨h, tk, rfl⟩ F₃ hm hInv
    refine helt i t _ m₃ ys hi (fun b o e => hk b o (by rw [hD]; exact Nat.lt_succ_of_lt (Heap.lt_size e)) (nI b o e) (Heap.get?_push_of_some _ e)) ⟨_, _, rfl⟩ F₃ ?_ hInv
    rw [hm]
    congr 2
    omega
  · intro h' tk m' ys hns hpl hInv hk
    exact hQ h' tk m' ys hns hpl hInv fun b o e => hk b o (by rw [hD]; exact Nat.lt_succ_of_lt (Heap.lt_size e)) (nI b o e) (Heap.get?_push_of_some _ e)

/-- what the value of a comprehension owes when nobody takes it at once -/
theorem post_none {s₁ : Shared} {Q : Value → Shared → Prop} {h' : Heap} {tk D : Nat} {m' : Str → Option Value} {ys : List Value} {Inv : Nat → List Value → Heap → Prop} {w₁ : List Addr} {n : Nat} (hI : CInv D w₁ Inv) (hD : D = s₁.heap.objs.size + 1)
    (hns : h'.Ns (D + 1) m') (hpl : h'.PlainList D ys.toArray) (hInv : Inv n ys h') (hk : ∀ b o, s₁.heap.get? b = some o → h'.get? b = some o)
    (hQ : ∀ h' tk, h'.PlainList D ys.toArray → Inv n ys h' → (∀ b o, s₁.heap.get? b = some o → h'.get? b = some o) → Q (.ref D) { s₁ with heap := h', toks := tk }) :
    compPost (model prog w) A E none Q (.ref D) (D + 1) (.ok .next) { s₁ with heap := h', toks := tk } := by
  refine ⟨m', hns, fun h'' hs'' => ?_⟩
  refine hQ h'' tk (hpl.extBut hs''.extBut (by show D ≠ D + 1; omega)) (hI.stab _ _ _ _ hInv fun b o _ h2 _ e => hs''.extBut b o h2 e) fun b o e => hs''.extBut b o ?_ (hk b o e)
  have hb := ltN (Heap.lt_size e)
  intro q
  have q' : @Eq Nat b (D + 1) := q
  omega

/-- and when a name of the function takes it -/
theorem post_local {s₁ : Shared} {Q : Value → Shared → Prop} {h₀ h' : Heap} {tk D L : Nat} {m m' : Str → Option Value} {ys : List Value} {Inv : Nat → List Value → Heap → Prop} {n : Nat} {news : List (Addr × Obj)} {y : Str} {py : Pos}
    {qn : Str} {lsc : Scope} {fa : Addr} {cd : Value}
    (hI : CInv D [s₁.heap.objs.size, L] Inv) (hD : D = s₁.heap.objs.size + 1) (F : Fr h₀ L s₁.heap m) (N : News h₀ L s₁.heap news)
    (hns : h'.Ns (D + 1) m') (hpl : h'.PlainList D ys.toArray) (hInv : Inv n ys h') (hk : ∀ b o, s₁.heap.get? b = some o → h'.get? b = some o)
    (hy : (envOfC qn lsc L fa cd).kindOf y = some .local) (hkind : lsc.kind = .function)
    (hQ : ∀ h' tk n2, Fr h₀ L h' (fun z => if z = y then some (.ref D) else m z) → News h₀ L h' ((D, W.listOf ys.toArray n2) :: news) → Inv n ys h' → Q .none { s₁ with heap := h', toks := tk }) :
    compPost (model prog w) A E (some (assign (.Name y py) (envOfC qn lsc L fa cd))) Q (.ref D) (D + 1) (.ok .next) { s₁ with heap := h', toks := tk } := by
  obtain ⟨n2, hpl⟩ := hpl
  have F1 : Fr h₀ L h' m := ⟨F.ns.keeps hk, fun b o e => hk _ _ (F.keep b o e), F.above⟩
  have hL : L < s₁.heap.objs.size := F.ns.lt
  have hzs : h₀.objs.size ≤ L := F.above
  have N1 : News h₀ L h' ((D, W.listOf ys.toArray n2) :: news) := fun p hp => by
    rcases List.mem_cons.mp hp with rfl | hp
    · refine ⟨hpl, ?_, ?_⟩
      · intro q
        have q' : @Eq Nat D L := q
        omega
      · cases e : h₀.get? D with
        | none => rfl
        | some o' => have := ltN (Heap.lt_size e); omega
    · exact ⟨hk _ _ (N p hp).1, (N p hp).2⟩
  have hfr : ∀ p ∈ (D, W.listOf ys.toArray n2) :: news, (p.1 : Nat) ≠ D + 1 := fun p hp => by
    rcases List.mem_cons.mp hp with rfl | hp
    · show D ≠ D + 1
      omega
    · have := ltN (Heap.lt_size (N p hp).1)
      omega
  refine wpAny_assign_Name (wpAny_storeName_local hy F1.ns (fun h2 hn2 hs2 => ?_) ?_)
  · refine ⟨m', hns.sameBut hs2 (by intro q; have q' : @Eq Nat (D + 1) L := q; omega), fun h3 hs3 => ?_⟩
    refine hQ h3 _ n2 ⟨hn2.sameBut hs3 (by intro q; have q' : @Eq Nat L (D + 1) := q; omega), fun b o e => hs3.extBut b o ?_ (hs2.extBut b o ?_ (F1.keep b o e)), F.above⟩ (fun p hp => ⟨hs3.extBut _ _ (hfr p hp) (hs2.extBut _ _ (N1 p hp).2.1 (N1 p hp).1), (N1 p hp).2⟩) (hI.stab _ _ _ _ hInv fun b o _ h2 h3' e => hs3.extBut b o h2 (hs2.extBut b o (fun q => h3' (by have q' : b = L := q; rw [q']; simp)) e))
    · have := ltN (Heap.lt_size e)
      intro q
      have q' : @Eq Nat b (D + 1) := q
      omega
    · have := ltN (Heap.lt_size e)
      intro q
      have q' : @Eq Nat b L := q
      omega
  · show (lsc.kind == .class || (lsc.kind == .module && _)) = false
    rw [hkind]
    rfl
theorem CInv.less {D L I : Nat} {Inv : Nat → List Value → Heap → Prop} (h : CInv D [I, L] Inv) : CInv D [I] Inv :=
  ⟨fun i ys h₁ h₂ x k => h.stab i ys h₁ h₂ x fun b o a1 a2 a3 e => k b o a1 a2 (fun hm => a3 (by rw [List.mem_singleton.mp hm]; exact .head _)) e, h.start, h.len⟩
end
end Mine

end PartCompT
-- part Law0
section PartLaw0
open PySem PySem.W PySem.Calls PyProof.Rows
namespace Mine
theorem fill7 (P : Params) : Mine.hd.heap_39 P = Mine.hd.heap_39 P ∧ PySem.Challenge.rw_pg0014_01.foot = PySem.Challenge.rw_pg0014_01.foot := by
  k_fill
  exact ⟨rfl, rfl⟩
noncomputable def lStmt : Stmt := PySem.Challenge.pw_pg0014_01.main.body.getD 11 (.Pass default)
noncomputable def lBody : List Stmt := bodyOf lStmt
noncomputable def lScope : Scope := scopeOf lStmt
abbrev lEnv (sc : Scope) (L : Nat) : Env := envOfC (Str.ofString "law") sc L 61 (.ref 60)
abbrev lA (sc : Scope) (L : Nat) : Around := callerA.deeper (lEnv sc L)


theorem intsAre_step {ys : List Value} {tgt : List Int} {i : Nat} {y : Int} {t : Tok} (h : IntsAre ys (tgt.take i)) (hy : tgt[i]? = some y) : IntsAre (ys ++ [.int y t]) (tgt.take (i + 1)) := by
  rw [List.take_add_one, hy]
  exact ksk_snoc h
theorem intInv (tgt : List Int) (D : Nat) (w₁ : List Addr) : CInv D w₁ (fun i ys _ => IntsAre ys (tgt.take i)) where
  stab := fun _ _ _ _ h _ => h
  start := fun _ => by rw [List.take_zero]; exact .nil
  len := fun i ys _ h => by rw [h.length, List.length_take]; omega

theorem intsAre_get : ∀ {vs : List Value} {ns : List Int} {i : Nat} {v : Value}, IntsAre vs ns → vs[i]? = some v → ∃ n t, v = .int n t ∧ ns[i]? = some n
  | _, _, _, _, .nil, h => by simp at h
  | _, _, 0, _, .cons n t _, h => ⟨n, t, by simpa using h.symm, rfl⟩
  | _, _, i + 1, _, .cons _ _ hr, h => by
    obtain ⟨n, t, e1, e2⟩ := intsAre_get hr (i := i) (by simpa using h)
    exact ⟨n, t, e1, by simpa using e2⟩
theorem amb_trunc {w mean mg mb} {h₀ h2 h3 : Heap} {L C : Nat} {m : Str → Option Value} (X : Amb w mean mg mb h₀) (F : Fr h₀ L h2 m) (hk : ∀ b o, h2.get? b = some o → h3.get? b = some o) (hC : h2.objs.size ≤ C) : Amb w mean mg mb (trunc C h3) :=
  X.keeps fun b o e => by
    have e2 := F.keep b o e
    rw [trunc_get (Nat.lt_of_lt_of_le (Heap.lt_size e2) hC)]
    exact hk b o e2

theorem news_add {h₀ h2 h3 : Heap} {L D : Nat} {m : Str → Option Value} {news : List (Addr × Obj)} {o : Obj} (F : Fr h₀ L h2 m) (N : News h₀ L h2 news) (hk : ∀ b o, h2.get? b = some o → h3.get? b = some o) (hD : h2.objs.size ≤ D) (ho : h3.get? D = some o) :
    News h₀ L h3 ((D, o) :: news) := fun p hp => by
  rcases List.mem_cons.mp hp with rfl | hp
  · refine ⟨ho, ?_, ?_⟩
    · have := ltN F.ns.lt
      intro q
      have q' : @Eq Nat D L := q
      omega
    · cases e : h₀.get? D with
      | none => rfl
      | some o' => have := ltN (Heap.lt_size (F.keep _ _ e)); omega
  · exact News.keepsAll N hk p hp

section
variable {M : Model} {A : Around} {s : Shared} {E : Value → Shared → Prop} {Q : Value → Shared → Prop} {hb : Heap} {C : Nat} {m : Str → Option Value} {sc : Scope} {cl : List (Str × Addr)} {env : Env} {x : Str} {pos : Pos} {v : Value}
theorem cname_L (F : Fr hb C s.heap m) (hv : m x = some v) (h : Q v s) (hk : (compEnvC sc cl C env).scope.kind = .function) (hl : (compEnvC sc cl C env).kindOf x = some .local) (hd : (x == ("__debug__" : Str)) = false) :
    wpAny M A (eval (.Name x pos) (compEnvC sc cl C env)) Q E s := wpAny_Name (wpAny_loadName_local hk hl F.ns hv h) hd
theorem cname_C {c : Addr} (F : Fr hb C s.heap m) (hc : cl.lookup x = some c) (hcell : hb.IsCell c (some v)) (h : Q v s) (hk : (compEnvC sc cl C env).scope.kind = .function) (hl : (compEnvC sc cl C env).kindOf x = some .cell) (hd : (x == ("__debug__" : Str)) = false) :
    wpAny M A (eval (.Name x pos) (compEnvC sc cl C env)) Q E s := wpAny_Name (wpAny_loadName_cell hk hl hc (hcell.keeps F.keep) h) hd
end
local macro_rules | `(tactic| walk_at "eval ListComp") => `(tactic| (k_here; k_dflt (refine comp_eval rfl rfl (by decide) ?_)))
local macro_rules | `(tactic| walk_at "eval Name") => `(tactic| (k_here; (with_reducible show wpAny _ _ (eval _ (compEnvC _ _ _ _)) _ _ _); k_dflt (refine' cname_L ?k1 ?k2 ?_ ?k3 ?k4 ?k5; (case k1 => k_asm); (case k2 => first | assumption | exact rfl); (case k3 => exact rfl); (case k4 => exact rfl); (case k5 => decide))))


/-- the menu of sizes -/
def pick (x : Int) : Int := [1, 2, 1, 3, 1, 1, 4, 1].getD (x.fmod 8).toNat 0

def szOf (ns : List Int) : List Int := [2, 1] ++ (ns.take 6).map pick
def kindOf (ns : List Int) : Int := ((ns.take 60).map fun x : Int => x.fmod 5).sum.fmod 5

section
variable {w : World} {A : Around} {s : Shared} {mean : ExcName → Option Value} {mg mb : Str → Option Value} {Q : Flow → Shared → Prop} {E : Value → Shared → Prop} {h₀ : Heap} {L : Nat} {m : Str → Option Value} {news : List (Addr × Obj)}

theorem law_S0 {l : Nat} {vs : List Value} {ns : List Int} (KX : (Mine.hd.heap_39 w.params).In h₀) (T : Top Mine.hd.view_39 (looseW Mine.hd.view_39 []) mean mg mb h₀) 
    (F : Fr h₀ L s.heap (fun y => if y = Str.ofString "script" then some (.ref l) else m y)) (N : News h₀ L s.heap news) (hl : h₀.IsList l vs.toArray) (hi : IntsAre vs ns) (hlen : ns.length ≤ 63)
    (hQ : ∀ h' tk D (ws : List Value), Fr h₀ L h' (fun y => if y = Str.ofString "sizes" then some (.ref D) else if y = Str.ofString "script" then some (.ref l) else m y) → News h₀ L h' ((D, W.listOf ws.toArray 0) :: news) →
      IntsAre ws (szOf ns) → Q .next { s with heap := h', toks := tk })
    (sc : Scope) (hsc : sc = lScope) (st : Stmt) (hst : st = lBody.getD 0 (.Pass default)) :
    wpAny (model PySem.Challenge.rw_pg0014_01.row.prog w) (lA sc L) (exec st (lEnv sc L)) Q E s := by
  conv at hsc => rhs; whnf
  conv at hst => rhs; whnf
  subst hsc hst
  k_steps
  rename_i l' h1 l1 D ws h2 F' N' hI hC hL l2
  have hwl : ws.length ≤ 6 := by rw [hI.length, hC]; omega
  refine comp_list (D := h2.objs.size + 1) rfl (News.get N' (List.mem_cons_self ..) |> fun e => ⟨_, e, rfl, _, rfl⟩) (by omega) rfl (by decide) rfl rfl (fun i ys _ => IntsAre ys (((ns.take 6).map pick).take i)) (intInv _ _ _) ?_ ?_
  · rintro i v s₃ m₃ ys hv hk ⟨h3, tk3, rfl⟩ F₃ hm hInv
    obtain ⟨KX₃, T₃⟩ := amb_trunc (C := h2.objs.size + 1 + 1) ⟨KX, T⟩ F' hk (by omega)
    obtain ⟨x, t, rfl, hx⟩ := intsAre_get hI hv
    clear F' N'
    have N₃ : News (trunc (h2.objs.size + 1 + 1) h3) (h2.objs.size + 1 + 1) h3 [] := News.nil
    refine wpAny_tests_nil ?_
    rw [if_pos rfl]
    k_steps
    all_goals (
      rename x.fmod 8 = _ => kEq
      refine ⟨_, _, _, rfl, by assumption, intsAre_step hInv ?_⟩
      rw [List.getElem?_map, hx]
      simp [pick, kEq])
  · intro h3 tk3 ys hpl hInv hk
    obtain ⟨nn, hpl⟩ := hpl
    have F3 := Fr.keeps F' hk
    have N3 := news_add F' N' hk (Nat.le_succ _) hpl
    have hfull : IntsAre ys ((ns.take 6).map pick) := by
      rw [List.take_of_length_le (by rw [List.length_map, ← hI.length]; exact Nat.le_refl _)] at hInv
      exact hInv
    clear F' N' hInv
    k_steps
    rename_i F9 N9
    exact hQ _ _ _ _ F9 (cb_drop N9 fun p hp => by
      rcases List.mem_cons.mp hp with rfl | hp
      · exact List.mem_cons_self ..
      · simp [hp]) (by assumption)

theorem law_S1 {l : Nat} {vs : List Value} {ns : List Int} (KX : (Mine.hd.heap_39 w.params).In h₀) (T : Top Mine.hd.view_39 (looseW Mine.hd.view_39 []) mean mg mb h₀)
    {ws : List Value} {D : Nat}
    (F : Fr h₀ L s.heap (fun y => if y = Str.ofString "sizes" then some (.ref D) else if y = Str.ofString "script" then some (.ref l) else m y)) (N : News h₀ L s.heap news) (hl : h₀.IsList l vs.toArray) (hi : IntsAre vs ns) (hlen : ns.length ≤ 63)
    (hQ : ∀ h' tk t, Fr h₀ L h' (fun y => if y = Str.ofString "kind" then some (.int (kindOf ns) t) else if y = Str.ofString "sizes" then some (.ref D) else if y = Str.ofString "script" then some (.ref l) else m y) → News h₀ L h' news →
      Q .next { s with heap := h', toks := tk })
    (sc : Scope) (hsc : sc = lScope) (st : Stmt) (hst : st = lBody.getD 1 (.Pass default)) :
    wpAny (model PySem.Challenge.rw_pg0014_01.row.prog w) (lA sc L) (exec st (lEnv sc L)) Q E s := by
  conv at hsc => rhs; whnf
  conv at hst => rhs; whnf
  subst hsc hst
  k_steps
  rename_i D2 ws2 h2 F' N' l1 hI hC hL
  have hwl : ws2.length ≤ 60 := by rw [hI.length, hC]; omega
  refine comp_list (D := h2.objs.size + 1) rfl (News.get N' (List.mem_cons_self ..) |> fun e => ⟨_, e, rfl, _, rfl⟩) (by omega) rfl (by decide) rfl rfl (fun i ys _ => IntsAre ys (((ns.take 60).map fun x : Int => x.fmod 5).take i)) (intInv _ _ _) ?_ ?_
  · rintro i v s₃ m₃ ys hv hk ⟨h3, tk3, rfl⟩ F₃ hm hInv
    obtain ⟨KX₃, T₃⟩ := amb_trunc (C := h2.objs.size + 1 + 1) ⟨KX, T⟩ F' hk (by omega)
    obtain ⟨x, t, rfl, hx⟩ := intsAre_get hI hv
    clear F' N'
    have N₃ : News (trunc (h2.objs.size + 1 + 1) h3) (h2.objs.size + 1 + 1) h3 [] := News.nil
    refine wpAny_tests_nil ?_
    rw [if_pos rfl]
    k_steps
    refine ⟨_, _, _, rfl, by assumption, intsAre_step hInv ?_⟩
    rw [List.getElem?_map, hx]
    rfl
  · intro h3 tk3 ys hpl hInv hk
    obtain ⟨nn, hpl⟩ := hpl
    have F3 := Fr.keeps F' hk
    have N3 := news_add (D := h2.objs.size + 1) (o := W.listOf ys.toArray nn) F' N' hk (Nat.le_succ _) hpl
    have hfull : IntsAre ys ((ns.take 60).map fun x : Int => x.fmod 5) := by
      rw [List.take_of_length_le (by rw [List.length_map, ← hI.length]; exact Nat.le_refl _)] at hInv
      exact hInv
    have hyl : ys.length ≤ 60 := by rw [hfull.length, List.length_map, ← hI.length]; exact hwl
    clear F' N' hInv
    k_steps
    rename_i F9 N9
    refine hQ _ _ _ F9 (cb_drop N9 fun p hp => ?_)
    simp [hp]

theorem told_rep {sz : List Int} (h : sz ≠ []) : sz ++ (List.replicate 7 (sz.drop (sz.length - 1))).flatten = sz ++ List.replicate 7 (sz.getD (sz.length - 1) 0) := by
  have hl : sz.length - 1 < sz.length := by have := List.length_pos_iff.mpr h; omega
  have e : sz.drop (sz.length - 1) = [sz.getD (sz.length - 1) 0] := by
    rw [List.drop_eq_getElem_cons hl, List.drop_of_length_le (by omega), List.getD_eq_getElem?_getD, List.getElem?_eq_getElem hl]
    rfl
  rw [e]
  rfl

theorem law_S2 (KX : (Mine.hd.heap_39 w.params).In h₀) (T : Top Mine.hd.view_39 (looseW Mine.hd.view_39 []) mean mg mb h₀)
    {ws : List Value} {D : Nat} {kd : Int} {t : Tok} {sz : List Int}
    (F : Fr h₀ L s.heap (fun y => if y = Str.ofString "kind" then some (.int kd t) else if y = Str.ofString "sizes" then some (.ref D) else m y)) (N : News h₀ L s.heap ((D, W.listOf ws.toArray 0) :: news)) (hi : IntsAre ws sz) (hsz : sz ≠ []) (hlen : sz.length ≤ 8)
    (hQ : ∀ h' tk t' (Dt : Nat) (wt : List Value), Fr h₀ L h' (fun y => if y = Str.ofString "told" then some (.ref Dt) else if y = Str.ofString "kind" then some (.int kd t') else if y = Str.ofString "sizes" then some (.ref D) else m y) →
      News h₀ L h' ((Dt, W.listOf wt.toArray 0) :: (D, W.listOf ws.toArray 0) :: news) → IntsAre wt (if kd < 2 then (sz ++ List.replicate 7 (sz.getD (sz.length - 1) 0)).take 9 else sz) →
      Q .next { s with heap := h', toks := tk })
    (sc : Scope) (hsc : sc = lScope) (st : Stmt) (hst : st = lBody.getD 2 (.Pass default)) :
    wpAny (model PySem.Challenge.rw_pg0014_01.row.prog w) (lA sc L) (exec st (lEnv sc L)) Q E s := by
  conv at hsc => rhs; whnf
  conv at hst => rhs; whnf
  subst hsc hst
  k_steps
  · rename_i D' ws' h1 hI hC hL l1 h2 F9 N9
    rename (kd < 2) => hk
    refine hQ _ _ t D' ws' F9 (cb_drop N9 fun p hp => by
      rcases List.mem_cons.mp hp with rfl | hp
      · exact List.mem_cons_self ..
      · rcases List.mem_cons.mp hp with rfl | hp
        · simp
        · simp [hp]) ?_
    rw [if_pos hk, ← told_rep hsz]; exact hI
  · rename_i hk h1 F9 N9
    refine hQ _ _ t D ws F9 (cb_drop N9 fun p hp => by
      rcases List.mem_cons.mp hp with rfl | hp
      · exact List.mem_cons_self ..
      · exact hp) ?_
    rw [if_neg hk]; exact hi

theorem law_S3 (KX : (Mine.hd.heap_39 w.params).In h₀) (T : Top Mine.hd.view_39 (looseW Mine.hd.view_39 []) mean mg mb h₀)
    {o1 : Obj} {v₀ : Option Value} (F : Fr h₀ L s.heap m) (N : News h₀ L s.heap ((L + 1, o1) :: news)) (ho : o1.data = .cell v₀) (hn : ∀ p ∈ news, (p.1 : Nat) ≠ L + 1)
    (hQ : ∀ h' tk (D : Nat) o1', Fr h₀ L h' m → News h₀ L h' ((L + 1, o1') :: (D, W.listOf #[] 0) :: news) → o1'.data = .cell (some (.ref D)) → D ≠ L + 1 → (∀ p ∈ news, (p.1 : Nat) ≠ D) → Q .next { s with heap := h', toks := tk })
    (sc : Scope) (hsc : sc = lScope) (st : Stmt) (hst : st = lBody.getD 3 (.Pass default)) :
    wpAny (model PySem.Challenge.rw_pg0014_01.row.prog w) (lA sc L) (exec st (lEnv sc L)) Q E s := by
  conv at hsc => rhs; whnf
  conv at hst => rhs; whnf
  subst hsc hst
  k_steps
  rename_i D h1 F1 N1 l1
  refine storeX_C (g := fun o' => (L + 1, o') :: (D, W.listOf #[] 0) :: news) F1 (cb_drop N1 fun p hp => ?_) rfl (UpdF.head fun p hp => ?_) ho ?_
  · rcases List.mem_cons.mp hp with rfl | hp
    · simp
    · rcases List.mem_cons.mp hp with rfl | hp
      · simp
      · simp [hp]
  · rcases List.mem_cons.mp hp with rfl | hp
    · have := l1.1
      intro q
      have q' : @Eq Nat D (L + 1) := q
      omega
    · exact hn p hp
  · intro h' o' F2 N2 hd
    exact hQ _ _ _ _ F2 N2 hd (fun q => by
      have h1 := ltN l1.1
      omega) fun p hp => Nat.ne_of_lt (kst_ltOf l1.2 p hp)
end
end Mine

end PartLaw0
-- part Law1
section PartLaw1
open PySem PySem.W PySem.Calls PyProof.Rows
namespace Mine
theorem fill8 (P : Params) : Mine.hd.heap_39 P = Mine.hd.heap_39 P ∧ PySem.Challenge.rw_pg0014_01.foot = PySem.Challenge.rw_pg0014_01.foot := by
  k_fill
  exact ⟨rfl, rfl⟩

local macro_rules | `(tactic| walk_at "call builtin:list.append") => `(tactic| (k_here; (with_reducible show wpAny _ _ (call (Value.builtin _) [Value.ref _, _]) _ _ _); k_dflt (refine' append_K ?k1 ?k2 (Upd.head ?k3) ?_ ?z; (case k1 => k_asm); (case k2 => k_asm); (case k3 => assumption); (case z => assumption); k_whole); intro h' F' N'))

theorem lA_room (sc : Scope) (L : Nat) : (lA sc L).depth + 5 < recursionLimit := by
  show 1 + claimMargin + 1 + 5 < 1000
  decide
theorem lA_room0 (sc : Scope) (L : Nat) : (lA sc L).depth < recursionLimit := by have := lA_room sc L; omega

section
variable {w : World} {s : Shared} {mean : ExcName → Option Value} {mg mb : Str → Option Value} {Q : Flow → Shared → Prop} {h₀ : Heap} {L : Nat} {m : Str → Option Value} {rest : List (Addr × Obj)}

theorem law_S4_turn (KX : (Mine.hd.heap_39 w.params).In h₀) (T : Top Mine.hd.view_39 (looseW Mine.hd.view_39 []) mean mg mb h₀)
    {Ds : Nat} {x : Int} {t : Tok} {items : List Value} {is : List Int} {nn : Nat} {o1 : Obj} {R : List (Addr × Obj)} {E : Value → Shared → Prop} {h : Heap} {tk : Nat}
    (F : Fr h₀ L h (fun y => if y = Str.ofString "size" then some (.int x t) else m y)) (N : News h₀ L h ((Ds, W.listOf items.toArray nn) :: (L + 1, o1) :: R)) (ho : o1.data = .cell (some (.ref Ds))) (hne : ∀ p ∈ (L + 1, o1) :: R, p.1 ≠ Ds)
    (hi : IntsAre items is) (hlen : is.length ≤ 8)
    (h1 : is.length + 1 = 9 → ∀ h' tk' (t' : Tok), Fr h₀ L h' (fun y => if y = Str.ofString "size" then some (.int x t) else m y) → News h₀ L h' ((Ds, W.listOf (items ++ [Value.int (254 + x) t']).toArray (nn + 1)) :: (L + 1, o1) :: R) → Q .brk { s with heap := h', toks := tk' })
    (h2 : is.length + 1 ≠ 9 → ∀ h' tk' (t' : Tok), Fr h₀ L h' (fun y => if y = Str.ofString "size" then some (.int x t) else m y) → News h₀ L h' ((Ds, W.listOf (items ++ [Value.int (254 + x) t']).toArray (nn + 1)) :: (L + 1, o1) :: R) → Q .next { s with heap := h', toks := tk' })
    (sc : Scope) (hsc : sc = lScope) (body : List Stmt) (hbody : body = (match lBody.getD 4 (.Pass default) with | .For _ _ b _ _ => b | _ => [])) :
    wpAny (model PySem.Challenge.rw_pg0014_01.row.prog w) (lA sc L) (execs body (lEnv sc L)) Q E { s with heap := h, toks := tk } := by
  conv at hsc => rhs; whnf
  conv at hbody => rhs; whnf
  subst hsc hbody
  have hz : items.toArray.size ≤ sizeLine := by rw [List.size_toArray, hi.length, show sizeLine = 16777216 from rfl]; omega
  k_steps
  · exact h1 (by omega) _ _ _ (by assumption) (by assumption)
  · exact h2 (by omega) _ _ _ (by assumption) (by assumption)

theorem law_S4_loop (KX : (Mine.hd.heap_39 w.params).In h₀) (T : Top Mine.hd.view_39 (looseW Mine.hd.view_39 []) mean mg mb h₀)
    {gl Ds : Nat} {wg : List Value} {sz tail TT : List Int} {fin : Bool} {o1 : Obj} {n0 : Nat}
    (F : Fr h₀ L s.heap m) (N : News h₀ L s.heap ((Ds, W.listOf #[] n0) :: (L + 1, o1) :: (gl, W.listOf wg.toArray 0) :: rest)) (ho : o1.data = .cell (some (.ref Ds)))
    (hne : ∀ p ∈ (L + 1, o1) :: (gl, W.listOf wg.toArray 0) :: rest, (p.1 : Nat) ≠ Ds) (hg : IntsAre wg (sz ++ tail)) (hsz : ∀ x ∈ sz, 1 ≤ x ∧ x ≤ 4) (hsays : Tells3 sz tail TT fin) (hT9 : TT.length ≤ 9) (hfin : fin = false → TT.length = 9) (hfin' : fin = true → TT.length ≤ 8)
    (hbare : ∀ x ∈ s.gens, x.bare = true)
    (hQ : ∀ h' tk gens' (u : Str → Option Value) (items : List Value) nn, Fr h₀ L h' (fun y => if y = Str.ofString "size" then u y else m y) → News h₀ L h' ((Ds, W.listOf items.toArray nn) :: (L + 1, o1) :: rest) →
      IntsAre items (TT.map (254 + ·)) → (∀ x ∈ gens', x.bare = true) → Q .next { s with heap := h', toks := tk, gens := gens' })
    (sc : Scope) (hsc : sc = lScope) (body : List Stmt) (hbody : body = (match lBody.getD 4 (.Pass default) with | .For _ _ b _ _ => b | _ => [])) (tgt : Expr) (htgt : tgt = (match lBody.getD 4 (.Pass default) with | .For t _ _ _ _ => t | _ => default)) :
    wpAny (model PySem.Challenge.rw_pg0014_01.row.prog w) (lA sc L) (call (.ref 35) [.ref gl]) (fun xv s₁ => wpAny (model PySem.Challenge.rw_pg0014_01.row.prog w) (lA sc L) (pyIter xv) (fun it s₂ =>
      codeAny (model PySem.Challenge.rw_pg0014_01.row.prog w) (lA sc L) (.forLoop tgt it body [] (lEnv sc L)) (fun r s' => match r with | .ok f => Q f s' | .error e => cameBackBy (model PySem.Challenge.rw_pg0014_01.row.prog w) (lA sc L) (lEnv sc L) (fun _ _ => False) e s') s₂) (fun _ _ => False) s₁) (fun _ _ => False) s := by
  conv at htgt => rhs; whnf
  subst htgt
  have X₀ : Amb w mean mg mb h₀ := ⟨KX, T⟩
  have hX : Amb w mean mg mb s.heap := X₀.keeps F.keep
  refine gen_make hX (lA_room0 sc L) fun h1 tk1 og hns hog hgen hk1 => ?_
  generalize hCC : s.heap.objs.size = C at *
  have hC : h₀.objs.size ≤ C := by
    have h1 := F.above
    have h2 := ltN F.ns.lt
    have h3 : h₀.objs.size ≤ L := h1
    omega
  have hLC : L < C := by rw [← hCC]; exact F.ns.lt
  have hlow : ∀ p ∈ (Ds, W.listOf #[] n0) :: (L + 1, o1) :: (gl, W.listOf wg.toArray 0) :: rest, (p.1 : Nat) < C := fun p hp => by rw [← hCC]; exact Heap.lt_size (N p hp).1
  have hgl : gl < C := hlow (gl, W.listOf wg.toArray 0) (by simp)
  have hogl : s.heap.get? gl = some (W.listOf wg.toArray 0) := (N (gl, W.listOf wg.toArray 0) (by simp)).1
  refine wpAny_pyIter_gen hgen ?_
  obtain ⟨oc, hoc, G⟩ := GAt.fresh (A := lA sc L) (ogl := W.listOf wg.toArray 0) (T := TT) (fin := fin) (gens := s.gens.push (.fresh (.func gBody (gEnv gScope C)))) X₀ hC hgl rfl hg hsz hsays hog hgen hns ⟨_, hk1 _ _ hogl, rfl, _, rfl⟩ (hk1 _ _ hogl) (Array.getElem?_push_size ..)
  refine codeAny_forLoop_any (fun n s' => ∃ j items h tk gens gn u nn, s' = { s with heap := h, toks := tk, gens := gens } ∧ j + n = TT.length + 1 ∧ j ≤ TT.length ∧ j < 9 ∧ Fr h₀ L h (fun y => if y = Str.ofString "size" then u y else m y) ∧
      News h₀ L h ((Ds, W.listOf items.toArray nn) :: (L + 1, o1) :: (gl, W.listOf wg.toArray 0) :: rest) ∧ IntsAre items ((TT.take j).map (254 + ·)) ∧ GAt w (lA sc L) h₀ C gl s.gens.size og (W.listOf wg.toArray 0) TT fin j gn gens ∧
      (∀ p ∈ gn, h.get? p.1 = some p.2) ∧ ∀ x ∈ gens, x.bare = true) ?_ (TT.length + 1) ⟨0, [], h1, _, _, _, m, n0, rfl, by omega, Nat.zero_le _, by omega, ?_, ?_, ?_, G, ?_, ?_⟩
  · rintro n s' ⟨j, items, h, tk, gens, gn, u, nn, rfl, hjn, hjl, hj9, F₁, N₁, hit, G₁, hgn, hb₁⟩
    have hogl₁ : h.get? gl = some (W.listOf wg.toArray 0) := (N₁ (gl, W.listOf wg.toArray 0) (by simp)).1
    by_cases hlt : j < TT.length
    · refine next_item X₀ G₁ hlt hgl F₁.keep hgn hogl₁ rfl (lA_room0 sc L) fun t h' tk' gens' gn' hk G₂ hgn₂ hb₂ => ?_
      have F₂ : Fr h₀ L h' (fun y => if y = Str.ofString "size" then u y else m y) := ⟨F₁.ns.at' fun o e => hk L o hLC e, fun b o e => hk b o (Nat.lt_of_lt_of_le (Heap.lt_size e) hC) (F₁.keep b o e), F₁.above⟩
      have N₂ : News h₀ L h' ((Ds, W.listOf items.toArray nn) :: (L + 1, o1) :: ((gl, W.listOf wg.toArray 0) :: rest ++ gn')) := fun p hp => by
        rcases List.mem_append.mp (show p ∈ ((Ds, W.listOf items.toArray nn) :: (L + 1, o1) :: (gl, W.listOf wg.toArray 0) :: rest) ++ gn' from hp) with hp | hp
        · have hpC : (p.1 : Nat) < C := by
            rcases List.mem_cons.mp hp with rfl | hp
            · exact hlow (Ds, W.listOf #[] n0) (List.mem_cons_self ..)
            · exact hlow p (List.mem_cons_of_mem _ hp)
          exact ⟨hk _ _ hpC (N₁ p hp).1, (N₁ p hp).2⟩
        · refine ⟨hgn₂ p hp, ?_, ?_⟩
          · have h1 := G₂.high p hp
            intro q
            have q' : @Eq Nat p.1 L := q
            omega
          · cases e : h₀.get? p.1 with
            | none => rfl
            | some o' =>
              have h1 := G₂.high p hp
              have h2 := ltN (Heap.lt_size e)
              omega
      have hne₂ : ∀ p ∈ (L + 1, o1) :: ((gl, W.listOf wg.toArray 0) :: rest ++ gn'), (p.1 : Nat) ≠ Ds := fun p hp => by
        rcases List.mem_append.mp (show p ∈ ((L + 1, o1) :: (gl, W.listOf wg.toArray 0) :: rest) ++ gn' from hp) with hp | hp
        · exact hne p hp
        · have h1 := G₂.high p hp
          have h2 := hlow (Ds, W.listOf #[] n0) (List.mem_cons_self ..)
          dsimp only at h2
          intro q
          have q' : @Eq Nat p.1 Ds := q
          omega
      refine wpAny_of_eq rfl ?_
      refine wpAny_assign_Name (storeX_L F₂ N₂ (fun h'' F₃ N₃ => ?_) (by rw [hsc]; rfl) (by rw [hsc]; rfl))
      have e3 : (fun y => if y = Str.ofString "size" then some (Value.int (TT.getD j 0) t) else if y = Str.ofString "size" then u y else m y) = fun y => if y = Str.ofString "size" then some (Value.int (TT.getD j 0) t) else m y := by
        funext y; by_cases hy : y = Str.ofString "size" <;> simp [hy]
      rw [e3] at F₃
      have hilen : ((TT.take j).map (254 + ·)).length = j := by rw [List.length_map, List.length_take]; omega
      have hsnoc : ∀ t', IntsAre (items ++ [Value.int (254 + TT.getD j 0) t']) ((TT.take (j + 1)).map (254 + ·)) := fun t' => by
        have e : TT[j]? = some (TT.getD j 0) := by rw [List.getD_eq_getElem?_getD, List.getElem?_eq_getElem hlt]; rfl
        rw [List.take_add_one, e, List.map_append]
        exact ksk_snoc hit
      refine law_S4_turn (s := { s with gens := gens' }) KX T F₃ N₃ ho hne₂ hit (by omega) ?_ ?_ sc hsc body hbody
      · intro h9 h4 tk4 t4 F₄ N₄
        have ej : j + 1 = TT.length := by omega
        refine hQ h4 tk4 gens' (fun _ => some (Value.int (TT.getD j 0) t)) (items ++ [Value.int (254 + TT.getD j 0) t4]) (nn + 1) F₄ (cb_drop N₄ fun p hp => ?_) ?_ (hb₂ hb₁)
        · rcases List.mem_cons.mp hp with rfl | hp
          · simp
          · rcases List.mem_cons.mp hp with rfl | hp
            · simp
            · simp [hp]
        · have := hsnoc t4
          rw [ej, List.take_length] at this
          exact this
      · intro h9 h4 tk4 t4 F₄ N₄
        refine ⟨n - 1, by omega, j + 1, items ++ [Value.int (254 + TT.getD j 0) t4], h4, tk4, gens', gn', (fun _ => some (Value.int (TT.getD j 0) t)), nn + 1, rfl, by omega, hlt, by omega, F₄, cb_drop N₄ fun p hp => ?_, hsnoc t4, G₂, fun p hp => (N₄ p ?_).1, hb₂ hb₁⟩
        · rcases List.mem_cons.mp hp with rfl | hp
          · simp
          · rcases List.mem_cons.mp hp with rfl | hp
            · simp
            · rcases List.mem_cons.mp hp with rfl | hp
              · simp
              · simp [hp]
        · simp [hp]
    · obtain rfl : j = TT.length := by omega
      cases fin with
      | false => exact absurd (hfin rfl) (by omega)
      | true =>
        refine next_done X₀ hC G₁ hgl F₁.keep hgn hogl₁ rfl (lA_room0 sc L) fun h' tk' gens' hk hb₂ => ?_
        refine wpAny_execs_nil ?_
        have F₂ : Fr h₀ L h' (fun y => if y = Str.ofString "size" then u y else m y) := ⟨F₁.ns.at' fun o e => hk L o hLC e, fun b o e => hk b o (Nat.lt_of_lt_of_le (Heap.lt_size e) hC) (F₁.keep b o e), F₁.above⟩
        rw [List.take_length] at hit
        refine hQ h' tk' gens' u items nn F₂ (fun p hp => ?_) hit (hb₂ hb₁)
        have hp' : p ∈ (Ds, W.listOf items.toArray nn) :: (L + 1, o1) :: (gl, W.listOf wg.toArray 0) :: rest := by
          rcases List.mem_cons.mp hp with rfl | hp
          · simp
          · rcases List.mem_cons.mp hp with rfl | hp
            · simp
            · simp [hp]
        have hpC : (p.1 : Nat) < C := by
          rcases List.mem_cons.mp hp' with rfl | hp'
          · exact hlow (Ds, W.listOf #[] n0) (List.mem_cons_self ..)
          · exact hlow p (List.mem_cons_of_mem _ hp')
        exact ⟨hk _ _ hpC (N₁ p hp').1, (N₁ p hp').2⟩
  · have e : (fun y => if y = Str.ofString "size" then m y else m y) = m := by funext y; split <;> rfl
    rw [e]; exact Fr.keeps F hk1
  · exact News.keepsAll N hk1
  · rw [List.take_zero]; exact .nil
  · intro p hp
    rcases List.mem_cons.mp hp with rfl | hp
    · exact hoc
    · rw [List.mem_singleton.mp hp]; exact hog
  · intro x hx
    rcases Array.mem_push.mp hx with hx | rfl
    · exact hbare x hx
    · rfl

def toldOf (kd : Int) (sz : List Int) : List Int := if kd < 2 then (sz ++ List.replicate 7 (sz.getD (sz.length - 1) 0)).take 9 else sz

theorem tells_zero {sz tl : List Int} (h2 : 2 ≤ sz.length) (h8 : sz.length ≤ 8) : Tells3 sz (0 :: tl) ((sz ++ List.replicate 7 (sz.getD (sz.length - 1) 0)).take 9) false := by
  have hl : ((sz ++ List.replicate 7 (sz.getD (sz.length - 1) 0)).take 9).length = 9 := by
    rw [List.length_take, List.length_append, List.length_replicate]; omega
  refine .zero tl _ (8 - sz.length) (by rw [hl]; omega) (fun i hi => ?_) (fun j hj => ?_) (fun e => by rw [e] at h2; simp at h2)
  · rw [List.getD_eq_getElem?_getD, List.getElem?_take, if_pos (by omega), List.getElem?_append_left hi, ← List.getD_eq_getElem?_getD]
  · rw [hl, List.getD_eq_getElem?_getD, List.getElem?_take, if_pos (by omega), List.getElem?_append_right (by omega), List.getElem?_replicate, if_pos (by omega)]
    rfl

theorem law_S4 (KX : (Mine.hd.heap_39 w.params).In h₀) (T : Top Mine.hd.view_39 (looseW Mine.hd.view_39 []) mean mg mb h₀)
    {ws : List Value} {D Ds : Nat} {kd : Int} {t : Tok} {sz : List Int} {o1 : Obj} {n0 : Nat} {V : Value}
    (F : Fr h₀ L s.heap (fun y => if y = Str.ofString "told" then some V else if y = Str.ofString "kind" then some (.int kd t) else if y = Str.ofString "sizes" then some (.ref D) else m y))
    (N : News h₀ L s.heap ((Ds, W.listOf #[] n0) :: (L + 1, o1) :: (D, W.listOf ws.toArray 0) :: rest)) (ho : o1.data = .cell (some (.ref Ds)))
    (hne : ∀ p ∈ (L + 1, o1) :: (D, W.listOf ws.toArray 0) :: rest, (p.1 : Nat) ≠ Ds) (hi : IntsAre ws sz) (hsz : ∀ x ∈ sz, 1 ≤ x ∧ x ≤ 4) (h2 : 2 ≤ sz.length) (hlen : sz.length ≤ 8) (hk0 : 0 ≤ kd) (hk5 : kd < 5)
    (hbare : ∀ x ∈ s.gens, x.bare = true)
    (hQ : ∀ h' tk gens' (u : Str → Option Value) (items : List Value) nn, Fr h₀ L h' (fun y => if y = Str.ofString "size" then u y else if y = Str.ofString "told" then some V else if y = Str.ofString "kind" then some (.int kd t) else if y = Str.ofString "sizes" then some (.ref D) else m y) →
      News h₀ L h' ((Ds, W.listOf items.toArray nn) :: (L + 1, o1) :: (D, W.listOf ws.toArray 0) :: rest) →
      IntsAre items ((toldOf kd sz).map (254 + ·)) → (∀ x ∈ gens', x.bare = true) → Q .next { s with heap := h', toks := tk, gens := gens' })
    (sc : Scope) (hsc : sc = lScope) (st : Stmt) (hst : st = lBody.getD 4 (.Pass default)) :
    wpAny (model PySem.Challenge.rw_pg0014_01.row.prog w) (lA sc L) (exec st (lEnv sc L)) Q (fun _ _ => False) s := by
  have hsc' := hsc
  conv at hsc => rhs; whnf
  conv at hst => rhs; whnf
  subst hst
  rw [hsc] at hsc' ⊢
  clear hsc
  refine wpAny_For ?_
  have hcase : kd = 0 ∨ kd = 1 ∨ kd = 2 ∨ kd = 3 ∨ kd = 4 := by omega
  rcases hcase with rfl | rfl | rfl | rfl | rfl
  · have tl : (toldOf 0 sz).length = 9 := by unfold toldOf; rw [if_pos (by decide), List.length_take, List.length_append, List.length_replicate]; omega
    k_steps
    rename_i D' ws' h' F' N' hI l1
    refine law_S4_loop (s := { heap := h', gens := s.gens, drawn := s.drawn, toks := _, os := s.os }) (rest := (D, W.listOf ws.toArray 0) :: rest) (gl := D') (n0 := n0) (TT := toldOf 0 sz) (fin := false) KX T F' (cb_drop N' fun p hp => ?_) ho (fun p hp => ?_) hI hsz (by unfold toldOf; rw [if_pos (by decide)]; exact tells_zero h2 hlen)  ?_ ?_ ?_ hbare hQ _ hsc' _ rfl _ rfl
    · rcases List.mem_cons.mp hp with rfl | hp
      · simp
      · rcases List.mem_cons.mp hp with rfl | hp
        · simp
        · rcases List.mem_cons.mp hp with rfl | hp
          · simp
          · rcases List.mem_cons.mp hp with rfl | hp
            · simp
            · simp [hp]
    · rcases List.mem_cons.mp hp with rfl | hp
      · exact hne _ (by simp)
      · rcases List.mem_cons.mp hp with rfl | hp
        · have hl := l1.2.2.2.2.2.2.1
          intro q
          have q' : @Eq Nat D' Ds := q
          omega
        · exact hne p (List.mem_cons_of_mem _ hp)
    · rw [tl]; omega
    · intro q; rw [tl]
    · intro q; cases q
  · have tl : (toldOf 1 sz).length = 9 := by unfold toldOf; rw [if_pos (by decide), List.length_take, List.length_append, List.length_replicate]; omega
    k_steps
    rename_i D' ws' h' F' N' hI l1
    refine law_S4_loop (s := { heap := h', gens := s.gens, drawn := s.drawn, toks := _, os := s.os }) (rest := (D, W.listOf ws.toArray 0) :: rest) (gl := D') (n0 := n0) (TT := toldOf 1 sz) (fin := false) KX T F' (cb_drop N' fun p hp => ?_) ho (fun p hp => ?_) hI hsz (by unfold toldOf; rw [if_pos (by decide)]; exact tells_zero h2 hlen)  ?_ ?_ ?_ hbare hQ _ hsc' _ rfl _ rfl
    · rcases List.mem_cons.mp hp with rfl | hp
      · simp
      · rcases List.mem_cons.mp hp with rfl | hp
        · simp
        · rcases List.mem_cons.mp hp with rfl | hp
          · simp
          · rcases List.mem_cons.mp hp with rfl | hp
            · simp
            · simp [hp]
    · rcases List.mem_cons.mp hp with rfl | hp
      · exact hne _ (by simp)
      · rcases List.mem_cons.mp hp with rfl | hp
        · have hl := l1.2.2.2.2.2.2.1
          intro q
          have q' : @Eq Nat D' Ds := q
          omega
        · exact hne p (List.mem_cons_of_mem _ hp)
    · rw [tl]; omega
    · intro q; rw [tl]
    · intro q; cases q
  · have tl : (toldOf 2 sz).length = sz.length := by unfold toldOf; rw [if_neg (by decide)]
    k_steps
    rename_i D' ws' h' F' N' hI l1
    refine law_S4_loop (s := { heap := h', gens := s.gens, drawn := s.drawn, toks := _, os := s.os }) (rest := (D, W.listOf ws.toArray 0) :: rest) (gl := D') (n0 := n0) (TT := toldOf 2 sz) (fin := true) KX T F' (cb_drop N' fun p hp => ?_) ho (fun p hp => ?_) hI hsz (by unfold toldOf; rw [if_neg (by decide)]; exact .max _)  ?_ ?_ ?_ hbare hQ _ hsc' _ rfl _ rfl
    · rcases List.mem_cons.mp hp with rfl | hp
      · simp
      · rcases List.mem_cons.mp hp with rfl | hp
        · simp
        · rcases List.mem_cons.mp hp with rfl | hp
          · simp
          · rcases List.mem_cons.mp hp with rfl | hp
            · simp
            · simp [hp]
    · rcases List.mem_cons.mp hp with rfl | hp
      · exact hne _ (by simp)
      · rcases List.mem_cons.mp hp with rfl | hp
        · have hl := l1.2.2.2.2.2.2.1
          intro q
          have q' : @Eq Nat D' Ds := q
          omega
        · exact hne p (List.mem_cons_of_mem _ hp)
    · rw [tl]; omega
    · intro q; cases q
    · intro q; rw [tl]; omega
  · have tl : (toldOf 3 sz).length = sz.length := by unfold toldOf; rw [if_neg (by decide)]
    k_steps
    rename_i D' ws' h' F' N' hI l1
    refine law_S4_loop (s := { heap := h', gens := s.gens, drawn := s.drawn, toks := _, os := s.os }) (rest := (D, W.listOf ws.toArray 0) :: rest) (gl := D') (n0 := n0) (TT := toldOf 3 sz) (fin := true) KX T F' (cb_drop N' fun p hp => ?_) ho (fun p hp => ?_) hI hsz (by unfold toldOf; rw [if_neg (by decide)]; exact .max _)  ?_ ?_ ?_ hbare hQ _ hsc' _ rfl _ rfl
    · rcases List.mem_cons.mp hp with rfl | hp
      · simp
      · rcases List.mem_cons.mp hp with rfl | hp
        · simp
        · rcases List.mem_cons.mp hp with rfl | hp
          · simp
          · rcases List.mem_cons.mp hp with rfl | hp
            · simp
            · simp [hp]
    · rcases List.mem_cons.mp hp with rfl | hp
      · exact hne _ (by simp)
      · rcases List.mem_cons.mp hp with rfl | hp
        · have hl := l1.2.2.2.2.2.2.1
          intro q
          have q' : @Eq Nat D' Ds := q
          omega
        · exact hne p (List.mem_cons_of_mem _ hp)
    · rw [tl]; omega
    · intro q; cases q
    · intro q; rw [tl]; omega
  · have tl : (toldOf 4 sz).length = sz.length := by unfold toldOf; rw [if_neg (by decide)]
    k_steps
    rename_i D' ws' h' F' N' hI l1
    refine law_S4_loop (s := { heap := h', gens := s.gens, drawn := s.drawn, toks := _, os := s.os }) (rest := (D, W.listOf ws.toArray 0) :: rest) (gl := D') (n0 := n0) (TT := toldOf 4 sz) (fin := true) KX T F' (cb_drop N' fun p hp => ?_) ho (fun p hp => ?_) hI hsz (by unfold toldOf; rw [if_neg (by decide)]; exact .nil)  ?_ ?_ ?_ hbare hQ _ hsc' _ rfl _ rfl
    · rcases List.mem_cons.mp hp with rfl | hp
      · simp
      · rcases List.mem_cons.mp hp with rfl | hp
        · simp
        · rcases List.mem_cons.mp hp with rfl | hp
          · simp
          · rcases List.mem_cons.mp hp with rfl | hp
            · simp
            · simp [hp]
    · rcases List.mem_cons.mp hp with rfl | hp
      · exact hne _ (by simp)
      · rcases List.mem_cons.mp hp with rfl | hp
        · have hl := l1.2.2.2.2.2.2.1
          intro q
          have q' : @Eq Nat D' Ds := q
          omega
        · exact hne p (List.mem_cons_of_mem _ hp)
    · rw [tl]; omega
    · intro q; cases q
    · intro q; rw [tl]; omega
end
end Mine

end PartLaw1
-- part Ref0
section PartRef0
open PySem PySem.W PySem.Calls PyProof.Rows
namespace Mine
theorem fill9 (P : Params) : Mine.hd.heap_39 P = Mine.hd.heap_39 P ∧ PySem.Challenge.rw_pg0014_01.foot = PySem.Challenge.rw_pg0014_01.foot := by
  k_fill
  exact ⟨rfl, rfl⟩
section
variable {M : Model} {A : Around} {E : Value → Shared → Prop} {s : Shared}

/-- an exception that this frame holds comes back through an activation of the frame's own -/
theorem cameBack_W {base : Heap} {l : List Env} {e L : Addr} {cls a0 : Value} {env : Env} {Q : Unit → Shared → Prop} (hf : env.frame = some L) (hh : Heap.HeldW base l e cls a0 L s.heap)
    (hQ : ∀ h', Heap.HeldW base l e cls a0 L h' → s.heap.UpToSlots h' → Q () { s with heap := h' }) :
    wpAny M A (do
      if (← field (.ref e) 1) == .none then unsupported "frame.own-activation:exception-without-traceback"
      setFlight (.ref e) env.frame) Q E s := by
  obtain ⟨hkb, hen, hl, ht⟩ := hh
  obtain ⟨oe, vs, T, oT, ts, he, hcls, hd, h1, hnT, hTe, hT, hdT, h3⟩ := ht
  have hsz3 : 3 < ts.size := (Array.getElem?_eq_some_iff.mp h3).1
  have other : ∀ b, b ≠ T → (s.heap.update T (Obj.mapFields (·.setIfInBounds 3 (rawInt L)))).get? b = s.heap.get? b := fun b hb => Heap.get?_update_other _ _ (Ne.symm hb)
  have noRecord : ∀ b o, s.heap.get? b = some o → (∀ vs, o.data ≠ .fields vs) → b ≠ T := fun b o hb hnf q => by
    rw [q, hT] at hb; injection hb with hb; subst hb; exact hnf ts hdT
  refine wpAny_bind (wpAny_field he hd h1 ?_)
  rw [if_neg (show ¬ ((Value.ref T == Value.none) = true) from by simp)]
  unfold setFlight
  refine wpAny_bind (wpAny_field he hd h1 ?_)
  rw [if_pos (show (Value.ref T != Value.none) = true from by simp), hf]
  refine wpAny_setField hT hdT hsz3 (hQ _ ⟨fun b o hbo => (other b fun q => by rw [q, hnT] at hbo; cases hbo).trans (hkb b o hbo), hen, hl.of_keeps fun b o hb hnf => ⟨o, (other b (noRecord b o hb hnf)).trans hb, rfl⟩, ?_⟩ fun b o hb hnf => ⟨o.slots, (other b (noRecord b o hb hnf)).trans hb⟩)
  exact ⟨oe, vs, T, _, _, (other e (Ne.symm hTe)).trans he, hcls, hd, h1, hnT, hTe, Heap.get?_update_self _ hT (Obj.isFreed_of_fields (Obj.data_mapFields hdT _)), Obj.data_mapFields hdT _, by simp [hsz3]⟩

/-- a made exception is noted in the frame that raised it -/
theorem noted_madeW {base h : Heap} {env : Env} {outer : List Env} {L e : Addr} {cls : String} {args : List Value} {Q : Unit → Shared → Prop}
    (hfr : A.frames = some (env :: outer)) (hf : env.frame = some L) (hkb : base.StaysIn h) (hl : h.FunFrames base (env :: outer)) (hx : Heap.MadeExc h s.heap e cls args)
    (hQ : ∀ h' t, Heap.HeldW base (env :: outer) e (.type cls) (.ref t) L h' → h'.TupAt t args → base.get? t = none → h.UpToSlots h' → Q () { s with heap := h' }) : wpAny M A (noteFrame (.ref e) env) Q E s := by
  obtain ⟨t, he, htn, ht⟩ := hx.there
  have fresh : ∀ b, h.get? b = none → base.get? b = none := fun b hb => by
    cases hq : base.get? b with
    | none => rfl
    | some o' => have := hkb b o' hq; rw [hb] at this; cases this
  unfold noteFrame
  simp only [hf]
  refine wpAny_bind (wpAny_field (x := .none) he rfl rfl ?_)
  rw [if_neg (by decide)]
  refine wpAny_entryW (a0 := .ref t) hfr (hl.of_keeps fun b o hb _ => ⟨o, hx.keeps b o hb, rfl⟩) hf he (fun b o hb => hx.keeps b o (hkb b o hb)) (fresh e hx.new) rfl (by show 1 < 6; decide) rfl fun h' hN => ?_
  obtain ⟨k1, k2, k3, k4⟩ := hN
  exact hQ h' t ⟨k1, fresh e hx.new, k2, k3⟩ (Heap.TupAt.of_slots ⟨_, _, ht, rfl, rfl⟩ k4) (fresh t htn) ((Heap.UpToSlots.of_keeps hx.keeps).trans k4)
end

theorem funFrames_low {base h h' : Heap} {C : Nat} (hk : ∀ (b : Nat) o, b < C → h.get? b = some o → h'.get? b = some o) : ∀ {l : List Env}, h.FunFrames base l → (∀ b : Nat, b ∈ l.filterMap (·.frame) → b < C) → h'.FunFrames base l
  | [], _, _ => trivial
  | env :: r, ⟨a, ⟨L, o, hf, hn, ho, hd⟩, hr⟩, hl => ⟨a, ⟨L, o, hf, hn, hk L o (hl L (by rw [List.filterMap_cons, hf]; exact List.mem_cons_self ..)) ho, hd⟩, funFrames_low hk hr fun b hb => hl b (by rw [List.filterMap_cons, hf]; exact List.mem_cons_of_mem _ hb)⟩

theorem over_frames {A : Around} {outer : List Env} {tgt : Expr} {it : Value} {body : List Stmt} {env env' env'' : Env} {K : Flow → Sem PySem.Fin} {H : Value → Sem PySem.Fin} {gb : List Stmt} {p : Pos} (hfr : A.frames = some outer) :
    (A.over (.forLoop tgt it body [] env) [ownFrame env' K H id id (.func gb env'') p]).frames = some (env'' :: outer) := by
  unfold Around.over
  simp only [hfr]
  rfl

/-- the exception that leaves the generator -/
def rR (base : Heap) (outer : List Env) (C : Nat) : GenEnd := fun _ s₀ r s' => ∃ e t tk h' tk', r = .error (.ref e) ∧ s' = { s₀ with heap := h', toks := tk' } ∧ Heap.FlyingW base outer e (.type "ValueError") (.ref t) h' ∧
  h'.TupAt t [.str (Str.ofString "invalid grouping") tk] ∧ base.get? t = none ∧ ∀ (b : Nat) o, b < C → s₀.heap.get? b = some o → (∀ vs, o.data ≠ .fields vs) → ∃ sl, h'.get? b = some { o with slots := sl }

section
variable {w : World} {A : Around} {mean : ExcName → Option Value} {mg mb : Str → Option Value} {h₀ base : Heap} {outer : List Env} {C gl : Nat} {vs : List Value} {ns : List Int} {Y : Protocol} {n : Nat}
theorem gen_raise (X : Amb w mean mg mb h₀) (hC : h₀.objs.size ≤ C) (hgl : gl < C) (hh : A.handled = none) (hfr : A.frames = some outer)
    (hi : IntsAre vs (0 :: ns)) (sc : Scope) (hsc : sc = gScope) (gb : List Stmt) (hgb : gb = gBody)
    (s : Shared) (hst : h₀.StaysIn s.heap) (hbs : base.StaysIn s.heap) (hbC : base.get? C = none) (hff : s.heap.FunFrames base outer) (hbsz : ∀ (b : Nat) o, base.get? b = some o → b < C ∨ b = C + 1) {og : Obj} (hog : s.heap.get? (C + 1) = some og) (hfC : ∀ b : Nat, b ∈ outer.filterMap (·.frame) → b < C)
    (hns : s.heap.Ns C (fun y => if y = Str.ofString "grouping" then some (.ref gl) else none)) (hl : s.heap.IsList gl vs.toArray) :
    Seg (model PySem.Challenge.rw_pg0014_01.row.prog w) A (rR base outer C) Y n s (.func gb (gEnv sc C)) ((model PySem.Challenge.rw_pg0014_01.row.prog w).den (.func gb (gEnv sc C))) [] s := by
  obtain ⟨KX, TX⟩ := X.trunc hst hC
  conv at hsc => rhs; whnf
  conv at hgb => rhs; whnf
  subst hgb hsc
  have F : Fr (trunc C s.heap) C s.heap (fun y => if y = Str.ofString "grouping" then some (.ref gl) else none) := ⟨hns, fun b o e => (trunc_some e).2, trunc_size⟩
  have N : News (trunc C s.heap) C s.heap [(C + 1, og)] := fun q hq => by
    rw [List.mem_singleton.mp hq]
    exact ⟨hog, Nat.succ_ne_self _, trunc_none (Nat.le_succ _)⟩
  refine seg_func (seg_execs_cons (seg_stmt ?_))
  k_steps
  refine seg_execs_cons (seg_For ?_)
  k_steps
  rename_i h₁ F₁ N₁
  have hl₁ := fr_list F₁ hgl hl
  have hlt : C + 1 < h₁.objs.size := Heap.lt_size (N₁ _ (List.mem_cons_self ..)).1
  have hgI : gl ≠ h₁.objs.size := by omega
  refine wpAny_pyIter_list hl₁ fun p => ?_
  refine seg_forLoop ?_
  refine (Walks.list (by exact hh) h₁.objs.size gl hgI vs.toArray).item 0 _ _ _ (by rw [List.size_toArray, hi.length]; exact Nat.succ_pos _) ⟨⟨_, Heap.get?_push_size _ rfl, rfl, rfl⟩, hl₁.push _⟩ (fun v h₂ tk₂ hv hst₂ hk₂ => ?_)
  obtain ⟨t, hvx⟩ := hi.get 0 0 rfl
  have hvv : v = .int 0 t := by
    have hv' : vs[0]? = some v := by simpa using hv
    rw [hvx] at hv'; exact (Option.some.inj hv').symm
  subst hvv
  have kI : ∀ (b : Nat) o, b ≤ C + 1 → h₁.get? b = some o → h₂.get? b = some o := fun b o hb e => hk₂ b o (by
    intro hm
    have e : @Eq Nat b h₁.objs.size := List.mem_singleton.mp hm
    omega) (Heap.get?_push_of_some _ e)
  have F₂ : Fr (trunc C s.heap) C h₂ (fun y => if y = Str.ofString "last_interval" then some Value.none else if y = Str.ofString "grouping" then some (.ref gl) else none) :=
    ⟨F₁.ns.at' fun o e => kI C o (Nat.le_succ _) e, fun b o e => kI b o (Nat.le_succ_of_le (Nat.le_of_lt (trunc_some e).1)) (F₁.keep b o e), F₁.above⟩
  have N₂ : News (trunc C s.heap) C h₂ [(C + 1, og)] := fun q hq => by
    rw [List.mem_singleton.mp hq]
    exact ⟨kI _ _ (Nat.le_refl _) (N₁ _ (List.mem_cons_self ..)).1, Nat.succ_ne_self _, trunc_none (Nat.le_succ _)⟩
  clear F₁ N₁
  refine wpAny_of_eq rfl ?_
  refine wpAny_assign_Name (stN F₂ N₂ fun h₃ F₃ N₃ => ?_)
  clear F₂ N₂
  refine seg_execs_cons (seg_If ?_)
  k_steps
  refine seg_execs_nil ?_
  refine seg_execs_cons (seg_If ?_)
  k_steps
  refine seg_execs_cons (seg_If ?_)
  k_steps
  refine seg_execs_cons (seg_stmt ?_)
  refine wpAny_Raise_call F.excCall_ValueError F.excRaise_ValueError (by exact hh) rfl ?_
  walk1
  refine ⟨rfl, ?_⟩
  refine evalArgs_plain (spliced_cons ?_)
  show wpAny _ _ (eval _ _) _ _ _
  walk1
  refine spliced_nil ?_
  refine ⟨rfl, by show 1 ≤ 16777216; decide, fun h₄ e hx => ?_⟩
  have lo₃ : ∀ (b : Nat) o, b < C → s.heap.get? b = some o → h₃.get? b = some o := fun b o hb q => F₃.keep b o (by rw [trunc_get hb]; exact q)
  have hbs₃ : base.StaysIn h₃ := fun b o q => by
    rcases hbsz b o q with hlt | heq
    · exact lo₃ b o hlt (hbs b o q)
    · have e1 := hbs b o q
      have heq' : b = (C + 1 : Nat) := heq
      subst heq'
      rw [hog] at e1
      cases e1
      exact (N₃ _ (List.mem_cons_self ..)).1
  have hff₃ : ∀ scx : Scope, scx.kind = .function → h₃.FunFrames base (gEnv scx C :: outer) := fun scx hkx => Heap.FunFrames.cons (by show scx.kind ≠ .module; rw [hkx]; decide) rfl F₃.ns hbC (funFrames_low lo₃ hff hfC)
  refine seg_wrap (wpAny_bind (noted_madeW (base := base) (outer := outer) (over_frames hfr) rfl hbs₃ (hff₃ _ rfl) hx fun h₅ t₅ HW₅ TA₅ tn₅ U₅ => wpAny_theTreesLotGoes ?_))
  refine seg_leaf (.error (.ref e)) ?_
  refine seg_bind_wrap (m := (do
    if (← field (.ref e) 1) == .none then unsupported "frame.own-activation:exception-without-traceback"
    setFlight (.ref e) (gEnv gScope C).frame)) (cameBack_W rfl HW₅ fun h₆ HW₆ U₆ => ?_)
  refine seg_wrap ?_
  refine wpAny_throw ?_
  refine seg_wrap ?_
  unfold leaving
  refine wpAny_bind ?_
  refine wpAny_noteFrame_againW (L := C) (base := base) (e := e) (cls := .type "ValueError") (a0 := .ref t₅) ?_ ?_ ?_
  · rfl
  · exact HW₆.2.2.2
  refine wpAny_landsW HW₆ fun h₇ FW₇ U₇ => ?_
  obtain ⟨k1, k2, ⟨_, _, k3⟩, k4⟩ := FW₇
  refine seg_end (.error (.ref e)) ⟨e, t₅, _, h₇, _, rfl, rfl, ⟨k1, k2, k3, k4⟩, (TA₅.of_slots U₆).of_slots U₇, tn₅, fun b o hb q hd => ((U₅.trans U₆).trans U₇) b o (lo₃ b o hb q) hd⟩
end
end Mine

end PartRef0
-- part Ref1
section PartRef1
open PySem PySem.W PySem.Calls PyProof.Rows
namespace Mine
theorem fill10 (P : Params) : Mine.hd.heap_39 P = Mine.hd.heap_39 P ∧ PySem.Challenge.rw_pg0014_01.foot = PySem.Challenge.rw_pg0014_01.foot := by
  k_fill
  exact ⟨rfl, rfl⟩
theorem isSubtype_VE_stop : isSubtype (.type "ValueError") (.type "StopIteration") = pure false := by rw [isSubtype_type]; kernel_rfl

section
variable {prog : Program} {w : World} {A : Around} {E : Value → Shared → Prop} {s : Shared}
theorem pyNext_raise {a : Addr} {g n : Nat} {gs : GenState} {R : GenEnd} {Q : Option Value → Shared → Prop}
    (hl : s.heap.NoLimit) (hroom : A.depth < recursionLimit)
    (hg : s.heap.IsGen a g) (hgs : s.gens[g]? = some gs)
    (hgo : gs.Goes (model prog w) A.in1 R (fun _ _ _ _ _ => False) n (.send .none) (s.setGen g .running))
    (hP : ∀ r s₁, R n (s.setGen g .running) r s₁ → ∃ e, r = .error (.ref e) ∧ s₁.TypeIs (.ref e) "ValueError" ∧ s₁.heap.IsGen a g ∧ E (.ref e) (s₁.setGen g .finished)) :
    wpAny (model prog w) A (pyNext (.ref a)) Q E s := by
  unfold pyNext
  refine wpAny_bind (wpAny_attempt (wpAny_callSpecial?_slot (name := Str.ofString "__next__") hg.typeIs slot_gen_next
    (wpAny_call_entry slot_gen_next hg.typeIs entry_gen_next ?_ (args_gen_next _))))
  show wpAny _ A.in1 (Builtin.Generator.genWake (.ref a) (.send .none)) _ _ s
  unfold Builtin.Generator.genWake
  refine wpAny_bind (wpAny_holding (wpAny_genNumber hg (wpAny_bind (wpAny_genState hgs ?_))))
  cases gs with
  | running => exact hgo.elim
  | finished => exact hgo.elim
  | _ =>
    refine wpAny_bind (wpAny_roomToWake hl hroom ?_)
    show wpAny _ A.in1 (.resume g (.send .none) [] _) _ _ s
    refine wpAny_resumeQ hgs hgo (fun x s₁ hx => ?_) (fun v s₁ gs' hb hv => hv.elim)
    obtain ⟨e, rfl, ht, hg₁, hE⟩ := hP x s₁ hx
    show wpAny _ A.in1 (Builtin.Generator.genLeft (.ref a) (.ref e)) _ _ _
    unfold Builtin.Generator.genLeft Builtin.Generator.madeByALambda
    obtain ⟨o, nm, qn, ho, hc, hd, hs⟩ := hg₁
    refine wpAny_bind (wpAny_bind (wpAny_load (s := s₁.setGen g .finished) (o := o) ho (wpAny_pure ?_)))
    rw [hd]
    refine wpAny_bind (wpAny_isInstance (T := "ValueError") (b := false) ht isSubtype_VE_stop ?_)
    rw [Bool.and_false]
    show wpAny _ A.in1 (Builtin.Generator.genEscaped (.ref e)) _ _ _
    unfold Builtin.Generator.genEscaped
    refine wpAny_bind (wpAny_isInstance (T := "ValueError") (b := false) ht isSubtype_VE_stop ?_)
    refine wpAny_throw ?_
    refine wpAny_bind (wpAny_isInstance (T := "ValueError") (b := false) ht isSubtype_VE_stop ?_)
    exact wpAny_throw hE
end
end Mine

end PartRef1
-- part Ref2
section PartRef2
open PySem PySem.W PySem.Calls PyProof.Rows
namespace Mine
theorem fill11 (P : Params) : Mine.hd.heap_39 P = Mine.hd.heap_39 P ∧ PySem.Challenge.rw_pg0014_01.foot = PySem.Challenge.rw_pg0014_01.foot := by
  k_fill
  exact ⟨rfl, rfl⟩

theorem refused_next {w : World} {s : Shared} {mean mg mb} {h₀ : Heap} {L Lr C gl g : Nat} {nm : Str} {rs sc : Scope} {mr mL : Str → Option Value} {vs : List Value} {ns : List Int} {og : Obj} {Q : Option Value → Shared → Prop} {E : Value → Shared → Prop}
    (X : Amb w mean mg mb h₀) (hst : h₀.StaysIn s.heap) (hC : h₀.objs.size ≤ C) (hrs : rs.kind = .function) (hsc : sc.kind = .function) (hL : L < C) (hLr : Lr < C) (hgl : gl < C) (hi : IntsAre vs (0 :: ns))
    (hnr : s.heap.Ns Lr mr) (hnL : s.heap.Ns L mL) (hns : s.heap.Ns C (fun y => if y = Str.ofString "grouping" then some (.ref gl) else none)) (hl : s.heap.IsList gl vs.toArray)
    (hog : s.heap.get? (C + 1) = some og) (hgen : s.heap.IsGen (C + 1) g) (hgs : s.gens[g]? = some (.fresh (.func gBody (gEnv gScope C))))
    (hE : ∀ e t tk h' tk', Heap.FlyingW (hideAll (trunc (C + 2) s.heap) [L, Lr, C]) [envOf nm rs Lr 42 (.ref 41), lEnv sc L] e (.type "ValueError") (.ref t) h' → h'.TupAt t [.str (Str.ofString "invalid grouping") tk] → (hideAll (trunc (C + 2) s.heap) [L, Lr, C]).get? t = none →
      (∀ (b : Nat) o, b < C → s.heap.get? b = some o → (∀ vs, o.data ≠ .fields vs) → ∃ sl, h'.get? b = some { o with slots := sl }) →
      E (.ref e) { s with heap := h', toks := tk', gens := (s.gens.setIfInBounds g .running).setIfInBounds g .finished }) :
    wpAny (model PySem.Challenge.rw_pg0014_01.row.prog w) ((lA sc L).deeper (envOf nm rs Lr 42 (.ref 41))) (pyNext (.ref (C + 1))) Q E s := by
  have hbs : (hideAll (trunc (C + 2) s.heap) [L, Lr, C]).StaysIn s.heap := fun b o e => (trunc_some (of_hideAll _ e)).2
  have hff : s.heap.FunFrames (hideAll (trunc (C + 2) s.heap) [L, Lr, C]) [envOf nm rs Lr 42 (.ref 41), lEnv sc L] :=
    Heap.FunFrames.cons (L := Lr) (by show rs.kind ≠ .module; rw [hrs]; decide) rfl hnr (hideAll_none _ (by simp)) (Heap.FunFrames.cons (L := L) (by show sc.kind ≠ .module; rw [hsc]; decide) rfl hnL (hideAll_none _ (by simp)) trivial)
  have hgb : (hideAll (trunc (C + 2) s.heap) [L, Lr, C]).get? (C + 1) = some og := hideAll_get _ (by rw [trunc_get (Nat.lt_succ_self _)]; exact hog) (fun hm => by
    rcases List.mem_cons.mp hm with q | hm
    · have q' : @Eq Nat (C + 1) L := q
      omega
    rcases List.mem_cons.mp hm with q | hm
    · have q' : @Eq Nat (C + 1) Lr := q
      omega
    have q' : @Eq Nat (C + 1) C := List.mem_singleton.mp hm
    omega)
  refine pyNext_raise (gs := .fresh (.func gBody (gEnv gScope C))) (R := rR (hideAll (trunc (C + 2) s.heap) [L, Lr, C]) [envOf nm rs Lr 42 (.ref 41), lEnv sc L] C) (n := 0) (X.T.nolimit.keeps hst) ?_ hgen hgs ?_ ?_
  · have := lA_room sc L
    show (lA sc L).depth + 1 < recursionLimit
    omega
  · refine ⟨rfl, gen_raise (og := og) X hC hgl rfl rfl hi gScope rfl gBody rfl (s.setGen g .running) hst hbs (hideAll_none _ (by simp)) hff ?_ hog ?_ hns hl⟩
    · intro b o e
      have h1 := trunc_some (of_hideAll _ e)
      have h2 : b ≠ C := fun q => by
        rw [q, hideAll_none _ (by simp)] at e
        cases e
      have h3 := h1.1
      omega
    · intro b hb
      have hb' : b ∈ [Lr, L] := hb
      rcases List.mem_cons.mp hb' with q | hb'
      · rw [q]; exact hLr
      · rw [List.mem_singleton.mp hb']; exact hL
  · rintro r s₁ ⟨e, t, tk, h', tk', rfl, rfl, FW, TA, tn, hk⟩
    refine ⟨e, rfl, FW.there, ?_, hE e t tk h' tk' FW TA tn hk⟩
    obtain ⟨o, nm', qn, ho, r⟩ := hgen
    rw [hog] at ho
    cases ho
    exact ⟨_, nm', qn, FW.1 _ _ hgb, r⟩

section
variable {w : World} {s : Shared} {mean : ExcName → Option Value} {mg mb : Str → Option Value} {Q : Value → Shared → Prop} {E : Value → Shared → Prop} {h₀ : Heap} {L : Nat} {m : Str → Option Value} {news : List (Addr × Obj)}
theorem refused_call {l : Nat} {ws : List Value} {sz : List Int} (X : Amb w mean mg mb h₀) (F : Fr h₀ L s.heap m) (N : News h₀ L s.heap news) (hl : (l, W.listOf ws.toArray 0) ∈ news) (hi : IntsAre ws sz) (hlen : sz.length ≤ 8)
    (hbare : ∀ x ∈ s.gens, x.bare = true) (sc : Scope) (hsc : sc.kind = .function)
    (hQ : ∀ h' tk gens', Fr h₀ L h' m → News h₀ L h' news → (∀ x ∈ gens', x.bare = true) → Q (.bool true) { s with heap := h', toks := tk, gens := gens' }) :
    wpAny (model PySem.Challenge.rw_pg0014_01.row.prog w) (lA sc L) (call (.ref 42) [.ref l]) Q E s := by
  have hLn : h₀.get? L = none := by
    cases e : h₀.get? L with
    | none => rfl
    | some o => have := ltN (Heap.lt_size e); have := F.above; have h3 : h₀.objs.size ≤ L := this; omega
  have st₀ : h₀.StaysIn (hideAll s.heap [L]) := fun b o e => hideAll_get _ (F.keep b o e) fun hm => by
    rw [List.mem_singleton.mp hm, hLn] at e; cases e
  obtain ⟨KX, T⟩ := X.keeps st₀
  have XS : Amb w mean mg mb s.heap := X.keeps F.keep
  refine wpAny_call (enter XS (f := 42) (by k_is) (by k_is) (lA_room0 sc L) (BindsTo.of_eq rfl) (locs rfl) (fun h₁ F₁ N₁ => ?_) rfl rfl rfl (by decide))
  generalize hLr : s.heap.objs.size = Lr at *
  obtain ⟨oL, esL, epL, hoL, hoLr⟩ := id F.ns
  have hLLr : L < Lr := by rw [← hLr]; exact Heap.lt_size hoL
  have Fb : Fr (hideAll s.heap [L]) Lr h₁ (fun y => [(Str.ofString "sizes", Value.ref l)].reverse.lookup y) := ⟨F₁.ns, fun b o e => F₁.keep b o (of_hideAll _ e), by rw [hideAll_size, hLr]; exact Nat.le_refl _⟩
  have Nb : News (hideAll s.heap [L]) Lr h₁ [(L, oL)] := fun p hp => by
    rw [List.mem_singleton.mp hp]
    exact ⟨F₁.keep _ _ hoL, Nat.ne_of_lt hLLr, hideAll_none _ (List.mem_singleton.mpr rfl)⟩
  have hlL : l ≠ L := (N _ hl).2.1
  have hlb : (hideAll s.heap [L]).IsList l ws.toArray := ⟨_, hideAll_get _ (N _ hl).1 (by simpa using hlL), rfl, _, rfl⟩
  clear F₁ N₁
  iterate 10 walk1
  refine wpAny_For ?_
  k_steps
  rename_i Dt h₂ l₁ h₃ Dz h₄ l₃ Dg wg h₅ F₅ N₅ hI l₄
  have X₅ : Amb w mean mg mb h₅ := X.keeps fun b o e => F₅.keep b o (st₀ b o e)
  refine gen_make X₅ (by have := lA_room sc L; show (lA sc L).depth + 1 < recursionLimit; omega) fun h₆ tk₆ og hns hog hgen hk₆ => ?_
  dsimp only at *
  generalize hCC : h₅.objs.size = C at *
  refine wpAny_pyIter_gen hgen ?_
  refine codeAny_forLoop_any (fun _ s' => s' = _) ?_ 0 rfl
  rintro _ _ rfl
  have hLrC : Lr < C := by rw [← hCC]; exact F₅.ns.lt
  have hLC : L < C := Nat.lt_trans hLLr hLrC
  have hDg : Dg < C := by rw [← hCC]; exact Heap.lt_size (N₅ (Dg, _) (List.mem_cons_self ..)).1
  have hDt : Dt < C := by rw [← hCC]; exact Heap.lt_size (N₅ (Dt, W.listOf #[] 0) (by simp)).1
  have hgD := (N₅ (Dg, _) (List.mem_cons_self ..)).1
  have hgT := N₅ (Dt, W.listOf #[] 0) (by simp)
  have hDtL : Dt ≠ L := fun q => by
    have h1 : L < Dt := l₁
    have q' : @Eq Nat Dt L := q
    omega
  have hoL₆ : h₆.get? L = some oL := hk₆ _ _ (N₅ (L, oL) (by simp)).1
  refine refused_next (gl := Dg) (ns := sz) (og := og) (mL := m) (X.keeps st₀) (fun b o e => hk₆ _ _ (F₅.keep b o e)) (by rw [hideAll_size, hLr]; omega) rfl hsc hLC hLrC hDg hI (F₅.ns.keeps hk₆) ⟨oL, esL, epL, hoL₆, hoLr⟩ hns ⟨_, hk₆ _ _ hgD, rfl, _, rfl⟩ hog hgen (Array.getElem?_push_size ..) ?_
  intro e t tk₇ h₇ tk₇' FW TA tn hk₇
  dsimp only at *
  have inB : ∀ (b : Nat) o, h₆.get? b = some o → b < C → b ≠ L → b ≠ Lr → (hideAll (trunc (C + 2) h₆) [L, Lr, C]).get? b = some o := fun b o q h1 h2 h3 => hideAll_get _ (by rw [trunc_get (by omega)]; exact q) (fun hm => by
    rcases List.mem_cons.mp hm with q | hm
    · exact h2 q
    rcases List.mem_cons.mp hm with q | hm
    · exact h3 q
    have q' : @Eq Nat b C := List.mem_singleton.mp hm
    omega)
  have hbB : (hideAll s.heap [L]).StaysIn (hideAll (trunc (C + 2) h₆) [L, Lr, C]) := fun b o q => by
    have h1 : b < Lr := by rw [← hLr]; exact Heap.lt_size (of_hideAll _ q)
    have h2 : b ≠ L := fun z => by rw [z, hideAll_none _ (by simp)] at q; cases q
    exact inB b o (hk₆ _ _ (F₅.keep b o q)) (Nat.lt_trans h1 hLrC) h2 (Nat.ne_of_lt h1)
  refine wpAny_looks_onW rfl rfl FW fun h₈ HW₈ U₈ => ?_
  refine cameBack_W rfl HW₈ fun h₉ HW₉ U₉ => ?_
  refine wpAny_noteFrame_againW rfl HW₉.2.2.2 ?_
  refine wpAny_landsW HW₉ fun h₁₀ FW₁₀ U₁₀ => ?_
  have lowr : ∀ (b : Nat) o, b < C → h₆.get? b = some o → (∀ vs, o.data ≠ .fields vs) → ∃ sl, h₁₀.get? b = some { o with slots := sl } := fun b o h1 h2 h3 => by
    obtain ⟨sl, h4⟩ := hk₇ b o h1 h2 h3
    exact ((U₈.trans U₉).trans U₁₀) b { o with slots := sl } h4 h3
  have nsr : ∀ {b : Nat} {m' : Str → Option Value}, b < C → h₆.Ns b m' → ∃ o es ep, h₁₀.get? b = some o ∧ o.data = .dict es ep ∧ StrKeys es ∧ ∀ y, nsFind es y = m' y := fun {b m'} h1 hn => by
    obtain ⟨o, es, ep, ho, hd, r⟩ := hn
    obtain ⟨sl, h2⟩ := lowr b o h1 ho fun vs q => by rw [hd] at q; cases q
    exact ⟨_, es, ep, h2, hd, r⟩
  have FA : Fr (hideAll s.heap [L]) Lr h₁₀ _ := ⟨nsr hLrC (F₅.ns.keeps hk₆), fun b o q => FW₁₀.1 b o (hbB b o q), F₅.above⟩
  clear F₅ N₅
  refine wpAny_handleBy_builtin_as (X := "ValueError") (T := "ValueError") (b := true) PySem.F.isExc_ValueError PySem.F.notTuple_ValueError (by rw [isSubtype_type]; kernel_rfl) ?_
  have NA : News (hideAll s.heap [L]) Lr h₁₀ [] := News.nil
  walk1
  refine ⟨rfl, FW₁₀.there, ?_⟩
  refine lands_againW FW₁₀ fun h₁₁ FW₁₁ U₁₁ => ?_
  have FB := FA.of_stays (fun b o q => FW₁₁.1 b o (hbB b o q)) U₁₁
  obtain ⟨oe, we, hoe, hoec, hoed, hoe0⟩ := FW₁₁.first
  obtain ⟨ot, nt, hot, hotc, hotd⟩ := ((((TA.of_slots U₈).of_slots U₉).of_slots U₁₀).of_slots U₁₁)
  obtain ⟨oM, eM, pM, hoM, hoMr⟩ := U₁₁.ns (nsr hLC ⟨oL, esL, epL, hoL₆, hoLr⟩)
  have NB0 : News (hideAll s.heap [L]) Lr h₁₁ [(Dt, W.listOf #[] 0), (L, oM)] := fun p hp => by
    rcases List.mem_cons.mp hp with rfl | hp
    · exact ⟨FW₁₁.1 _ _ (inB Dt _ (hk₆ _ _ hgT.1) hDt hDtL hgT.2.1), hgT.2⟩
    · rw [List.mem_singleton.mp hp]
      exact ⟨hoM, Nat.ne_of_lt hLLr, hideAll_none _ (List.mem_singleton.mpr rfl)⟩
  have NB := News.more FB (News.more FB NB0 hot (fun es n q => by rw [hotd] at q; cases q) (fresh_of_stays hbB tn)) hoe (fun es n q => by rw [hoed] at q; cases q) (fresh_of_stays hbB FW₁₁.2.1)
  have GB : Got [(e, oe), (t, ot), (Dt, W.listOf #[] 0), (L, oM)] e t (.type "ValueError") [.str (Str.ofString "invalid grouping") tk₇] := ⟨oe, ot, we, nt, by simp, by simp, hoec, hoed, hoe0, hotc, hotd⟩
  refine stN FB NB (fun h₁₂ F₁₂ N₁₂ => ?_) rfl rfl
  clear FA NA FB NB NB0 lowr nsr inB hbB
  clear FW TA FW₁₀ FW₁₁ HW₈ HW₉ U₈ U₉ U₁₀ U₁₁ hk₇ hk₆ hns hog hgen X₅ hgD hgT hoL₆ XS hlb tn hI hi hlen hotd hoed hotc hoec hoe0 hot hoe
  k_steps
  rename_i hZ vZ FZ NZ
  rw [show (Str.ofString "invalid grouping" == Str.ofString "invalid grouping") = true from by simp]
  refine hQ hZ _ _ ⟨⟨oM, eM, pM, (NZ (L, oM) (by simp)).1, hoMr⟩, fun b o q => FZ.keep b o (st₀ b o q), F.above⟩ (fun p hp => ⟨FZ.keep _ _ (hideAll_get _ (N p hp).1 (by simpa using (N p hp).2.1)), (N p hp).2⟩) ?_
  refine (GenOnlyQ.of ((GenOnly.setGen { s with gens := s.gens.push (GenState.fresh (Code.func gBody (gEnv gScope C))) } s.gens.size .running).trans (GenOnly.setGen _ s.gens.size .finished)) (setGen_self (gs := .running) (setGen_self (gs := .fresh (.func gBody (gEnv gScope C))) (Array.getElem?_push_size ..))) rfl).bare fun x hx => ?_
  rcases Array.mem_push.mp hx with hx | rfl
  · exact hbare x hx
  · rfl
end
end Mine

end PartRef2
-- part Law2
section PartLaw2
open PySem PySem.W PySem.Calls PyProof.Rows
namespace Mine
theorem fill12 (P : Params) : Mine.hd.heap_39 P = Mine.hd.heap_39 P ∧ PySem.Challenge.rw_pg0014_01.foot = PySem.Challenge.rw_pg0014_01.foot := by
  k_fill
  exact ⟨rfl, rfl⟩

local macro_rules | `(tactic| walk_at "eval ListComp") => `(tactic| (k_here; k_dflt (refine comp_eval rfl rfl (by decide) ?_)))
local macro_rules | `(tactic| walk_at "eval Name") => `(tactic| (k_here; (with_reducible show wpAny _ _ (eval _ (compEnvC _ _ _ _)) _ _ _); k_dflt (refine' cname_L ?k1 ?k2 ?_ ?k3 ?k4 ?k5; (case k1 => k_asm); (case k2 => first | assumption | exact rfl); (case k3 => exact rfl); (case k4 => exact rfl); (case k5 => decide))))

section
variable {w : World} {s : Shared} {mean : ExcName → Option Value} {mg mb : Str → Option Value} {Q : Flow → Shared → Prop} {E : Value → Shared → Prop} {h₀ : Heap} {L : Nat} {m u : Str → Option Value} {rest : List (Addr × Obj)}

theorem law_S5 (KX : (Mine.hd.heap_39 w.params).In h₀) (T : Top Mine.hd.view_39 (looseW Mine.hd.view_39 []) mean mg mb h₀)
    {ws wt items : List Value} {D Ds Dt : Nat} {kd : Int} {t : Tok} {sz tt : List Int} {o1 : Obj} {nn : Nat}
    (F : Fr h₀ L s.heap (fun y => if y = Str.ofString "size" then u y else if y = Str.ofString "told" then some (.ref Dt) else if y = Str.ofString "kind" then some (.int kd t) else if y = Str.ofString "sizes" then some (.ref D) else m y))
    (N : News h₀ L s.heap ((Ds, W.listOf items.toArray nn) :: (L + 1, o1) :: (D, W.listOf ws.toArray 0) :: (Dt, W.listOf wt.toArray 0) :: rest)) (ho : o1.data = .cell (some (.ref Ds)))
    (hi : IntsAre ws sz) (hlen : sz.length ≤ 8) (hit : IntsAre wt tt) (htl : tt.length ≤ 9) (his : IntsAre items (tt.map (254 + ·)))
    (hbare : ∀ x ∈ s.gens, x.bare = true)
    (hQ : ∀ h' tk gens', Fr h₀ L h' (fun y => if y = Str.ofString "size" then u y else if y = Str.ofString "told" then some (.ref Dt) else if y = Str.ofString "kind" then some (.int kd t) else if y = Str.ofString "sizes" then some (.ref D) else m y) →
      News h₀ L h' ((Ds, W.listOf items.toArray nn) :: (L + 1, o1) :: (D, W.listOf ws.toArray 0) :: (Dt, W.listOf wt.toArray 0) :: rest) → (∀ x ∈ gens', x.bare = true) → Q .next { s with heap := h', toks := tk, gens := gens' })
    (sc : Scope) (hsc : sc = lScope) (st : Stmt) (hst : st = lBody.getD 5 (.Pass default)) :
    wpAny (model PySem.Challenge.rw_pg0014_01.row.prog w) (lA sc L) (exec st (lEnv sc L)) Q E s := by
  conv at hsc => rhs; whnf
  conv at hst => rhs; whnf
  subst hsc hst
  k_steps
  refine comp_list (D := s.heap.objs.size + 1) rfl ⟨_, (N (Dt, W.listOf wt.toArray 0) (by simp)).1, rfl, _, rfl⟩ (by rw [hit.length]; omega) rfl (by decide) rfl rfl (fun i ys _ => IntsAre ys ((tt.map (254 + ·)).take i)) (intInv _ _ _) ?_ ?_
  · rintro i v s₃ m₃ ys hv hk ⟨h3, tk3, rfl⟩ F₃ hm hInv
    obtain ⟨KX₃, T₃⟩ := amb_trunc (C := s.heap.objs.size + 1 + 1) ⟨KX, T⟩ F hk (by omega)
    obtain ⟨x, t, rfl, hx⟩ := intsAre_get hit hv
    clear F N
    have N₃ : News (trunc (s.heap.objs.size + 1 + 1) h3) (s.heap.objs.size + 1 + 1) h3 [] := News.nil
    refine wpAny_tests_nil ?_
    rw [if_pos rfl]
    k_steps
    refine ⟨_, _, _, rfl, by assumption, intsAre_step hInv ?_⟩
    rw [List.getElem?_map, hx]
    rfl
  · intro h3 tk3 ys hpl hInv hk
    obtain ⟨n2, hpl⟩ := hpl
    have F3 := Fr.keeps F hk
    have N3 := news_add F N hk (Nat.le_succ _) hpl
    have hfull : IntsAre ys (tt.map (254 + ·)) := by
      rw [List.take_of_length_le (by rw [List.length_map, hit.length]; exact Nat.le_refl _)] at hInv
      exact hInv
    clear F N hInv
    k_steps
    refine refused_call (s := { heap := h3, gens := s.gens, drawn := s.drawn, toks := tk3, os := s.os }) (l := D) ⟨KX, T⟩ F3 N3 (.tail _ (.tail _ (.tail _ (.head _)))) hi hlen hbare _ ?_ fun h4 tk4 g4 F4 N4 hb4 => ?_
    · rfl
    clear F3 N3
    k_steps
    exact hQ _ _ _ (by assumption) (cb_drop N4 fun p hp => List.mem_cons_of_mem _ hp) hb4
end
end Mine

end PartLaw2
-- part Law3
section PartLaw3
open PySem PySem.W PySem.Calls PyProof.Rows
namespace Mine
theorem fill13 (P : Params) : Mine.hd.heap_39 P = Mine.hd.heap_39 P ∧ PySem.Challenge.rw_pg0014_01.foot = PySem.Challenge.rw_pg0014_01.foot := by
  k_fill
  exact ⟨rfl, rfl⟩

local macro_rules | `(tactic| walk_at "eval ListComp") => `(tactic| (k_here; k_dflt (refine comp_eval rfl rfl (by decide) ?_)))
local macro_rules | `(tactic| walk_at "eval Name") => `(tactic| (k_here; (with_reducible show wpAny _ _ (eval _ (compEnvC _ _ _ _)) _ _ _); k_dflt (refine' cname_L ?k1 ?k2 ?_ ?k3 ?k4 ?k5; (case k1 => k_asm); (case k2 => first | assumption | exact rfl); (case k3 => exact rfl); (case k4 => exact rfl); (case k5 => decide))))
local macro_rules | `(tactic| walk_at "eval Name") => `(tactic| (k_here; (with_reducible show wpAny _ _ (eval _ (compEnvC _ _ _ _)) _ _ _); k_dflt (refine' cname_C ?k1 ?k2 ?k6 ?_ ?k3 ?k4 ?k5; (case k1 => k_asm); (case k2 => exact rfl); (case k6 => assumption); (case k3 => exact rfl); (case k4 => exact rfl); (case k5 => decide))))

def stepOf (x : Int) : Int := if x = 1 then 1 else 1 - x

section
variable {w : World} {s : Shared} {mean : ExcName → Option Value} {mg mb : Str → Option Value} {Q : Flow → Shared → Prop} {E : Value → Shared → Prop} {h₀ : Heap} {L : Nat} {m u : Str → Option Value} {rest : List (Addr × Obj)}

theorem law_S6 (KX : (Mine.hd.heap_39 w.params).In h₀) (T : Top Mine.hd.view_39 (looseW Mine.hd.view_39 []) mean mg mb h₀)
    {wt : List Value} {Dt : Nat} {tt : List Int} {o2 : Obj} {v₀ : Option Value}
    (F : Fr h₀ L s.heap (fun y => if y = Str.ofString "size" then u y else if y = Str.ofString "told" then some (.ref Dt) else m y))
    (N : News h₀ L s.heap ((L + 1 + 1, o2) :: (Dt, W.listOf wt.toArray 0) :: rest)) (ho : o2.data = .cell v₀) (hn : ∀ p ∈ (Dt, W.listOf wt.toArray 0) :: rest, (p.1 : Nat) ≠ L + 1 + 1)
    (hit : IntsAre wt tt) (htl : tt.length ≤ 9)
    (hQ : ∀ h' tk (Dst : Nat) ys n2 o2', Fr h₀ L h' (fun y => if y = Str.ofString "size" then u y else if y = Str.ofString "told" then some (.ref Dt) else m y) →
      News h₀ L h' ((L + 1 + 1, o2') :: (Dst, W.listOf ys.toArray n2) :: (Dt, W.listOf wt.toArray 0) :: rest) → o2'.data = .cell (some (.ref Dst)) → IntsAre ys (tt.map stepOf) → Q .next { s with heap := h', toks := tk })
    (sc : Scope) (hsc : sc = lScope) (st : Stmt) (hst : st = lBody.getD 6 (.Pass default)) :
    wpAny (model PySem.Challenge.rw_pg0014_01.row.prog w) (lA sc L) (exec st (lEnv sc L)) Q E s := by
  conv at hsc => rhs; whnf
  conv at hst => rhs; whnf
  subst hsc hst
  k_steps
  refine comp_list (D := s.heap.objs.size + 1) rfl ⟨_, (N (Dt, W.listOf wt.toArray 0) (by simp)).1, rfl, _, rfl⟩ (by rw [hit.length]; omega) rfl (by decide) rfl rfl (fun i ys _ => IntsAre ys ((tt.map stepOf).take i)) (intInv _ _ _) ?_ ?_
  · rintro i v s₃ m₃ ys hv hk ⟨h3, tk3, rfl⟩ F₃ hm hInv
    obtain ⟨KX₃, T₃⟩ := amb_trunc (C := s.heap.objs.size + 1 + 1) ⟨KX, T⟩ F hk (by omega)
    obtain ⟨x, t, rfl, hx⟩ := intsAre_get hit hv
    clear F N
    have N₃ : News (trunc (s.heap.objs.size + 1 + 1) h3) (s.heap.objs.size + 1 + 1) h3 [] := News.nil
    refine wpAny_tests_nil ?_
    rw [if_pos rfl]
    k_steps
    · refine ⟨_, _, _, rfl, by assumption, intsAre_step hInv ?_⟩
      rw [List.getElem?_map, hx]
      simp only [Option.map_some, stepOf]
      rw [if_pos (by assumption)]
    · refine ⟨_, _, _, rfl, by assumption, intsAre_step hInv ?_⟩
      rw [List.getElem?_map, hx]
      simp only [Option.map_some, stepOf]
      rw [if_neg (by assumption)]
  · intro h3 tk3 ys hpl hInv hk
    obtain ⟨n2, hpl⟩ := hpl
    have F3 := Fr.keeps F hk
    have N3 := news_add F N hk (Nat.le_succ _) hpl
    have hfull : IntsAre ys (tt.map stepOf) := by
      rw [List.take_of_length_le (by rw [List.length_map, hit.length]; exact Nat.le_refl _)] at hInv
      exact hInv
    have hlt : L + 1 + 1 < s.heap.objs.size := Heap.lt_size (N (L + 1 + 1, o2) (by simp)).1
    clear F N hInv
    refine storeX_C (g := fun o' => (L + 1 + 1, o') :: (s.heap.objs.size + 1, W.listOf ys.toArray n2) :: (Dt, W.listOf wt.toArray 0) :: rest) F3 (cb_drop N3 fun p hp => ?_) rfl (UpdF.head fun p hp => ?_) ho ?_
    · rcases List.mem_cons.mp hp with rfl | hp
      · simp
      · rcases List.mem_cons.mp hp with rfl | hp
        · exact .head _
        · exact .tail _ (.tail _ hp)
    · rcases List.mem_cons.mp hp with rfl | hp
      · intro q
        have q' : @Eq Nat (s.heap.objs.size + 1) (L + 1 + 1) := q
        omega
      · exact hn p hp
    · intro h' o' F2 N2 hd
      exact hQ _ _ _ _ _ _ F2 N2 hd hfull

theorem law_S7 (KX : (Mine.hd.heap_39 w.params).In h₀) (T : Top Mine.hd.view_39 (looseW Mine.hd.view_39 []) mean mg mb h₀)
    {ys : List Value} {Dst : Nat} {ss : List Int} {o2 o3 : Obj} {v₀ : Option Value} {n2 : Nat}
    (F : Fr h₀ L s.heap m)
    (N : News h₀ L s.heap ((L + 1 + 1 + 1, o3) :: (L + 1 + 1, o2) :: (Dst, W.listOf ys.toArray n2) :: rest)) (ho3 : o3.data = .cell v₀) (ho2 : o2.data = .cell (some (.ref Dst))) (hn : ∀ p ∈ (Dst, W.listOf ys.toArray n2) :: rest, (p.1 : Nat) ≠ L + 1 + 1 + 1)
    (hit : IntsAre ys ss) (htl : ss.length ≤ 9)
    (hQ : ∀ h' tk t' o3', Fr h₀ L h' m →
      News h₀ L h' ((L + 1 + 1 + 1, o3') :: (L + 1 + 1, o2) :: (Dst, W.listOf ys.toArray n2) :: rest) → o3'.data = .cell (some (.int ss.sum t')) → Q .next { s with heap := h', toks := tk })
    (sc : Scope) (hsc : sc = lScope) (st : Stmt) (hst : st = lBody.getD 7 (.Pass default)) :
    wpAny (model PySem.Challenge.rw_pg0014_01.row.prog w) (lA sc L) (exec st (lEnv sc L)) Q E s := by
  conv at hsc => rhs; whnf
  conv at hst => rhs; whnf
  subst hsc hst
  have hyl : ys.length ≤ 9 := by rw [hit.length]; exact htl
  k_steps
  rename_i h' tk' t' F' N'
  refine storeX_C (g := fun o' => (L + 1 + 1 + 1, o') :: (L + 1 + 1, o2) :: (Dst, W.listOf ys.toArray n2) :: rest) F' N' rfl (UpdF.head fun p hp => ?_) ho3 ?_
  · rcases List.mem_cons.mp hp with rfl | hp
    · intro q
      have q' : @Eq Nat (L + 1 + 1) (L + 1 + 1 + 1) := q
      omega
    · exact hn p hp
  · intro h' o' F2 N2 hd
    exact hQ _ _ _ _ F2 N2 hd

def htsOf (ss : List Int) : List Int := (List.range ss.length).map fun k => (ss.take k).sum

theorem trunc_cell {hb h : Heap} {C c : Nat} {o : Obj} {v : Option Value} (hk : ∀ b o, hb.get? b = some o → h.get? b = some o) (hC : hb.objs.size ≤ C) (e : hb.get? c = some o) (hd : o.data = .cell v) : (trunc C h).IsCell c v :=
  ⟨o, by rw [trunc_get (Nat.lt_of_lt_of_le (Heap.lt_size e) hC)]; exact hk _ _ e, hd⟩
theorem trunc_list {hb h : Heap} {C c : Nat} {ys : List Value} {n : Nat} (hk : ∀ b o, hb.get? b = some o → h.get? b = some o) (hC : hb.objs.size ≤ C) (e : hb.get? c = some (W.listOf ys.toArray n)) : (trunc C h).IsList c ys.toArray :=
  ⟨_, by rw [trunc_get (Nat.lt_of_lt_of_le (Heap.lt_size e) hC)]; exact hk _ _ e, rfl, _, rfl⟩

theorem law_S8 (KX : (Mine.hd.heap_39 w.params).In h₀) (T : Top Mine.hd.view_39 (looseW Mine.hd.view_39 []) mean mg mb h₀)
    {ys : List Value} {Dst : Nat} {ss : List Int} {o2 o5 : Obj} {v₀ : Option Value} {n2 : Nat}
    (F : Fr h₀ L s.heap m)
    (N : News h₀ L s.heap ((L + 1 + 1 + 1 + 1 + 1, o5) :: (L + 1 + 1, o2) :: (Dst, W.listOf ys.toArray n2) :: rest)) (ho5 : o5.data = .cell v₀) (ho2 : o2.data = .cell (some (.ref Dst))) (hn : ∀ p ∈ (Dst, W.listOf ys.toArray n2) :: rest, (p.1 : Nat) ≠ L + 1 + 1 + 1 + 1 + 1)
    (hit : IntsAre ys ss) (htl : ss.length ≤ 9)
    (hQ : ∀ h' tk (Dh : Nat) zs n3 o5', Fr h₀ L h' m →
      News h₀ L h' ((L + 1 + 1 + 1 + 1 + 1, o5') :: (Dh, W.listOf zs.toArray n3) :: (L + 1 + 1, o2) :: (Dst, W.listOf ys.toArray n2) :: rest) → o5'.data = .cell (some (.ref Dh)) → IntsAre zs (htsOf ss) → Q .next { s with heap := h', toks := tk })
    (sc : Scope) (hsc : sc = lScope) (st : Stmt) (hst : st = lBody.getD 8 (.Pass default)) :
    wpAny (model PySem.Challenge.rw_pg0014_01.row.prog w) (lA sc L) (exec st (lEnv sc L)) Q E s := by
  conv at hsc => rhs; whnf
  conv at hst => rhs; whnf
  subst hsc hst
  have hyl : ys.length ≤ 9 := by rw [hit.length]; exact htl
  k_steps
  rename_i h1 tk1 t1 u1 v1 hr F1 N1 hk1
  clear hk1
  refine comp_range_at (D := h1.objs.size + 1) rfl hr (Int.le_refl 0) (by omega) (by omega) (by omega) (n := ss.length) (by omega) rfl (by decide) rfl rfl (fun i ys _ => IntsAre ys ((htsOf ss).take i)) (intInv _ _ _) ?_ ?_
  · rintro i t s₃ m₃ zs hi hk ⟨h3, tk3, rfl⟩ F₃ hm hInv
    dsimp only at hk F₃ hm hInv ⊢
    obtain ⟨KX₃, T₃⟩ := amb_trunc (C := h1.objs.size + 1 + 1) ⟨KX, T⟩ F1 hk (by omega)
    have hc2 : (trunc (h1.objs.size + 1 + 1) h3).IsCell (L + 1 + 1) (some (.ref Dst)) := trunc_cell (C := h1.objs.size + 1 + 1) hk (by omega) (N1 (L + 1 + 1, o2) (by simp)).1 ho2
    have hl2 : (trunc (h1.objs.size + 1 + 1) h3).IsList Dst ys.toArray := trunc_list (C := h1.objs.size + 1 + 1) hk (by omega) (N1 (Dst, W.listOf ys.toArray n2) (by simp)).1
    clear F1 N1
    have N₃ : News (trunc (h1.objs.size + 1 + 1) h3) (h1.objs.size + 1 + 1) h3 [] := News.nil
    refine wpAny_tests_nil ?_
    rw [if_pos rfl]
    k_steps
    refine ⟨_, _, _, rfl, by assumption, intsAre_step hInv ?_⟩
    rw [show ((0 : Int) + (i : Int)).toNat = i from by omega]
    simp [htsOf, hi]
  · intro h3 tk3 m3 zs hns hpl hInv hk
    refine post_none (intInv (htsOf ss) (h1.objs.size + 1) [h1.objs.size]) rfl hns hpl hInv hk fun h3 tk3 hpl hInv hk => ?_
    obtain ⟨n3, hpl⟩ := hpl
    have F3 := Fr.keeps F1 hk
    have N3 := news_add F1 N1 hk (Nat.le_succ _) hpl
    have hfull : IntsAre zs (htsOf ss) := by
      rw [List.take_of_length_le (by simp [htsOf])] at hInv
      exact hInv
    have hlt : L + 1 + 1 + 1 + 1 + 1 < h1.objs.size := Heap.lt_size (N1 (L + 1 + 1 + 1 + 1 + 1, o5) (by simp)).1
    clear F1 N1 hInv
    refine storeX_C (g := fun o' => (L + 1 + 1 + 1 + 1 + 1, o') :: (h1.objs.size + 1, W.listOf zs.toArray n3) :: (L + 1 + 1, o2) :: (Dst, W.listOf ys.toArray n2) :: rest) F3 (cb_drop N3 fun p hp => ?_) rfl (UpdF.head fun p hp => ?_) ho5 ?_
    · rcases List.mem_cons.mp hp with rfl | hp
      · simp
      · rcases List.mem_cons.mp hp with rfl | hp
        · exact .head _
        · exact .tail _ (.tail _ hp)
    · rcases List.mem_cons.mp hp with rfl | hp
      · intro q
        have q' : @Eq Nat (h1.objs.size + 1) (L + 1 + 1 + 1 + 1 + 1) := q
        omega
      · rcases List.mem_cons.mp hp with rfl | hp
        · intro q
          have q' : @Eq Nat (L + 1 + 1) (L + 1 + 1 + 1 + 1 + 1) := q
          omega
        · exact hn p hp
    · intro h' o' F2 N2 hd
      exact hQ _ _ _ _ _ _ F2 N2 hd hfull

theorem law_S9 (KX : (Mine.hd.heap_39 w.params).In h₀) (T : Top Mine.hd.view_39 (looseW Mine.hd.view_39 []) mean mg mb h₀)
    (F : Fr h₀ L s.heap m) (N : News h₀ L s.heap rest)
    (hQ : ∀ h' tk (Du : Nat), Fr h₀ L h' (fun y => if y = Str.ofString "due" then some (.ref Du) else m y) → News h₀ L h' ((Du, W.listOf #[] 0) :: rest) → (∀ p ∈ rest, (p.1 : Nat) ≠ Du) → Q .next { s with heap := h', toks := tk })
    (sc : Scope) (hsc : sc = lScope) (st : Stmt) (hst : st = lBody.getD 9 (.Pass default)) :
    wpAny (model PySem.Challenge.rw_pg0014_01.row.prog w) (lA sc L) (exec st (lEnv sc L)) Q E s := by
  conv at hsc => rhs; whnf
  conv at hst => rhs; whnf
  subst hsc hst
  k_steps
  rename_i l' h2 l1 h3 F' N'
  exact hQ _ _ _ F' N' fun p hp => Nat.ne_of_lt (l1 p hp)
end
end Mine

end PartLaw3
-- part Law4
section PartLaw4
open PySem PySem.W PySem.Calls PyProof.Rows
namespace Mine
theorem fill14 (P : Params) : Mine.hd.heap_39 P = Mine.hd.heap_39 P ∧ PySem.Challenge.rw_pg0014_01.foot = PySem.Challenge.rw_pg0014_01.foot := by
  k_fill
  exact ⟨rfl, rfl⟩

local macro_rules | `(tactic| walk_at "eval ListComp") => `(tactic| (k_here; k_dflt (refine comp_eval rfl rfl (by decide) ?_)))
local macro_rules | `(tactic| walk_at "eval Name") => `(tactic| (k_here; (with_reducible show wpAny _ _ (eval _ (compEnvC _ _ _ _)) _ _ _); k_dflt (refine' cname_L ?k1 ?k2 ?_ ?k3 ?k4 ?k5; (case k1 => k_asm); (case k2 => first | assumption | exact rfl); (case k3 => exact rfl); (case k4 => exact rfl); (case k5 => decide))))
local macro_rules | `(tactic| walk_at "eval Name") => `(tactic| (k_here; (with_reducible show wpAny _ _ (eval _ (compEnvC _ _ _ _)) _ _ _); k_dflt (refine' cname_C ?k1 ?k2 ?k6 ?_ ?k3 ?k4 ?k5; (case k1 => k_asm); (case k2 => exact rfl); (case k6 => assumption); (case k3 => exact rfl); (case k4 => exact rfl); (case k5 => decide))))

/-- the numbers that a test lets through -/
def selOf (p : Nat → Bool) (f : Nat → Int) (i : Nat) : List Int := ((List.range i).filter p).map f
theorem selOf_yes {p : Nat → Bool} {f : Nat → Int} {i : Nat} (h : p i = true) : selOf p f (i + 1) = selOf p f i ++ [f i] := by
  unfold selOf
  rw [List.range_succ, List.filter_append, List.map_append]
  simp [h]
theorem selOf_no {p : Nat → Bool} {f : Nat → Int} {i : Nat} (h : p i = false) : selOf p f (i + 1) = selOf p f i := by
  unfold selOf
  rw [List.range_succ, List.filter_append, List.map_append]
  simp [h]
theorem selOf_len {p : Nat → Bool} {f : Nat → Int} {i : Nat} : (selOf p f i).length ≤ i := by
  unfold selOf
  rw [List.length_map]
  exact Nat.le_trans (List.length_filter_le _ _) (by simp)
theorem selInv (p : Nat → Bool) (f : Nat → Int) (D : Nat) (w₁ : List Addr) : CInv D w₁ (fun i ys _ => IntsAre ys (selOf p f i)) where
  stab := fun _ _ _ _ h _ => h
  start := fun _ => .nil
  len := fun i ys _ h => by rw [h.length]; exact selOf_len

section
variable {w : World} {s : Shared} {mean : ExcName → Option Value} {mg mb : Str → Option Value} {Q : Flow → Shared → Prop} {E : Value → Shared → Prop} {h₀ : Heap} {L : Nat} {m u ua ub : Str → Option Value} {rest : List (Addr × Obj)}

theorem law_S10_ahead (KX : (Mine.hd.heap_39 w.params).In h₀) (T : Top Mine.hd.view_39 (looseW Mine.hd.view_39 []) mean mg mb h₀)
    {zs : List Value} {Dh k : Nat} {hts : List Int} {o4 o5 : Obj} {n3 : Nat} {tk : Tok}
    (F : Fr h₀ L s.heap m)
    (N : News h₀ L s.heap ((L + 1 + 1 + 1 + 1, o4) :: (L + 1 + 1 + 1 + 1 + 1, o5) :: (Dh, W.listOf zs.toArray n3) :: rest))
    (ho4 : o4.data = .cell (some (.int (k : Int) tk))) (ho5 : o5.data = .cell (some (.ref Dh)))
    (hz : IntsAre zs hts) (hzl : hts.length ≤ 9) (hk9 : k < hts.length)
    (hQ : ∀ h' tk (Da : Nat) ys n2, Fr h₀ L h' (fun y => if y = Str.ofString "ahead" then some (.ref Da) else m y) →
      News h₀ L h' ((Da, W.listOf ys.toArray n2) :: (L + 1 + 1 + 1 + 1, o4) :: (L + 1 + 1 + 1 + 1 + 1, o5) :: (Dh, W.listOf zs.toArray n3) :: rest) → IntsAre ys (selOf (fun j => decide (hts.getD k 0 ≤ hts.getD j 0)) (fun j => (j : Int)) k) → (∀ p ∈ (L + 1 + 1 + 1 + 1, o4) :: (L + 1 + 1 + 1 + 1 + 1, o5) :: (Dh, W.listOf zs.toArray n3) :: rest, (p.1 : Nat) < Da) → Q .next { s with heap := h', toks := tk })
    (sc : Scope) (hsc : sc = lScope) (st : Stmt) (hst : st = (match lBody.getD 10 (.Pass default) with | .For _ _ b _ _ => b | _ => []).getD 0 (.Pass default)) :
    wpAny (model PySem.Challenge.rw_pg0014_01.row.prog w) (lA sc L) (exec st (lEnv sc L)) Q E s := by
  conv at hsc => rhs; whnf
  conv at hst => rhs; whnf
  subst hsc hst
  have hzl' : zs.length ≤ 9 := by rw [hz.length]; exact hzl
  refine comp_assign rfl rfl rfl (by decide) ?_
  k_steps
  rename_i h1 tk1 t1 u1 v1 hr F1 N1 hk1
  clear hk1
  refine comp_range_at (D := h1.objs.size + 1) rfl hr (Int.le_refl 0) (by omega) (by omega) (by omega) (n := k) (by omega) rfl (by decide) rfl rfl (fun i ys _ => IntsAre ys (selOf (fun j => decide (hts.getD k 0 ≤ hts.getD j 0)) (fun j => (j : Int)) i)) (selInv _ _ _ _) ?_ ?_
  · rintro i t s₃ m₃ ys hi hk ⟨h3, tk3, rfl⟩ F₃ hm hInv
    dsimp only at hk F₃ hm hInv ⊢
    obtain ⟨KX₃, T₃⟩ := amb_trunc (C := h1.objs.size + 1 + 1) ⟨KX, T⟩ F1 hk (by omega)
    have hc4 : (trunc (h1.objs.size + 1 + 1) h3).IsCell (L + 1 + 1 + 1 + 1) (some (.int (k : Int) tk)) := trunc_cell (C := h1.objs.size + 1 + 1) hk (by omega) (N1 (L + 1 + 1 + 1 + 1, o4) (by simp)).1 ho4
    have hc5 : (trunc (h1.objs.size + 1 + 1) h3).IsCell (L + 1 + 1 + 1 + 1 + 1) (some (.ref Dh)) := trunc_cell (C := h1.objs.size + 1 + 1) hk (by omega) (N1 (L + 1 + 1 + 1 + 1 + 1, o5) (by simp)).1 ho5
    have hl2 : (trunc (h1.objs.size + 1 + 1) h3).IsList Dh zs.toArray := trunc_list (C := h1.objs.size + 1 + 1) hk (by omega) (N1 (Dh, W.listOf zs.toArray n3) (by simp)).1
    clear F1 N1
    have N₃ : News (trunc (h1.objs.size + 1 + 1) h3) (h1.objs.size + 1 + 1) h3 [] := News.nil
    refine wpAny_tests_one ?_
    k_steps
    all_goals have e0 : ((0 : Int) + (i : Int)).toNat = i := by omega
    all_goals have ek : ((k : Int)).toNat = k := by omega
    · rename_i hy
      rw [e0, ek] at hy
      refine ⟨_, _, _, rfl, F₃, ?_⟩
      rw [selOf_yes (by simpa using hy), show ((0 : Int) + (i : Int)) = (i : Int) from by omega]
      exact ksk_snoc hInv
    · rename_i hy
      rw [e0, ek] at hy
      refine ⟨_, _, _, rfl, F₃, ?_⟩
      rw [selOf_no (by simpa using hy)]
      exact hInv
  · intro h3 tk3 m3 ys hns hpl hInv hk
    refine post_local (selInv _ _ _ _) rfl F1 N1 hns hpl hInv hk rfl rfl fun h3 tk3 n2 F3 N3 hInv => ?_
    exact hQ _ _ _ _ _ F3 N3 hInv fun p hp => Nat.lt_succ_of_lt (Heap.lt_size (N1 p hp).1)

theorem law_S10_behind (KX : (Mine.hd.heap_39 w.params).In h₀) (T : Top Mine.hd.view_39 (looseW Mine.hd.view_39 []) mean mg mb h₀)
    {zs wt : List Value} {Dh Dt Da k : Nat} {hts tt : List Int} {o3 o4 o5 : Obj} {n3 : Nat} {tk t3 : Tok} {left : Int}
    (F : Fr h₀ L s.heap (fun y => if y = Str.ofString "ahead" then some (.ref Da) else if y = Str.ofString "behind" then ub y else if y = Str.ofString "due" then u y else if y = Str.ofString "size" then ua y else if y = Str.ofString "told" then some (.ref Dt) else m y))
    (N : News h₀ L s.heap ((L + 1 + 1 + 1, o3) :: (L + 1 + 1 + 1 + 1, o4) :: (L + 1 + 1 + 1 + 1 + 1, o5) :: (Dh, W.listOf zs.toArray n3) :: (Dt, W.listOf wt.toArray 0) :: rest))
    (ho3 : o3.data = .cell (some (.int left t3))) (ho4 : o4.data = .cell (some (.int (k : Int) tk))) (ho5 : o5.data = .cell (some (.ref Dh)))
    (hz : IntsAre zs hts) (hzl : hts.length ≤ 9) (hk9 : k < hts.length) (hit : IntsAre wt tt) (htl : tt.length = hts.length)
    (hQ : ∀ h' tk (Db : Nat) ys n2, Fr h₀ L h' (fun y => if y = Str.ofString "behind" then some (.ref Db) else if y = Str.ofString "ahead" then some (.ref Da) else if y = Str.ofString "behind" then ub y else if y = Str.ofString "due" then u y else if y = Str.ofString "size" then ua y else if y = Str.ofString "told" then some (.ref Dt) else m y) →
      News h₀ L h' ((Db, W.listOf ys.toArray n2) :: (L + 1 + 1 + 1, o3) :: (L + 1 + 1 + 1 + 1, o4) :: (L + 1 + 1 + 1 + 1 + 1, o5) :: (Dh, W.listOf zs.toArray n3) :: (Dt, W.listOf wt.toArray 0) :: rest) →
      IntsAre ys (selOf (fun j => decide (hts.getD k 0 ≤ hts.getD (k + 1 + j) 0 - left)) (fun j => ((k : Int) + 1 + (j : Int))) (hts.length - (k + 1))) → (∀ p ∈ (L + 1 + 1 + 1, o3) :: (L + 1 + 1 + 1 + 1, o4) :: (L + 1 + 1 + 1 + 1 + 1, o5) :: (Dh, W.listOf zs.toArray n3) :: (Dt, W.listOf wt.toArray 0) :: rest, (p.1 : Nat) < Db) → Q .next { s with heap := h', toks := tk })
    (sc : Scope) (hsc : sc = lScope) (st : Stmt) (hst : st = (match lBody.getD 10 (.Pass default) with | .For _ _ b _ _ => b | _ => []).getD 1 (.Pass default)) :
    wpAny (model PySem.Challenge.rw_pg0014_01.row.prog w) (lA sc L) (exec st (lEnv sc L)) Q E s := by
  conv at hsc => rhs; whnf
  conv at hst => rhs; whnf
  subst hsc hst
  have hzl' : zs.length ≤ 9 := by rw [hz.length]; exact hzl
  have hwl' : wt.length ≤ 9 := by rw [hit.length, htl]; exact hzl
  refine comp_assign rfl rfl rfl (by decide) ?_
  k_steps
  rename_i h1 tk1 t1 u1 v1 hr F1 N1 hk1
  clear hk1
  refine comp_range_at (D := h1.objs.size + 1) rfl hr (by omega) (by omega) (by omega) (by omega) (n := hts.length - (k + 1)) (by omega) rfl (by decide) rfl rfl (fun i ys _ => IntsAre ys (selOf (fun j => decide (hts.getD k 0 ≤ hts.getD (k + 1 + j) 0 - left)) (fun j => ((k : Int) + 1 + (j : Int))) i)) (selInv _ _ _ _) ?_ ?_
  · rintro i t s₃ m₃ ys hi hk ⟨h3, tk3, rfl⟩ F₃ hm hInv
    dsimp only at hk F₃ hm hInv ⊢
    obtain ⟨KX₃, T₃⟩ := amb_trunc (C := h1.objs.size + 1 + 1) ⟨KX, T⟩ F1 hk (by omega)
    have hc3 : (trunc (h1.objs.size + 1 + 1) h3).IsCell (L + 1 + 1 + 1) (some (.int left t3)) := trunc_cell (C := h1.objs.size + 1 + 1) hk (by omega) (N1 (L + 1 + 1 + 1, o3) (by simp)).1 ho3
    have hc4 : (trunc (h1.objs.size + 1 + 1) h3).IsCell (L + 1 + 1 + 1 + 1) (some (.int (k : Int) tk)) := trunc_cell (C := h1.objs.size + 1 + 1) hk (by omega) (N1 (L + 1 + 1 + 1 + 1, o4) (by simp)).1 ho4
    have hc5 : (trunc (h1.objs.size + 1 + 1) h3).IsCell (L + 1 + 1 + 1 + 1 + 1) (some (.ref Dh)) := trunc_cell (C := h1.objs.size + 1 + 1) hk (by omega) (N1 (L + 1 + 1 + 1 + 1 + 1, o5) (by simp)).1 ho5
    have hl2 : (trunc (h1.objs.size + 1 + 1) h3).IsList Dh zs.toArray := trunc_list (C := h1.objs.size + 1 + 1) hk (by omega) (N1 (Dh, W.listOf zs.toArray n3) (by simp)).1
    clear F1 N1
    have N₃ : News (trunc (h1.objs.size + 1 + 1) h3) (h1.objs.size + 1 + 1) h3 [] := News.nil
    refine wpAny_tests_one ?_
    k_steps
    all_goals have e0 : ((k : Int) + 1 + (i : Int)).toNat = k + 1 + i := by omega
    all_goals have ek : ((k : Int)).toNat = k := by omega
    · rename_i hy
      rw [e0, ek] at hy
      refine ⟨_, _, _, rfl, F₃, ?_⟩
      rw [selOf_yes (by simpa using hy)]
      exact ksk_snoc hInv
    · rename_i hy
      rw [e0, ek] at hy
      refine ⟨_, _, _, rfl, F₃, ?_⟩
      rw [selOf_no (by simpa using hy)]
      exact hInv
  · intro h3 tk3 m3 ys hns hpl hInv hk
    refine post_local (selInv _ _ _ _) rfl F1 N1 hns hpl hInv hk rfl rfl fun h3 tk3 n2 F3 N3 hInv => ?_
    exact hQ _ _ _ _ _ F3 N3 hInv fun p hp => Nat.lt_succ_of_lt (Heap.lt_size (N1 p hp).1)

local macro_rules | `(tactic| walk_at "call builtin:list.append") => `(tactic| (k_here; (with_reducible show wpAny _ _ (call (Value.builtin _) [Value.ref _, _]) _ _ _); k_dflt (refine' append_K ?k1 ?k2 (Upd.head ?k3) ?_ ?z; (case k1 => k_asm); (case k2 => k_asm); (case k3 => assumption); (case z => assumption); k_whole); intro h' F' N'))

theorem news_cut {h : Heap} {a b c d : Addr × Obj} (N : News h₀ L h (a :: b :: c :: d :: rest)) : News h₀ L h (a :: b :: rest) := cb_drop N fun p hp => by
  rcases List.mem_cons.mp hp with rfl | hp
  · exact .head _
  · rcases List.mem_cons.mp hp with rfl | hp
    · exact .tail _ (.head _)
    · exact .tail _ (.tail _ (.tail _ (.tail _ hp)))

theorem law_S10_due (KX : (Mine.hd.heap_39 w.params).In h₀) (T : Top Mine.hd.view_39 (looseW Mine.hd.view_39 []) mean mg mb h₀)
    {ys zs ds : List Value} {Da Db Du : Nat} {js ks dd : List Int} {o3 : Obj} {n1 n2 nd : Nat} {t3 : Tok} {left : Int}
    (F : Fr h₀ L s.heap (fun y => if y = Str.ofString "behind" then some (.ref Db) else if y = Str.ofString "ahead" then some (.ref Da) else if y = Str.ofString "due" then some (.ref Du) else m y))
    (N : News h₀ L s.heap ((Du, W.listOf ds.toArray nd) :: (L + 1 + 1 + 1, o3) :: (Da, W.listOf ys.toArray n1) :: (Db, W.listOf zs.toArray n2) :: rest))
    (hne : ∀ p ∈ (L + 1 + 1 + 1, o3) :: (Da, W.listOf ys.toArray n1) :: (Db, W.listOf zs.toArray n2) :: rest, p.1 ≠ Du)
    (ho3 : o3.data = .cell (some (.int left t3))) (hy : IntsAre ys js) (hz : IntsAre zs ks) (hyl : js.length ≤ 9) (hzl : ks.length ≤ 9) (hd : IntsAre ds dd) (hdl : dd.length ≤ 9)
    (hQ : ∀ h' tk t, Fr h₀ L h' (fun y => if y = Str.ofString "behind" then some (.ref Db) else if y = Str.ofString "ahead" then some (.ref Da) else if y = Str.ofString "due" then some (.ref Du) else m y) →
      News h₀ L h' ((Du, W.listOf (ds ++ [Value.int (if 0 < left ∧ js = [] ∧ ks = [] then left else 0) t]).toArray (nd + 1)) :: (L + 1 + 1 + 1, o3) :: rest) → Q .next { s with heap := h', toks := tk })
    (sc : Scope) (hsc : sc = lScope) (st : Stmt) (hst : st = (match lBody.getD 10 (.Pass default) with | .For _ _ b _ _ => b | _ => []).getD 2 (.Pass default)) :
    wpAny (model PySem.Challenge.rw_pg0014_01.row.prog w) (lA sc L) (exec st (lEnv sc L)) Q E s := by
  conv at hsc => rhs; whnf
  conv at hst => rhs; whnf
  subst hsc hst
  have hyl' : ys.length ≤ 9 := by rw [hy.length]; exact hyl
  have hzl' : zs.length ≤ 9 := by rw [hz.length]; exact hzl
  have hsz : ds.toArray.size ≤ sizeLine := by rw [List.size_toArray, hd.length, show sizeLine = 16777216 from rfl]; omega
  k_steps
  · rename_i hA l1 h1 l2 hB l3 h3 F3 N3 l4 hC
    rw [if_pos ⟨hA, of_decide_eq_true hB, of_decide_eq_true hC⟩] at hQ
    refine append_K (its := ds.toArray) (n := nd) F3 (cb_drop N3 fun p hp => .tail _ (.tail _ hp)) (Upd.head hne) (fun h' F' N' => ?_) hsz
    (try rw [List.push_toArray] at N')
    exact hQ _ _ _ F' (news_cut N')
  · rename_i hA l1 h1 l2 hB l3 h3 F3 N3 l4 hC
    rw [if_neg (fun q => of_decide_eq_false hC q.2.2)] at hQ
    refine append_K (its := ds.toArray) (n := nd) F3 (cb_drop N3 fun p hp => .tail _ (.tail _ hp)) (Upd.head hne) (fun h' F' N' => ?_) hsz
    (try rw [List.push_toArray] at N')
    exact hQ _ _ _ F' (news_cut N')
  · rename_i hA l1 h1 F3 N3 l2 hB
    rw [if_neg (fun q => of_decide_eq_false hB q.2.1)] at hQ
    refine append_K (its := ds.toArray) (n := nd) F3 (cb_drop N3 fun p hp => .tail _ hp) (Upd.head hne) (fun h' F' N' => ?_) hsz
    (try rw [List.push_toArray] at N')
    exact hQ _ _ _ F' (news_cut N')
  · rename_i hA h1 F' N'
    rw [if_neg (fun q => hA q.1)] at hQ
    (try rw [List.push_toArray] at N')
    exact hQ _ _ _ F' (news_cut N')
end
end Mine

end PartLaw4
-- part Law5
section PartLaw5
open PySem PySem.W PySem.Calls PyProof.Rows
namespace Mine
theorem fill15 (P : Params) : Mine.hd.heap_39 P = Mine.hd.heap_39 P ∧ PySem.Challenge.rw_pg0014_01.foot = PySem.Challenge.rw_pg0014_01.foot := by
  k_fill
  exact ⟨rfl, rfl⟩

noncomputable def kBody : List Stmt := match lBody.getD 10 (.Pass default) with | .For _ _ b _ _ => b | _ => []

def dueAt (hts : List Int) (left : Int) (k : Nat) : Int :=
  if 0 < left ∧ selOf (fun j => decide (hts.getD k 0 ≤ hts.getD j 0)) (fun j => (j : Int)) k = [] ∧ selOf (fun j => decide (hts.getD k 0 ≤ hts.getD (k + 1 + j) 0 - left)) (fun j => ((k : Int) + 1 + (j : Int))) (hts.length - (k + 1)) = [] then left else 0
def dueOf (hts : List Int) (left : Int) : List Int := (List.range hts.length).map (dueAt hts left)

section
variable {w : World} {s : Shared} {mean : ExcName → Option Value} {mg mb : Str → Option Value} {Q : Flow → Shared → Prop} {E : Value → Shared → Prop} {h₀ : Heap} {L : Nat} {m u ua ub : Str → Option Value} {rest : List (Addr × Obj)}

theorem fr_eq {h : Heap} {m m' : Str → Option Value} (F : Fr h₀ L h m) (e : ∀ y, m y = m' y) : Fr h₀ L h m' := (funext e : m = m') ▸ F
theorem np1 {h : Heap} {a b c d e f : Addr × Obj} (N : News h₀ L h (a :: b :: c :: d :: e :: f :: rest)) : News h₀ L h (c :: d :: e :: a :: b :: f :: rest) := cb_drop N (by intro p hp; simp only [List.mem_cons] at hp ⊢; grind)
theorem np2 {h : Heap} {a b c d e f g : Addr × Obj} (N : News h₀ L h (a :: b :: c :: d :: e :: f :: g :: rest)) : News h₀ L h (f :: b :: c :: d :: g :: a :: e :: rest) := cb_drop N (by intro p hp; simp only [List.mem_cons] at hp ⊢; grind)
theorem np3 {h : Heap} {a b c d e f g i : Addr × Obj} (N : News h₀ L h (a :: b :: c :: d :: e :: f :: g :: i :: rest)) : News h₀ L h (i :: b :: g :: a :: c :: d :: e :: f :: rest) := cb_drop N (by intro p hp; simp only [List.mem_cons] at hp ⊢; grind)

theorem law_S10_turn (KX : (Mine.hd.heap_39 w.params).In h₀) (T : Top Mine.hd.view_39 (looseW Mine.hd.view_39 []) mean mg mb h₀)
    {ds zs wt : List Value} {Du Dh Dt k : Nat} {hts tt dd : List Int} {o3 o4 o5 : Obj} {n3 nd : Nat} {tk t3 : Tok} {left : Int}
    (F : Fr h₀ L s.heap (fun y => if y = Str.ofString "ahead" then ub y else if y = Str.ofString "behind" then ub y else if y = Str.ofString "due" then some (.ref Du) else if y = Str.ofString "size" then ua y else if y = Str.ofString "told" then some (.ref Dt) else m y))
    (N : News h₀ L s.heap ((Du, W.listOf ds.toArray nd) :: (L + 1 + 1 + 1, o3) :: (L + 1 + 1 + 1 + 1, o4) :: (L + 1 + 1 + 1 + 1 + 1, o5) :: (Dh, W.listOf zs.toArray n3) :: (Dt, W.listOf wt.toArray 0) :: rest))
    (hne : ∀ p ∈ (L + 1 + 1 + 1, o3) :: (L + 1 + 1 + 1 + 1, o4) :: (L + 1 + 1 + 1 + 1 + 1, o5) :: (Dh, W.listOf zs.toArray n3) :: (Dt, W.listOf wt.toArray 0) :: rest, (p.1 : Nat) ≠ Du)
    (ho3 : o3.data = .cell (some (.int left t3))) (ho4 : o4.data = .cell (some (.int (k : Int) tk))) (ho5 : o5.data = .cell (some (.ref Dh)))
    (hz : IntsAre zs hts) (hzl : hts.length ≤ 9) (hk9 : k < hts.length) (hit : IntsAre wt tt) (htl : tt.length = hts.length) (hd : IntsAre ds dd) (hdl : dd.length ≤ 9)
    (hQ : ∀ h' tk t (ub' : Str → Option Value), Fr h₀ L h' (fun y => if y = Str.ofString "ahead" then ub' y else if y = Str.ofString "behind" then ub' y else if y = Str.ofString "due" then some (.ref Du) else if y = Str.ofString "size" then ua y else if y = Str.ofString "told" then some (.ref Dt) else m y) →
      News h₀ L h' ((Du, W.listOf (ds ++ [Value.int (dueAt hts left k) t]).toArray (nd + 1)) :: (L + 1 + 1 + 1, o3) :: (L + 1 + 1 + 1 + 1, o4) :: (L + 1 + 1 + 1 + 1 + 1, o5) :: (Dh, W.listOf zs.toArray n3) :: (Dt, W.listOf wt.toArray 0) :: rest) → Q .next { s with heap := h', toks := tk })
    (sc : Scope) (hsc : sc = lScope) (body : List Stmt) (hb : body = kBody) :
    wpAny (model PySem.Challenge.rw_pg0014_01.row.prog w) (lA sc L) (execs body (lEnv sc L)) Q E s := by
  have eb : kBody = [kBody.getD 0 (.Pass default), kBody.getD 1 (.Pass default), kBody.getD 2 (.Pass default)] := rfl
  rw [hb, eb]
  refine wpAny_execs_cons (law_S10_ahead KX T (Dh := Dh) (hts := hts) (rest := (Du, W.listOf ds.toArray nd) :: (L + 1 + 1 + 1, o3) :: (Dt, W.listOf wt.toArray 0) :: rest) F (np1 N) ho4 ho5 hz hzl hk9 (fun h1 tk1 Da ys n1 F1 N1 hA hDa => ?_) sc hsc _ rfl)
  refine wpAny_execs_cons (law_S10_behind (s := { s with heap := h1, toks := tk1 }) (ub := ub) (ua := ua) (m := m) (u := fun _ => some (.ref Du)) KX T (Da := Da) (rest := (Da, W.listOf ys.toArray n1) :: (Du, W.listOf ds.toArray nd) :: rest) (fr_eq F1 ?_) (np2 N1) ho3 ho4 ho5 hz hzl hk9 hit htl (fun h2 tk2 Db xs n2 F2 N2 hB hDb => ?_) sc hsc _ rfl)
  · intro y
    by_cases h : y = Str.ofString "ahead"
    · simp only [if_pos h]
    · simp only [if_neg h]
  refine wpAny_execs_cons (law_S10_due (s := { s with heap := h2, toks := tk2 }) KX T (Da := Da) (Db := Db) (rest := (L + 1 + 1 + 1 + 1, o4) :: (L + 1 + 1 + 1 + 1 + 1, o5) :: (Dh, W.listOf zs.toArray n3) :: (Dt, W.listOf wt.toArray 0) :: rest)
    (m := fun y => if y = Str.ofString "size" then ua y else if y = Str.ofString "told" then some (.ref Dt) else m y) (fr_eq F2 ?_) (np3 N2) ?_ ho3 hA hB ?_ ?_ hd hdl (fun h3 tk3 t F3 N3 => ?_) sc hsc _ rfl)
  · intro y
    by_cases h : y = Str.ofString "behind"
    · simp only [if_pos h]
    · simp only [if_neg h]
  · intro p hp
    have h1 := hDa (Du, W.listOf ds.toArray nd) (by simp)
    have h2 := hDb (Du, W.listOf ds.toArray nd) (by simp)
    rcases List.mem_cons.mp hp with rfl | hp
    · exact hne _ (.head _)
    rcases List.mem_cons.mp hp with rfl | hp
    · exact Nat.ne_of_gt h1
    rcases List.mem_cons.mp hp with rfl | hp
    · exact Nat.ne_of_gt h2
    exact hne p (.tail _ hp)
  · exact Nat.le_trans selOf_len (by omega)
  · exact Nat.le_trans selOf_len (by omega)
  refine wpAny_execs_nil ?_
  refine hQ h3 tk3 t (fun y => if y = Str.ofString "behind" then some (.ref Db) else some (.ref Da)) (fr_eq F3 ?_) N3
  intro y
  by_cases h1 : y = Str.ofString "behind"
  · by_cases h2 : y = Str.ofString "ahead"
    · simp only [if_pos h1, if_pos h2]
    · simp only [if_pos h1, if_neg h2]
  · by_cases h2 : y = Str.ofString "ahead"
    · simp only [if_neg h1, if_pos h2]
    · simp only [if_neg h1, if_neg h2]

theorem low2 {n : Nat} {a b : Nat} {o o' o1 o1' : Obj} {c : Addr × Obj} (h : ∀ p ∈ ((a, o) : Addr × Obj) :: c :: (b, o1) :: rest, (p.1 : Nat) < n) : ∀ p ∈ ((a, o') : Addr × Obj) :: c :: (b, o1') :: rest, (p.1 : Nat) < n := fun p hp => by
  rcases List.mem_cons.mp hp with rfl | hp
  · exact h (a, o) (.head _)
  rcases List.mem_cons.mp hp with rfl | hp
  · exact h _ (.tail _ (.head _))
  rcases List.mem_cons.mp hp with rfl | hp
  · exact h (b, o1) (.tail _ (.tail _ (.head _)))
  exact h p (.tail _ (.tail _ (.tail _ hp)))
theorem news_low {h h' : Heap} (N : News h₀ L h rest) (hk : ∀ p ∈ rest, ∀ o, h.get? p.1 = some o → h'.get? p.1 = some o) : News h₀ L h' rest := fun p hp => ⟨hk p hp _ (N p hp).1, (N p hp).2⟩
theorem np4 {h : Heap} {a b c d e f g : Addr × Obj} (N : News h₀ L h (a :: b :: c :: d :: e :: f :: rest)) (hg : h.get? g.1 = some g.2 ∧ g.1 ≠ L ∧ h₀.get? g.1 = none) : News h₀ L h (c :: a :: b :: d :: e :: f :: g :: rest) := fun p hp => by
  by_cases q : p = g
  · rw [q]; exact hg
  · exact N p (by simp only [List.mem_cons] at hp ⊢; grind)

theorem np5 {h : Heap} {a b c d e f : Addr × Obj} (N : News h₀ L h (a :: b :: c :: d :: e :: f :: rest)) : News h₀ L h (b :: c :: a :: d :: e :: f :: rest) := cb_drop N (by intro p hp; simp only [List.mem_cons] at hp ⊢; grind)
theorem np6 {h : Heap} {a b c d e f g : Addr × Obj} (N : News h₀ L h (a :: b :: c :: d :: e :: f :: g :: rest)) : News h₀ L h (a :: b :: c :: d :: e :: f :: rest) := cb_drop N (by intro p hp; simp only [List.mem_cons] at hp ⊢; grind)

theorem law_S10 (KX : (Mine.hd.heap_39 w.params).In h₀) (T : Top Mine.hd.view_39 (looseW Mine.hd.view_39 []) mean mg mb h₀)
    {zs wt : List Value} {Du Dh Dt : Nat} {hts tt : List Int} {o3 o4 o5 : Obj} {n3 nd : Nat} {t3 : Tok} {left : Int} {v₀ : Option Value}
    (F : Fr h₀ L s.heap (fun y => if y = Str.ofString "due" then some (.ref Du) else if y = Str.ofString "size" then ua y else if y = Str.ofString "told" then some (.ref Dt) else m y))
    (N : News h₀ L s.heap ((Du, W.listOf #[] nd) :: (L + 1 + 1 + 1, o3) :: (L + 1 + 1 + 1 + 1, o4) :: (L + 1 + 1 + 1 + 1 + 1, o5) :: (Dh, W.listOf zs.toArray n3) :: (Dt, W.listOf wt.toArray 0) :: rest))
    (hne : ∀ p ∈ (L + 1 + 1 + 1, o3) :: (L + 1 + 1 + 1 + 1, o4) :: (L + 1 + 1 + 1 + 1 + 1, o5) :: (Dh, W.listOf zs.toArray n3) :: (Dt, W.listOf wt.toArray 0) :: rest, (p.1 : Nat) ≠ Du)
    (hn4 : ∀ p ∈ (Dh, W.listOf zs.toArray n3) :: (Dt, W.listOf wt.toArray 0) :: rest, (p.1 : Nat) ≠ L + 1 + 1 + 1 + 1)
    (ho3 : o3.data = .cell (some (.int left t3))) (ho4 : o4.data = .cell v₀) (ho5 : o5.data = .cell (some (.ref Dh)))
    (hz : IntsAre zs hts) (hzl : hts.length ≤ 9) (hit : IntsAre wt tt) (htl : tt.length = hts.length)
    (hQ : ∀ h' tk (ub' : Str → Option Value) ds nd' o4', Fr h₀ L h' (fun y => if y = Str.ofString "ahead" then ub' y else if y = Str.ofString "behind" then ub' y else if y = Str.ofString "due" then some (.ref Du) else if y = Str.ofString "size" then ua y else if y = Str.ofString "told" then some (.ref Dt) else m y) →
      News h₀ L h' ((Du, W.listOf ds.toArray nd') :: (L + 1 + 1 + 1, o3) :: (L + 1 + 1 + 1 + 1, o4') :: (L + 1 + 1 + 1 + 1 + 1, o5) :: (Dh, W.listOf zs.toArray n3) :: (Dt, W.listOf wt.toArray 0) :: rest) → IntsAre ds (dueOf hts left) → Q .next { s with heap := h', toks := tk })
    (sc : Scope) (hsc : sc = lScope) (st : Stmt) (hst : st = lBody.getD 10 (.Pass default)) :
    wpAny (model PySem.Challenge.rw_pg0014_01.row.prog w) (lA sc L) (exec st (lEnv sc L)) Q (fun _ _ => False) s := by
  have hsc' := hsc
  conv at hsc => rhs; whnf
  conv at hst => rhs; whnf
  subst hst
  rw [hsc] at hsc' ⊢
  clear hsc
  have hwl' : wt.length ≤ 9 := by rw [hit.length, htl]; exact hzl
  refine wpAny_For ?_
  k_steps
  rename_i h1 tk1 t1 u1 v1 hr F1 N1 hk1
  clear hk1
  rw [htl] at hr
  refine wpAny_pyIter_range hr (small_one (by omega) (by omega) (by omega) (by omega)) ?_
  dsimp only
  have hsz : ∀ p ∈ (Du, W.listOf #[] nd) :: (L + 1 + 1 + 1, o3) :: (L + 1 + 1 + 1 + 1, o4) :: (L + 1 + 1 + 1 + 1 + 1, o5) :: (Dh, W.listOf zs.toArray n3) :: (Dt, W.listOf wt.toArray 0) :: rest, (p.1 : Nat) < h1.objs.size := fun p hp => Heap.lt_size (N1 p hp).1
  have hL1 : L < h1.objs.size := F1.ns.lt
  have h0L : h₀.objs.size ≤ L := F1.above
  have hDu := hsz _ (.head _)
  have hL4 := hsz (L + 1 + 1 + 1 + 1, o4) (by simp)
  dsimp only at hDu hL4
  have Wk := fun scx : Scope => Walks.range (prog := PySem.Challenge.rw_pg0014_01.row.prog) (w := w) (A := lA scx L) rfl h1.objs.size 0 1 hts.length
  refine codeAny_forLoop_any (fun n s' => ∃ i ds h tk nd ub' o4 vk, s' = { s with heap := h, toks := tk } ∧ i + n = hts.length + 1 ∧ i ≤ hts.length ∧ IsRangeIter h h1.objs.size (0 + (i : Nat) * 1) ((hts.length : Int) - (i : Nat)) 1 ∧
      Fr h₀ L h (fun y => if y = Str.ofString "ahead" then ub' y else if y = Str.ofString "behind" then ub' y else if y = Str.ofString "due" then some (.ref Du) else if y = Str.ofString "size" then ua y else if y = Str.ofString "told" then some (.ref Dt) else m y) ∧
      News h₀ L h ((Du, W.listOf ds.toArray nd) :: (L + 1 + 1 + 1, o3) :: (L + 1 + 1 + 1 + 1, o4) :: (L + 1 + 1 + 1 + 1 + 1, o5) :: (Dh, W.listOf zs.toArray n3) :: (Dt, W.listOf wt.toArray 0) :: rest) ∧
      IntsAre ds ((dueOf hts left).take i) ∧ o4.data = .cell vk) ?_ (hts.length + 1) ⟨0, [], _, _, nd, (fun y => if y = Str.ofString "due" then some (.ref Du) else if y = Str.ofString "size" then ua y else if y = Str.ofString "told" then some (.ref Dt) else m y), o4, v₀, rfl, by omega, Nat.zero_le _, ?_, ?_, ?_, ?_, ho4⟩
  · rintro n s' ⟨i, ds, h, tk, nd, ub', o4, vk, rfl, hin, hil, hit', F2, N2, hds, ho4⟩
    by_cases hlt : i < hts.length
    · refine (Wk _).item i _ _ _ hlt hit' fun v h2 tk2 hv hst2 hk2 => ?_
      obtain ⟨t, rfl⟩ := hv
      rw [show (0 : Int) + (i : Int) * 1 = (i : Int) from by omega]
      have kI : ∀ (b : Nat) o, b ≠ h1.objs.size → h.get? b = some o → h2.get? b = some o := fun b o hb e => hk2 b o (fun hm => hb (List.mem_singleton.mp hm)) e
      have F3 : Fr h₀ L h2 (fun y => if y = Str.ofString "ahead" then ub' y else if y = Str.ofString "behind" then ub' y else if y = Str.ofString "due" then some (.ref Du) else if y = Str.ofString "size" then ua y else if y = Str.ofString "told" then some (.ref Dt) else m y) :=
        ⟨F2.ns.at' fun o e => kI L o (Nat.ne_of_lt hL1) e, fun b o e => kI b o (Nat.ne_of_lt (Nat.lt_trans (Nat.lt_of_lt_of_le (Heap.lt_size e) h0L) hL1)) (F2.keep b o e), F2.above⟩
      have hp1 : ∀ p ∈ (Du, W.listOf ds.toArray nd) :: (L + 1 + 1 + 1, o3) :: (L + 1 + 1 + 1 + 1, o4) :: (L + 1 + 1 + 1 + 1 + 1, o5) :: (Dh, W.listOf zs.toArray n3) :: (Dt, W.listOf wt.toArray 0) :: rest, (p.1 : Nat) < h1.objs.size := low2 hsz
      have N3 := news_low N2 fun p hp o e => kI p.1 o (Nat.ne_of_lt (hp1 p hp)) e
      have N4 : News h₀ L h2 ((L + 1 + 1 + 1 + 1, o4) :: (Du, W.listOf ds.toArray nd) :: (L + 1 + 1 + 1, o3) :: (L + 1 + 1 + 1 + 1 + 1, o5) :: (Dh, W.listOf zs.toArray n3) :: (Dt, W.listOf wt.toArray 0) :: (h1.objs.size, _) :: rest) := np4 N3 ⟨hst2, Nat.ne_of_gt hL1, by
        cases e : h₀.get? h1.objs.size with
        | none => rfl
        | some o' => have := ltN (Heap.lt_size e); omega⟩
      refine wpAny_of_eq rfl ?_
      refine wpAny_assign_Name (storeX_C (g := fun o' => (L + 1 + 1 + 1 + 1, o') :: (Du, W.listOf ds.toArray nd) :: (L + 1 + 1 + 1, o3) :: (L + 1 + 1 + 1 + 1 + 1, o5) :: (Dh, W.listOf zs.toArray n3) :: (Dt, W.listOf wt.toArray 0) :: (h1.objs.size, _) :: rest) F3 N4 rfl (UpdF.head fun p hp => ?_) ho4 fun h5 o4' F5 N5 hd5 => ?_)
      · rcases List.mem_cons.mp hp with rfl | hp
        · exact fun q => hne _ (.tail _ (.head _)) q.symm
        rcases List.mem_cons.mp hp with rfl | hp
        · intro q
          have q' : @Eq Nat (L + 1 + 1 + 1) (L + 1 + 1 + 1 + 1) := q
          omega
        rcases List.mem_cons.mp hp with rfl | hp
        · intro q
          have q' : @Eq Nat (L + 1 + 1 + 1 + 1 + 1) (L + 1 + 1 + 1 + 1) := q
          omega
        rcases List.mem_cons.mp hp with rfl | hp
        · exact hn4 _ (.head _)
        rcases List.mem_cons.mp hp with rfl | hp
        · exact hn4 _ (.tail _ (.head _))
        rcases List.mem_cons.mp hp with rfl | hp
        · intro q
          have q' : @Eq Nat h1.objs.size (L + 1 + 1 + 1 + 1) := q
          omega
        · exact hn4 _ (.tail _ (.tail _ hp))
      · refine law_S10_turn (s := { s with heap := h5, toks := tk2 }) (rest := (h1.objs.size, _) :: rest) KX T F5 (np5 N5) ?_ ho3 hd5 ho5 hz hzl hlt hit htl hds (by rw [List.length_take]; omega) (fun h6 tk6 t6 ub6 F6 N6 => ?_) _ hsc' _ rfl
        · intro p hp
          rcases List.mem_cons.mp hp with rfl | hp
          · exact hne _ (.head _)
          rcases List.mem_cons.mp hp with rfl | hp
          · have h9 := hne _ (.tail _ (.head _))
            exact h9
          rcases List.mem_cons.mp hp with rfl | hp
          · exact hne _ (.tail _ (.tail _ (.head _)))
          rcases List.mem_cons.mp hp with rfl | hp
          · exact hne _ (.tail _ (.tail _ (.tail _ (.head _))))
          rcases List.mem_cons.mp hp with rfl | hp
          · exact hne _ (.tail _ (.tail _ (.tail _ (.tail _ (.head _)))))
          rcases List.mem_cons.mp hp with rfl | hp
          · exact Nat.ne_of_gt hDu
          · exact hne _ (.tail _ (.tail _ (.tail _ (.tail _ (.tail _ hp)))))
        · refine ⟨n - 1, by omega, i + 1, _, h6, tk6, nd + 1, ub6, o4', _, rfl, by omega, hlt, (N6 (h1.objs.size, _) (.tail _ (.tail _ (.tail _ (.tail _ (.tail _ (.tail _ (.head _)))))))).1, F6, np6 N6, intsAre_step hds (by simp [dueOf, hlt]), hd5⟩
    · obtain rfl : i = hts.length := by omega
      refine (Wk _).done _ _ _ hit' fun h2 tk2 hk2 => ?_
      have kI : ∀ (b : Nat) o, b ≠ h1.objs.size → h.get? b = some o → h2.get? b = some o := fun b o hb e => hk2 b o (fun hm => hb (List.mem_singleton.mp hm)) e
      have F3 : Fr h₀ L h2 (fun y => if y = Str.ofString "ahead" then ub' y else if y = Str.ofString "behind" then ub' y else if y = Str.ofString "due" then some (.ref Du) else if y = Str.ofString "size" then ua y else if y = Str.ofString "told" then some (.ref Dt) else m y) :=
        ⟨F2.ns.at' fun o e => kI L o (Nat.ne_of_lt hL1) e, fun b o e => kI b o (Nat.ne_of_lt (Nat.lt_trans (Nat.lt_of_lt_of_le (Heap.lt_size e) h0L) hL1)) (F2.keep b o e), F2.above⟩
      have hp1 : ∀ p ∈ (Du, W.listOf ds.toArray nd) :: (L + 1 + 1 + 1, o3) :: (L + 1 + 1 + 1 + 1, o4) :: (L + 1 + 1 + 1 + 1 + 1, o5) :: (Dh, W.listOf zs.toArray n3) :: (Dt, W.listOf wt.toArray 0) :: rest, (p.1 : Nat) < h1.objs.size := low2 hsz
      have N3 := news_low N2 fun p hp o e => kI p.1 o (Nat.ne_of_lt (hp1 p hp)) e
      refine wpAny_execs_nil ?_
      rw [List.take_of_length_le (by simp [dueOf])] at hds
      exact hQ h2 tk2 ub' ds nd o4 F3 N3 hds
  · have e : Builtin.Range.rangeSize 0 (hts.length : Int) 1 = (hts.length : Int) := by rw [rangeSize_one]; split <;> omega
    rw [e]
    simpa using Heap.get?_push_size _ rfl
  · refine fr_eq (Fr.keeps F1 fun b o e => Heap.get?_push_of_some _ e) ?_
    intro y
    by_cases h1 : y = Str.ofString "ahead"
    · rw [if_pos h1]
    · rw [if_neg h1]
      by_cases h2 : y = Str.ofString "behind"
      · rw [if_pos h2]
      · rw [if_neg h2]
  · exact News.keepsAll N1 fun b o e => Heap.get?_push_of_some _ e
  · rw [List.take_zero]; exact .nil
end
end Mine

end PartLaw5
-- part Law6
section PartLaw6
open PySem PySem.W PySem.Calls PyProof.Rows
namespace Mine
theorem fill16 (P : Params) : Mine.hd.heap_39 P = Mine.hd.heap_39 P ∧ PySem.Challenge.rw_pg0014_01.foot = PySem.Challenge.rw_pg0014_01.foot := by
  k_fill
  exact ⟨rfl, rfl⟩

local macro_rules | `(tactic| walk_at "eval ListComp") => `(tactic| (k_here; k_dflt (refine comp_eval rfl rfl (by decide) ?_)))
local macro_rules | `(tactic| walk_at "eval Name") => `(tactic| (k_here; (with_reducible show wpAny _ _ (eval _ (compEnvC _ _ _ _)) _ _ _); k_dflt (refine' cname_L ?k1 ?k2 ?_ ?k3 ?k4 ?k5; (case k1 => k_asm); (case k2 => first | assumption | exact rfl); (case k3 => exact rfl); (case k4 => exact rfl); (case k5 => decide))))
local macro_rules | `(tactic| walk_at "eval Name") => `(tactic| (k_here; (with_reducible show wpAny _ _ (eval _ (compEnvC _ _ _ _)) _ _ _); k_dflt (refine' cname_C ?k1 ?k2 ?k6 ?_ ?k3 ?k4 ?k5; (case k1 => k_asm); (case k2 => exact rfl); (case k6 => assumption); (case k3 => exact rfl); (case k4 => exact rfl); (case k5 => decide))))

/-- the row turned by k -/
def turnOf (xs : List Int) (k : Nat) : List Int := xs.drop k ++ xs.take k

/-- the list ys of the row's first turns, their lists above lo -/
def TurnsIn (xs : List Int) (lo : Nat) (i : Nat) (ys : List Value) (h : Heap) : Prop :=
  ys.length = i ∧ ∀ j v, ys[j]? = some v → ∃ (a : Nat) (ws : List Value) (n : Nat), v = .ref a ∧ lo < a ∧ h.get? a = some (W.listOf ws.toArray n) ∧ IntsAre ws (turnOf xs j)

theorem TurnsIn.keep {xs : List Int} {lo i : Nat} {ys : List Value} {h h' : Heap} (X : TurnsIn xs lo i ys h) (hk : ∀ (b : Nat) o, lo < b → h.get? b = some o → h'.get? b = some o) : TurnsIn xs lo i ys h' :=
  ⟨X.1, fun j v hv => by
    obtain ⟨a, ws, n, e1, e2, e3, e4⟩ := X.2 j v hv
    exact ⟨a, ws, n, e1, e2, hk _ _ e2 e3, e4⟩⟩
theorem TurnsIn.snoc {xs : List Int} {lo i a n : Nat} {ys ws : List Value} {h : Heap} (X : TurnsIn xs lo i ys h) (ha : lo < a) (hg : h.get? a = some (W.listOf ws.toArray n)) (hi : IntsAre ws (turnOf xs i)) : TurnsIn xs lo (i + 1) (ys ++ [.ref a]) h := by
  refine ⟨by rw [List.length_append, X.1]; rfl, fun j v hv => ?_⟩
  by_cases hj : j < ys.length
  · rw [List.getElem?_append_left hj] at hv
    exact X.2 j v hv
  · rw [List.getElem?_append_right (Nat.le_of_not_lt hj)] at hv
    have h0 : j - ys.length = 0 := by
      cases e : j - ys.length with
      | zero => rfl
      | succ q => rw [e] at hv; simp at hv
    have ej : j = i := by have := X.1; omega
    rw [h0] at hv
    simp at hv
    subst ej
    exact ⟨a, ws, n, hv.symm, ha, hg, hi⟩
theorem turnsInv (xs : List Int) (D I L : Nat) (hI : I < D) (hL : L < D) : CInv D [I, L] (fun i ys h => TurnsIn xs (D + 1) i ys h) where
  stab := fun i ys h h' X hk => X.keep fun b o hb e => hk b o (by omega) (by omega) (by
    simp only [List.mem_cons, List.not_mem_nil, or_false, not_or]
    constructor
    · intro q
      have q' : @Eq Nat b I := q
      omega
    · intro q
      have q' : @Eq Nat b L := q
      omega) e
  start := fun _ => ⟨rfl, fun j v hv => by simp at hv⟩
  len := fun i ys _ h => by rw [h.1]; exact Nat.le_refl _

/-- a list's own objects as a ledger -/
def ledOf (h : Heap) (ys : List Value) : List (Addr × Obj) := ys.filterMap fun v => match v with | .ref a => (h.get? a).map fun o => (a, o) | _ => none
theorem mem_ledOf {h : Heap} {ys : List Value} {p : Addr × Obj} (hp : p ∈ ledOf h ys) : Value.ref p.1 ∈ ys ∧ h.get? p.1 = some p.2 := by
  obtain ⟨v, hv, e⟩ := List.mem_filterMap.mp hp
  cases v <;> simp at e
  obtain ⟨o, e1, rfl⟩ := e
  exact ⟨hv, e1⟩
theorem ledOf_mem {h : Heap} {ys : List Value} {a : Addr} {o : Obj} (hv : Value.ref a ∈ ys) (e : h.get? a = some o) : (a, o) ∈ ledOf h ys :=
  List.mem_filterMap.mpr ⟨_, hv, by simp [e]⟩
theorem TurnsIn.news {xs : List Int} {lo i : Nat} {ys : List Value} {h : Heap} (X : TurnsIn xs lo i ys h) : News (trunc lo h) lo h (ledOf h ys) := fun p hp => by
  obtain ⟨hv, e⟩ := mem_ledOf hp
  obtain ⟨j, hj⟩ := List.mem_iff_getElem?.mp hv
  obtain ⟨a, ws, n, e1, e2, e3, e4⟩ := X.2 j _ hj
  have ea : p.1 = a := by injection e1
  refine ⟨e, ?_, trunc_none ?_⟩
  · intro q
    have q' : @Eq Nat p.1 lo := q
    have ea' : @Eq Nat p.1 a := ea
    omega
  · have ea' : @Eq Nat p.1 a := ea
    omega
theorem TurnsIn.after {xs : List Int} {lo i L : Nat} {ys : List Value} {h h' h₀ : Heap} {more : List (Addr × Obj)} (X : TurnsIn xs lo i ys h) (N : News h₀ L h' more) (hm : ∀ p ∈ ledOf h ys, p ∈ more) : TurnsIn xs lo i ys h' :=
  ⟨X.1, fun j v hv => by
    obtain ⟨a, ws, n, e1, e2, e3, e4⟩ := X.2 j v hv
    exact ⟨a, ws, n, e1, e2, (N (a, _) (hm _ (ledOf_mem (e1 ▸ List.mem_iff_getElem?.mpr ⟨j, hv⟩) e3))).1, e4⟩⟩

section
variable {w : World} {s : Shared} {mean : ExcName → Option Value} {mg mb : Str → Option Value} {Q : Flow → Shared → Prop} {E : Value → Shared → Prop} {h₀ : Heap} {L : Nat} {m u ua ub : Str → Option Value} {rest : List (Addr × Obj)}

theorem add_up {prog : Program} {A : Around} {E Q : Value → Shared → Prop} {a b : Addr} {vs ws : List Value} {ns ms : List Int} {L : Addr} {news : List (Addr × Obj)} (F : Fr h₀ L s.heap m) (N : News h₀ L s.heap news) (ha : s.heap.IsList a vs.toArray) (hb : s.heap.IsList b ws.toArray) (hi : IntsAre vs ns) (hj : IntsAre ws ms)
    (h : ∀ D us h', Fr h₀ L h' m → News h₀ L h' ((D, W.listOf (List.toArray us) 0) :: news) → (∀ p ∈ news, p.1 < D) → IntsAre us (ns ++ ms) → (L : Nat) < D → Q (.ref D) { s with heap := h' })
    (hz : ns.length + ms.length ≤ sizeLine) : wpAny (model prog w) A (binaryOp .Add (.ref a) (.ref b)) Q E s :=
  add_lists_ints (hsz := hz) F N ha hb hi hj fun h' F' N' hk => h _ _ h' F' N' (fun p hp => Heap.lt_size (N p hp).1) hk F.ns.lt
local macro_rules | `(tactic| walk_at "binaryOp Add ref ref") => `(tactic| (k_here; (with_reducible show wpAny _ _ (binaryOp _ (Value.ref _) (Value.ref _)) _ _ _); k_dflt (refine' add_up ?F ?N ?a ?b ?i ?j ?_ ?z; (case F => k_asm); (case N => k_asm); (case a => kmk_list); (case b => kmk_list); (case i => l_ints); (case j => l_ints); (case z => kmk_sum)); intro D' ws' h' F' N' l1 hI' hLD'))

theorem turn_led {xs : List Int} {lo i : Nat} {ys : List Value} {h : Heap} (X : TurnsIn xs lo i ys h) : ∃ led, News (trunc lo h) lo h led ∧ ∀ (L : Nat) (h' h₀ : Heap) more, News h₀ L h' more → (∀ p ∈ led, p ∈ more) → TurnsIn xs lo i ys h' :=
  ⟨_, X.news, fun _ _ _ _ N hm => X.after N hm⟩

theorem law_S11 (KX : (Mine.hd.heap_39 w.params).In h₀) (T : Top Mine.hd.view_39 (looseW Mine.hd.view_39 []) mean mg mb h₀)
    {items : List Value} {Ds : Nat} {xs : List Int} {o1 : Obj} {n1 : Nat}
    (F : Fr h₀ L s.heap m)
    (N : News h₀ L s.heap ((L + 1, o1) :: (Ds, W.listOf items.toArray n1) :: rest))
    (ho1 : o1.data = .cell (some (.ref Ds)))
    (hz : IntsAre items xs) (hzl : xs.length ≤ 9)
    (hQ : ∀ h' tk (Dr lo : Nat) ys n2, Fr h₀ L h' (fun y => if y = Str.ofString "turns" then some (.ref Dr) else m y) →
      News h₀ L h' ((Dr, W.listOf ys.toArray n2) :: (L + 1, o1) :: (Ds, W.listOf items.toArray n1) :: rest) → TurnsIn xs lo xs.length ys h' → L < lo → Q .next { s with heap := h', toks := tk })
    (sc : Scope) (hsc : sc = lScope) (st : Stmt) (hst : st = lBody.getD 11 (.Pass default)) :
    wpAny (model PySem.Challenge.rw_pg0014_01.row.prog w) (lA sc L) (exec st (lEnv sc L)) Q E s := by
  conv at hsc => rhs; whnf
  conv at hst => rhs; whnf
  subst hsc hst
  have hzl' : items.length ≤ 9 := by rw [hz.length]; exact hzl
  refine comp_assign rfl rfl rfl (by decide) ?_
  k_steps
  rename_i h1 tk1 t1 u1 v1 hr F1 N1 hk1
  clear hk1
  have hL1 : L < h1.objs.size := F1.ns.lt
  refine comp_range_at (D := h1.objs.size + 1) rfl hr (Int.le_refl 0) (by omega) (by omega) (by omega) (n := xs.length) (by omega) rfl (by decide) rfl rfl (fun i ys h => TurnsIn xs (h1.objs.size + 1 + 1) i ys h) (turnsInv xs (h1.objs.size + 1) h1.objs.size L (by omega) (by omega)).less ?_ ?_
  · rintro i t s₃ m₃ ys hi hk ⟨h3, tk3, rfl⟩ F₃ hm hInv
    dsimp only at hk F₃ hm hInv ⊢
    obtain ⟨KX₃, T₃⟩ := amb_trunc (C := h1.objs.size + 1 + 1) ⟨KX, T⟩ F1 hk (by omega)
    have hc1 : (trunc (h1.objs.size + 1 + 1) h3).IsCell (L + 1) (some (.ref Ds)) := trunc_cell (C := h1.objs.size + 1 + 1) hk (by omega) (N1 (L + 1, o1) (by simp)).1 ho1
    have hl2 : (trunc (h1.objs.size + 1 + 1) h3).IsList Ds items.toArray := trunc_list (C := h1.objs.size + 1 + 1) hk (by omega) (N1 (Ds, W.listOf items.toArray n1) (by simp)).1
    clear F1 N1
    obtain ⟨led, N₃, hled⟩ := turn_led hInv
    clear hInv
    refine wpAny_tests_nil ?_
    rw [if_pos rfl]
    iterate 8 walk1
    refine' kmk_slice_ints (s := { heap := h3, gens := s.gens, drawn := s.drawn, toks := tk3, os := s.os }) (l := Ds) (vs := items) (ns := xs) ?aF ?aN ?al ?ap ?aq ?ai ?am ?ac ?_ ?as ?aT ?az
    case aF => exact F₃
    case aN => exact N₃
    case al => kmk_list
    case ap => kmk_part
    case aq => kmk_part
    case ai => exact hz
    case am => exact kmk_from hz (by omega)
    case ac => exact List.length_drop ..
    case as => with_unfolding_all rfl
    case aT => kmk_pure
    case az => exact kmk_sz hz (by rw [show sizeLine = 16777216 from rfl]; omega)
    intro D₁ ws₁ h₄ F₄ N₄ l₄ hI₄ hC₄ hL₄
    clear F₃ N₃
    iterate 7 walk1
    refine' kmk_slice_ints (s := { heap := h₄, gens := s.gens, drawn := s.drawn, toks := tk3, os := s.os }) (l := Ds) (vs := items) (ns := xs) ?aF ?aN ?al ?ap ?aq ?ai ?am ?ac ?_ ?as ?aT ?az
    case aF => exact F₄
    case aN => exact N₄
    case al => kmk_list
    case ap => kmk_part
    case aq => kmk_part
    case ai => exact hz
    case am => exact kmk_upto hz (by omega)
    case ac => exact List.length_take ..
    case as => with_unfolding_all rfl
    case aT => kmk_pure
    case az => exact kmk_sz hz (by rw [show sizeLine = 16777216 from rfl]; omega)
    intro D₂ ws₂ h₅ F₅ N₅ l₅ hI₅ hC₅ hL₅
    clear F₄ N₄
    k_steps
    rename_i l1 D h' F' N' _ hI hLD
    refine ⟨_, _, _, rfl, F', TurnsIn.snoc (hled _ _ _ _ N' fun p hp => .tail _ (.tail _ (.tail _ hp))) hLD (N' _ (.head _)).1 ?_⟩
    rw [show ((0 : Int) + (i : Int)).toNat = i from by omega] at hI
    exact hI
  · intro h3 tk3 m3 ys hns hpl hInv hk
    refine post_local (turnsInv xs (h1.objs.size + 1) h1.objs.size L (by omega) (by omega)) rfl F1 N1 hns hpl hInv hk rfl rfl fun h3 tk3 n2 F3 N3 hInv => ?_
    exact hQ _ _ _ _ _ _ F3 N3 hInv (by omega)
end
end Mine

end PartLaw6
-- part Law7
section PartLaw7
open PySem PySem.W PySem.Calls PyProof.Rows
namespace Mine
theorem fill17 (P : Params) : Mine.hd.heap_39 P = Mine.hd.heap_39 P ∧ PySem.Challenge.rw_pg0014_01.foot = PySem.Challenge.rw_pg0014_01.foot := by
  k_fill
  exact ⟨rfl, rfl⟩

local macro_rules | `(tactic| walk_at "eval ListComp") => `(tactic| (k_here; k_dflt (refine comp_eval rfl rfl (by decide) ?_)))
local macro_rules | `(tactic| walk_at "eval Name") => `(tactic| (k_here; (with_reducible show wpAny _ _ (eval _ (compEnvC _ _ _ _)) _ _ _); k_dflt (refine' cname_L ?k1 ?k2 ?_ ?k3 ?k4 ?k5; (case k1 => k_asm); (case k2 => first | assumption | exact rfl); (case k3 => exact rfl); (case k4 => exact rfl); (case k5 => decide))))
local macro_rules | `(tactic| walk_at "eval Name") => `(tactic| (k_here; (with_reducible show wpAny _ _ (eval _ (compEnvC _ _ _ _)) _ _ _); k_dflt (refine' cname_C ?k1 ?k2 ?k6 ?_ ?k3 ?k4 ?k5; (case k1 => k_asm); (case k2 => exact rfl); (case k6 => assumption); (case k3 => exact rfl); (case k4 => exact rfl); (case k5 => decide))))

theorem map_get {f : Nat → Int} {n i : Nat} (h : i < n) : ((List.range n).map f)[i]? = some (f i) := by
  rw [List.getElem?_map, List.getElem?_range h]; rfl

section
variable {w : World} {s : Shared} {mean : ExcName → Option Value} {mg mb : Str → Option Value} {Q : Flow → Shared → Prop} {E : Value → Shared → Prop} {h₀ : Heap} {L : Nat} {m u ua ub : Str → Option Value} {rest : List (Addr × Obj)}

theorem law_S12 (KX : (Mine.hd.heap_39 w.params).In h₀) (T : Top Mine.hd.view_39 (looseW Mine.hd.view_39 []) mean mg mb h₀)
    {ys ds : List Value} {Dr Du lo : Nat} {xs dd : List Int} {n2 nd : Nat}
    (F : Fr h₀ L s.heap (fun y => if y = Str.ofString "turns" then some (.ref Dr) else if y = Str.ofString "ahead" then ub y else if y = Str.ofString "behind" then ub y else if y = Str.ofString "due" then some (.ref Du) else m y))
    (N : News h₀ L s.heap ((Dr, W.listOf ys.toArray n2) :: (Du, W.listOf ds.toArray nd) :: rest))
    (hT : TurnsIn xs lo xs.length ys s.heap) (hzl : xs.length ≤ 9) (hd : IntsAre ds dd) (hdd : (List.range xs.length).map (fun k => behindF (turnOf xs k)) = dd)
    (hQ : ∀ h' tk, Fr h₀ L h' (fun y => if y = Str.ofString "turns" then some (.ref Dr) else if y = Str.ofString "ahead" then ub y else if y = Str.ofString "behind" then ub y else if y = Str.ofString "due" then some (.ref Du) else m y) →
      News h₀ L h' ((Dr, W.listOf ys.toArray n2) :: (Du, W.listOf ds.toArray nd) :: rest) → TurnsIn xs lo xs.length ys h' → Q .next { s with heap := h', toks := tk })
    (sc : Scope) (hsc : sc = lScope) (st : Stmt) (hst : st = lBody.getD 12 (.Pass default)) :
    wpAny (model PySem.Challenge.rw_pg0014_01.row.prog w) (lA sc L) (exec st (lEnv sc L)) Q E s := by
  conv at hsc => rhs; whnf
  conv at hst => rhs; whnf
  subst hsc hst
  have hyl : ys.length ≤ 9 := by rw [hT.1]; exact hzl
  have hddl : dd.length ≤ 9 := by rw [← hdd]; simpa using hzl
  k_steps
  refine comp_list (D := s.heap.objs.size + 1) rfl ⟨_, (N (Dr, W.listOf ys.toArray n2) (.head _)).1, rfl, _, rfl⟩ (by omega) rfl (by decide) rfl rfl (fun i zs _ => IntsAre zs (dd.take i)) (intInv _ _ _) ?_ ?_
  · rintro i v s₃ m₃ zs hv hk ⟨h3, tk3, rfl⟩ F₃ hm hInv
    obtain ⟨KX₃, T₃⟩ := amb_trunc (C := s.heap.objs.size + 1 + 1) ⟨KX, T⟩ F hk (by omega)
    have X3 : Amb w mean mg mb h3 := (Amb.mk KX T).keeps fun b o e => hk b o (F.keep b o e)
    have hi : i < xs.length := by rw [← hT.1]; exact (List.getElem?_eq_some_iff.mp hv).1
    obtain ⟨a, ws, n, rfl, ha, hg, hwi⟩ := hT.2 i v hv
    have hg3 := hk _ _ hg
    clear F N
    have N₃ : News (trunc (s.heap.objs.size + 1 + 1) h3) (s.heap.objs.size + 1 + 1) h3 [] := News.nil
    refine wpAny_tests_nil ?_
    rw [if_pos rfl]
    k_steps
    refine behind_call (s := { heap := h3, gens := s.gens, drawn := s.drawn, toks := tk3, os := s.os }) (ns := turnOf xs i) X3 rfl (by have := lA_room lScope L; exact Nat.lt_of_le_of_lt (Nat.add_le_add_left (by decide) _) this) ⟨_, hg3, rfl, _, rfl⟩ hwi (by simp [turnOf]; omega) fun t h' tk' hk' => ?_
    refine ⟨_, _, _, rfl, Fr.keeps F₃ hk', intsAre_step hInv ?_⟩
    rw [← hdd]
    exact map_get (f := fun k => behindF (turnOf xs k)) hi
  · intro h3 tk3 zs hpl hInv hk
    obtain ⟨n3, hpl⟩ := hpl
    have F3 := Fr.keeps F hk
    have N3 := news_add F N hk (Nat.le_succ _) hpl
    have hT3 := hT.keep fun b o _ e => hk b o e
    have hfull : IntsAre zs dd := by
      rw [List.take_of_length_le (by rw [hT.1, ← hdd]; simp)] at hInv
      exact hInv
    clear F N hInv
    k_steps
    exact hQ _ _ (by assumption) (cb_drop N3 fun p hp => List.mem_cons_of_mem _ hp) hT3

/-- bools as values -/
def boolsOf (bs : List Bool) : List Value := bs.map Value.bool
theorem boolInv (bs : List Bool) (D : Nat) (w₁ : List Addr) : CInv D w₁ (fun i ys _ => ys = boolsOf (bs.take i) ∧ i ≤ bs.length) where
  stab := fun _ _ _ _ h _ => h
  start := fun _ => ⟨rfl, Nat.zero_le _⟩
  len := fun i ys _ h => by rw [h.1]; simp [boolsOf]; omega

def trueV : Value → Bool
  | .bool b => b == true
  | _ => false
theorem countP_true : ∀ bs : List Bool, (boolsOf bs).countP trueV = bs.count true
  | [] => rfl
  | b :: r => by
    rw [show boolsOf (b :: r) = .bool b :: boolsOf r from rfl, List.countP_cons, List.count_cons, countP_true r]
    rfl
theorem count_true {prog : Program} {A : Around} {E Q : Value → Shared → Prop} {l : Addr} {bs : List Bool} (hl : s.heap.IsList l (boolsOf bs).toArray)
    (h : Q (.int (bs.count true : Nat) s.toks) { s with toks := s.toks + 1 }) : wpAny (model prog w) A (call (.builtin "list.count") [.ref l, .bool true]) Q E s := by
  obtain ⟨o, ho, hc, n, hd⟩ := id hl
  obtain ⟨cls, dd, data, sl⟩ := o
  cases hc
  cases hd
  refine call_meets PySem.F.slot_list_count ⟨_, ho, rfl⟩ PySem.F.entry_list_count (PySem.F.args_list_count_2 _ _) (PySem.SeqAt.list_countAt l (boolsOf bs).toArray n dd sl (.bool true) trueV) ⟨ho, fun y hy => ?_, ?_⟩
  · obtain ⟨b, _, rfl⟩ := List.mem_map.mp (show y ∈ bs.map Value.bool by simpa [boolsOf] using hy)
    exact PySem.SeqAt.EqAt.bool_bool b true
  · rw [show (boolsOf bs).toArray.toList = boolsOf bs from rfl, countP_true]
    exact h
local macro_rules | `(tactic| walk_at "call builtin:list.count") => `(tactic| (k_here; (with_reducible show wpAny _ _ (call (Value.builtin _) [Value.ref _, Value.bool true]) _ _ _); k_dflt (refine count_true (by is_list) ?_)))

theorem law_S13 (KX : (Mine.hd.heap_39 w.params).In h₀) (T : Top Mine.hd.view_39 (looseW Mine.hd.view_39 []) mean mg mb h₀)
    {ys : List Value} {Dr lo : Nat} {xs : List Int} {n2 : Nat} {o3 : Obj} {left : Int} {t3 : Tok}
    (F : Fr h₀ L s.heap (fun y => if y = Str.ofString "turns" then some (.ref Dr) else m y))
    (N : News h₀ L s.heap ((Dr, W.listOf ys.toArray n2) :: (L + 1 + 1 + 1, o3) :: rest)) (ho3 : o3.data = .cell (some (.int left t3)))
    (hT : TurnsIn xs lo xs.length ys s.heap) (hzl : xs.length ≤ 9) (hdd : ((((List.range xs.length).map (fun k => frontF (turnOf xs k) left)).count true : Nat) : Int) = max 0 left)
    (hQ : ∀ h' tk, Fr h₀ L h' (fun y => if y = Str.ofString "turns" then some (.ref Dr) else m y) → Q (.ret (.bool true)) { s with heap := h', toks := tk })
    (sc : Scope) (hsc : sc = lScope) (st : Stmt) (hst : st = lBody.getD 13 (.Pass default)) :
    wpAny (model PySem.Challenge.rw_pg0014_01.row.prog w) (lA sc L) (exec st (lEnv sc L)) Q E s := by
  conv at hsc => rhs; whnf
  conv at hst => rhs; whnf
  subst hsc hst
  have hyl : ys.length ≤ 9 := by rw [hT.1]; exact hzl
  generalize hbs : (List.range xs.length).map (fun k => frontF (turnOf xs k) left) = bs at hdd
  have hbl : bs.length = xs.length := by rw [← hbs]; simp
  k_steps
  refine comp_list (D := s.heap.objs.size + 1) rfl ⟨_, (N (Dr, W.listOf ys.toArray n2) (.head _)).1, rfl, _, rfl⟩ (by omega) rfl (by decide) rfl rfl (fun i zs _ => zs = boolsOf (bs.take i) ∧ i ≤ bs.length) (boolInv _ _ _) ?_ ?_
  · rintro i v s₃ m₃ zs hv hk ⟨h3, tk3, rfl⟩ F₃ hm hInv
    obtain ⟨KX₃, T₃⟩ := amb_trunc (C := s.heap.objs.size + 1 + 1) ⟨KX, T⟩ F hk (by omega)
    have X3 : Amb w mean mg mb h3 := (Amb.mk KX T).keeps fun b o e => hk b o (F.keep b o e)
    have hi : i < xs.length := by rw [← hT.1]; exact (List.getElem?_eq_some_iff.mp hv).1
    obtain ⟨a, ws, n, rfl, ha, hg, hwi⟩ := hT.2 i v hv
    have hg3 := hk _ _ hg
    have hc3 : (trunc (s.heap.objs.size + 1 + 1) h3).IsCell (L + 1 + 1 + 1) (some (.int left t3)) := trunc_cell (C := s.heap.objs.size + 1 + 1) hk (by omega) (N (L + 1 + 1 + 1, o3) (by simp)).1 ho3
    clear F N
    have N₃ : News (trunc (s.heap.objs.size + 1 + 1) h3) (s.heap.objs.size + 1 + 1) h3 [] := News.nil
    refine wpAny_tests_nil ?_
    rw [if_pos rfl]
    k_steps
    refine front_call (s := { heap := h3, gens := s.gens, drawn := s.drawn, toks := tk3, os := s.os }) (ns := turnOf xs i) X3 rfl (by have := lA_room lScope L; exact Nat.lt_of_le_of_lt (Nat.add_le_add_left (by decide) _) this) ⟨_, hg3, rfl, _, rfl⟩ hwi fun h' tk' hk' => ?_
    refine ⟨_, _, _, rfl, Fr.keeps F₃ hk', ?_, by rw [hbl]; exact hi⟩
    have e : bs[i]? = some (frontF (turnOf xs i) left) := by
      rw [← hbs, List.getElem?_map, List.getElem?_range hi]; rfl
    rw [hInv.1, List.take_add_one, e]
    simp [boolsOf]
  · intro h3 tk3 zs hpl hInv hk
    obtain ⟨n3, hpl⟩ := hpl
    have F3 := Fr.keeps F hk
    have N3 := news_add F N hk (Nat.le_succ _) hpl
    have hfull : zs = boolsOf bs := by
      have h1 := hInv.1
      rw [List.take_of_length_le (by rw [hbl, hT.1]; exact Nat.le_refl _)] at h1
      exact h1
    clear F N hInv
    subst hfull
    k_steps
    rename_i h9 tk9 F9 N9
    have e : ((bs.count true : Nat) : Int) = if left > 0 then left else 0 := by
      rw [hdd]
      split <;> omega
    rw [e, beq_self_eq_true]
    exact hQ _ _ F9
end
end Mine

end PartLaw7
-- part Plain
section PartPlain
open PySem PySem.W PySem.Calls PyProof.Rows
namespace Mine

theorem sum_app : ∀ a b : List Int, (a ++ b).sum = a.sum + b.sum
  | [], b => by simp
  | x :: a, b => by
    rw [List.cons_append, List.sum_cons, List.sum_cons, sum_app a b]
    omega
theorem sum_split (a : List Int) (i : Nat) : (a.take i).sum + (a.drop i).sum = a.sum := by
  rw [← sum_app, List.take_append_drop]

/-- every end of the row sums to one or more -/
def goodB : List Int → Bool
  | [] => true
  | d :: ds => goodB ds && decide (1 ≤ d + ds.sum)
theorem goodB_nonneg : ∀ ds : List Int, goodB ds = true → 0 ≤ ds.sum
  | [], _ => Int.le_refl _
  | d :: ds, h => by
    rw [goodB, Bool.and_eq_true] at h
    have := of_decide_eq_true h.2
    rw [List.sum_cons]
    omega
theorem goodB_iff : ∀ ds : List Int, goodB ds = true ↔ ∀ j, j < ds.length → 1 ≤ (ds.drop j).sum
  | [] => ⟨fun _ j hj => by simp at hj, fun _ => rfl⟩
  | d :: ds => by
    rw [goodB, Bool.and_eq_true, goodB_iff ds]
    constructor
    · rintro ⟨h1, h2⟩ j hj
      cases j with
      | zero => rw [List.drop_zero, List.sum_cons]; exact of_decide_eq_true h2
      | succ j => rw [List.drop_succ_cons]; exact h1 j (by simpa using hj)
    · intro h
      refine ⟨fun j hj => ?_, decide_eq_true ?_⟩
      · have := h (j + 1) (by simpa using hj)
        rwa [List.drop_succ_cons] at this
      · have := h 0 (by simp)
        rwa [List.drop_zero, List.sum_cons] at this

/-- the rows of symbols that are met -/
def Okay (ts : List Int) : Prop := ∀ x ∈ ts, 1 ≤ x ∧ x ≤ 4
theorem bStep_at {t x : Int} (h1 : 1 ≤ x) (ht : 0 ≤ t) : bStep (some t) (254 + x) = if 1 ≤ t + stepOf x then some (t + stepOf x) else none := by
  unfold bStep stepOf
  simp only [Option.bind_some]
  by_cases e : x = 1
  · rw [if_pos (by omega), if_pos e, if_pos (by omega)]
  · rw [if_neg (by omega), if_neg e]
    by_cases h : t < 254 + x - 254
    · rw [if_pos h, if_neg (by omega)]
    · rw [if_neg h, if_pos (by omega)]
      congr 1
      omega
theorem behind_fold : ∀ ts : List Int, Okay ts → (ts.map (254 + ·)).reverse.foldl bStep (some 0) = if goodB (ts.map stepOf) = true then some (ts.map stepOf).sum else none
  | [], _ => rfl
  | x :: ts, ho => by
    have hx := ho x (List.mem_cons_self ..)
    rw [List.map_cons, List.reverse_cons, List.foldl_append, behind_fold ts fun y hy => ho y (List.mem_cons_of_mem _ hy)]
    rw [List.map_cons, List.sum_cons]
    by_cases hg : goodB (ts.map stepOf) = true
    · have hn := goodB_nonneg _ hg
      rw [if_pos hg, List.foldl_cons, List.foldl_nil, bStep_at hx.1 hn, goodB, hg, Bool.true_and, Int.add_comm]
      by_cases h : 1 ≤ stepOf x + (ts.map stepOf).sum
      · rw [if_pos h, if_pos (decide_eq_true h)]
      · rw [if_neg h, if_neg (fun q => h (of_decide_eq_true q))]
    · rw [if_neg hg, if_neg (fun q => hg (by rw [goodB, Bool.and_eq_true] at q; exact q.1))]
      rfl
theorem behindF_eq {ts : List Int} (ho : Okay ts) : behindF (ts.map (254 + ·)) = if goodB (ts.map stepOf) = true then (ts.map stepOf).sum else 0 := by
  unfold behindF
  rw [behind_fold ts ho]
  split <;> rfl

theorem fStep_at {t x : Int} (h1 : 1 ≤ x) : fStep (some t) (254 + x) = if 1 ≤ t then some (t - stepOf x) else none := by
  unfold fStep stepOf
  simp only [Option.bind_some]
  by_cases h : t < 1
  · rw [if_pos h, if_neg (show ¬ 1 ≤ t by omega)]
  · rw [if_neg h, if_pos (show 1 ≤ t by omega)]
    by_cases e : x = 1
    · rw [if_neg (show ¬ 256 ≤ 254 + x by omega), if_pos e]
    · rw [if_pos (show 256 ≤ 254 + x by omega), if_neg e]
      congr 1
      omega
theorem front_fold : ∀ (ts : List Int) (r : Int), Okay ts → r = (ts.map stepOf).sum → (ts.map (254 + ·)).foldl fStep (some r) = if goodB (ts.map stepOf) = true then some 0 else none
  | [], r, _, hr => by
    subst hr
    rfl
  | x :: ts, r, ho, hr => by
    have hx := ho x (List.mem_cons_self ..)
    rw [List.map_cons, List.sum_cons] at hr
    rw [List.map_cons, List.foldl_cons, fStep_at hx.1, List.map_cons, goodB]
    by_cases h : 1 ≤ r
    · rw [if_pos h, front_fold ts _ (fun y hy => ho y (List.mem_cons_of_mem _ hy)) (by omega), decide_eq_true (by omega), Bool.and_true]
    · rw [if_neg h, fStep_none, decide_eq_false (by omega), Bool.and_false]
      rfl
theorem frontF_eq {ts : List Int} {r : Int} (ho : Okay ts) (hr : r = (ts.map stepOf).sum) : frontF (ts.map (254 + ·)) r = goodB (ts.map stepOf) := by
  unfold frontF
  rw [front_fold ts r ho hr]
  cases goodB (ts.map stepOf) <;> rfl

theorem turn_map (f : Int → Int) (ts : List Int) (k : Nat) : turnOf (ts.map f) k = (turnOf ts k).map f := by
  unfold turnOf
  rw [List.map_append, List.map_drop, List.map_take]
theorem turn_sum (ss : List Int) (k : Nat) : (turnOf ss k).sum = ss.sum := by
  unfold turnOf
  rw [sum_app, Int.add_comm]
  exact sum_split ss k
theorem turn_okay {ts : List Int} (ho : Okay ts) (k : Nat) : Okay (turnOf ts k) := fun x hx => by
  rcases List.mem_append.mp hx with h | h
  · exact ho x (List.mem_of_mem_drop h)
  · exact ho x (List.mem_of_mem_take h)

/-- the height ahead of the place k -/
def ht (ss : List Int) (k : Nat) : Int := (ss.take k).sum

theorem good_turn {ss : List Int} {k : Nat} (hk : k < ss.length) : goodB (turnOf ss k) = true ↔ (∀ j, j < k → ht ss j < ht ss k) ∧ ∀ j, k ≤ j → j < ss.length → ht ss j - ss.sum < ht ss k := by
  rw [goodB_iff]
  have hlen : (turnOf ss k).length = ss.length := by
    unfold turnOf
    rw [List.length_append, List.length_drop, List.length_take]
    omega
  have d1 : ∀ j, j < ss.length - k → ((turnOf ss k).drop j).sum = ss.sum - ht ss (k + j) + ht ss k := fun j hj => by
    unfold turnOf ht
    rw [List.drop_append_of_le_length (by rw [List.length_drop]; omega), sum_app, List.drop_drop]
    have := sum_split ss (k + j)
    omega
  have d2 : ∀ j, j < k → ((turnOf ss k).drop (ss.length - k + j)).sum = ht ss k - ht ss j := fun j hj => by
    unfold turnOf ht
    have e : ss.length - k + j = (ss.drop k).length + j := by rw [List.length_drop]
    rw [e, List.drop_length_add_append]
    have := sum_split (ss.take k) j
    rw [List.take_take, Nat.min_eq_left (by omega)] at this
    omega
  constructor
  · intro h
    constructor
    · intro j hj
      have h1 := h (ss.length - k + j) (by rw [hlen]; omega)
      rw [d2 j hj] at h1
      omega
    · intro j hj1 hj2
      have h1 := h (j - k) (by rw [hlen]; omega)
      rw [d1 (j - k) (by omega), show k + (j - k) = j from by omega] at h1
      omega
  · rintro ⟨h1, h2⟩ j hj
    rw [hlen] at hj
    by_cases hc : j < ss.length - k
    · rw [d1 j hc]
      have := h2 (k + j) (by omega) (by omega)
      omega
    · have e : j = ss.length - k + (j - (ss.length - k)) := by omega
      have := h1 (j - (ss.length - k)) (by omega)
      rw [e, d2 _ (by omega)]
      omega

/-- the highest beginning below k, from b on -/
def top (H : Nat → Int) (b : Int) : Nat → Int
  | 0 => b
  | k + 1 => max (top H b k) (H k)
theorem top_lt {H : Nat → Int} {b v : Int} : ∀ k, top H b k < v ↔ b < v ∧ ∀ j, j < k → H j < v
  | 0 => ⟨fun h => ⟨h, fun j hj => absurd hj (Nat.not_lt_zero _)⟩, fun h => h.1⟩
  | k + 1 => by
    have ih := top_lt (H := H) (b := b) (v := v) k
    show max (top H b k) (H k) < v ↔ _
    constructor
    · intro h
      have h1 := ih.mp (by omega)
      refine ⟨h1.1, fun j hj => ?_⟩
      by_cases e : j = k
      · subst e; omega
      · exact h1.2 j (by omega)
    · rintro ⟨h1, h2⟩
      have h3 := ih.mpr ⟨h1, fun j hj => h2 j (by omega)⟩
      have h4 := h2 k (by omega)
      omega
theorem top_le {H : Nat → Int} {b : Int} {k j : Nat} (hj : j < k) : H j ≤ top H b k := by
  have := ((top_lt (H := H) (b := b) (v := top H b k + 1) k).mp (by omega)).2 j hj
  omega
theorem top_ge {H : Nat → Int} {b : Int} (k : Nat) : b ≤ top H b k := by
  have := ((top_lt (H := H) (b := b) (v := top H b k + 1) k).mp (by omega)).1
  omega

theorem ht_succ {ss : List Int} {k : Nat} (hk : k < ss.length) : ht ss (k + 1) = ht ss k + ss[k] := by
  unfold ht
  rw [List.take_succ_eq_append_getElem hk, sum_app]
  simp

theorem count_snoc (p : Nat → Bool) (k : Nat) : ((List.range (k + 1)).map p).count true = ((List.range k).map p).count true + if p k = true then 1 else 0 := by
  rw [List.range_succ, List.map_append, List.count_append]
  cases h : p k <;> simp [h]

/-- the cycle lemma -/
theorem cycle {ss : List Int} (h1 : ∀ d ∈ ss, d ≤ 1) (hpos : 0 < ss.sum) : ((((List.range ss.length).map fun k => goodB (turnOf ss k)).count true : Nat) : Int) = ss.sum := by
  have hn : 0 < ss.length := by
    cases ss with
    | nil => simp at hpos
    | cons _ _ => simp
  have hd : ∀ k (hk : k < ss.length), ss[k] ≤ 1 := fun k hk => h1 _ (List.getElem_mem hk)
  have h0 : ht ss 0 = 0 := rfl
  obtain ⟨M, hM⟩ : ∃ M, M = top (ht ss) (ht ss 0) ss.length := ⟨_, rfl⟩
  have hMle : ∀ j, j < ss.length → ht ss j ≤ M := fun j hj => hM ▸ top_le hj
  have hMlt : ∀ v, (∀ j, j < ss.length → ht ss j < v) → M < v := fun v hv => hM ▸ (top_lt _).mpr ⟨hv 0 hn, hv⟩
  have hMlast : ss.sum - 1 ≤ M := by
    have e : ss.length - 1 + 1 = ss.length := by omega
    have a1 := ht_succ (ss := ss) (k := ss.length - 1) (by omega)
    have a2 := hd (ss.length - 1) (by omega)
    have a3 := hMle (ss.length - 1) (by omega)
    have a4 : ht ss (ss.length - 1 + 1) = ss.sum := by
      unfold ht
      rw [e, List.take_length]
    omega
  have key : ∀ k, k ≤ ss.length → ((((List.range k).map fun k => goodB (turnOf ss k)).count true : Nat) : Int) = top (ht ss) (M - ss.sum) k - (M - ss.sum) := by
    intro k
    induction k with
    | zero => intro _; show (0 : Int) = M - ss.sum - (M - ss.sum); omega
    | succ k ih =>
      intro hk
      have ih := ih (by omega)
      have hup : ht ss k ≤ top (ht ss) (M - ss.sum) k + 1 := by
        cases k with
        | zero => show ht ss 0 ≤ M - ss.sum + 1; omega
        | succ k =>
          have b1 := ht_succ (ss := ss) (k := k) (by omega)
          have b2 := hd k (by omega)
          have b3 : ht ss k ≤ top (ht ss) (M - ss.sum) (k + 1) := top_le (by omega)
          omega
      have hrec : goodB (turnOf ss k) = true ↔ top (ht ss) (M - ss.sum) k < ht ss k := by
        rw [good_turn (by omega), top_lt]
        constructor
        · rintro ⟨c1, c2⟩
          refine ⟨?_, c1⟩
          have := hMlt (ht ss k + ss.sum) fun j hj => by
            by_cases hjk : j < k
            · have := c1 j hjk
              omega
            · have := c2 j (by omega) hj
              omega
          omega
        · rintro ⟨c1, c2⟩
          refine ⟨c2, fun j _ hj => ?_⟩
          have := hMle j hj
          omega
      rw [count_snoc]
      show _ = max (top (ht ss) (M - ss.sum) k) (ht ss k) - (M - ss.sum)
      by_cases hg : goodB (turnOf ss k) = true
      · have := hrec.mp hg
        rw [if_pos hg]
        omega
      · have : ¬ top (ht ss) (M - ss.sum) k < ht ss k := fun q => hg (hrec.mpr q)
        rw [if_neg hg]
        omega
  rw [key _ (Nat.le_refl _)]
  have e : top (ht ss) (M - ss.sum) ss.length = M := by
    have u1 : ∀ v, top (ht ss) (M - ss.sum) ss.length < v ↔ M < v := fun v => by
      rw [top_lt]
      constructor
      · rintro ⟨_, c⟩
        exact hMlt v c
      · intro c
        refine ⟨by omega, fun j hj => ?_⟩
        have := hMle j hj
        omega
    have u2 := (u1 (M + 1)).mpr (by omega)
    have u3 := (u1 (top (ht ss) (M - ss.sum) ss.length + 1)).mp (by omega)
    omega
  omega

theorem cycle_no {ss : List Int} (hpos : ss.sum ≤ 0) : ((List.range ss.length).map fun k => goodB (turnOf ss k)).count true = 0 := by
  rw [List.count_eq_zero]
  intro h
  obtain ⟨k, hk, e⟩ := List.mem_map.mp h
  have hk' : k < ss.length := List.mem_range.mp hk
  have := ((good_turn hk').mp e).2 k (Nat.le_refl _) hk'
  omega

theorem plain_front {ts : List Int} (ho : Okay ts) : ((((List.range (ts.map (254 + ·)).length).map fun k => frontF (turnOf (ts.map (254 + ·)) k) (ts.map stepOf).sum).count true : Nat) : Int) = max 0 (ts.map stepOf).sum := by
  have e : (fun k => frontF (turnOf (ts.map (254 + ·)) k) (ts.map stepOf).sum) = fun k => goodB (turnOf (ts.map stepOf) k) := by
    funext k
    rw [turn_map, turn_map, frontF_eq (turn_okay ho k)]
    rw [← turn_map, turn_sum]
  have el : (ts.map (254 + ·)).length = (ts.map stepOf).length := by simp
  rw [e, el]
  by_cases hpos : 0 < (ts.map stepOf).sum
  · rw [cycle ?_ hpos]
    · omega
    · intro d hd
      obtain ⟨x, hx, rfl⟩ := List.mem_map.mp hd
      have := ho x hx
      unfold stepOf
      split <;> omega
  · rw [cycle_no (by omega)]
    omega

theorem hts_get {ss : List Int} {j : Nat} (hj : j < ss.length) : (htsOf ss).getD j 0 = ht ss j := by
  unfold htsOf ht
  rw [List.getD_eq_getElem?_getD, List.getElem?_map, List.getElem?_range hj]
  rfl
theorem selOf_nil {p : Nat → Bool} {f : Nat → Int} {n : Nat} : selOf p f n = [] ↔ ∀ j, j < n → p j = false := by
  unfold selOf
  rw [List.map_eq_nil_iff, List.filter_eq_nil_iff]
  simp

theorem plain_behind {ts : List Int} (ho : Okay ts) : ((List.range (ts.map (254 + ·)).length).map fun k => behindF (turnOf (ts.map (254 + ·)) k)) = dueOf (htsOf (ts.map stepOf)) (ts.map stepOf).sum := by
  unfold dueOf
  have el : (htsOf (ts.map stepOf)).length = (ts.map (254 + ·)).length := by simp [htsOf]
  rw [el]
  refine List.map_congr_left fun k hk => ?_
  have hk : k < (ts.map stepOf).length := by
    have := List.mem_range.mp hk
    rwa [List.length_map] at this ⊢
  have hln : (htsOf (ts.map stepOf)).length = (ts.map stepOf).length := by simp [htsOf]
  rw [turn_map, behindF_eq (turn_okay ho k), ← turn_map, turn_sum]
  unfold dueAt
  generalize ts.map stepOf = ss at hk hln ⊢
  rw [hln]
  have hiff : goodB (turnOf ss k) = true ↔ (0 < ss.sum ∧ selOf (fun j => decide ((htsOf ss).getD k 0 ≤ (htsOf ss).getD j 0)) (fun j => (j : Int)) k = [] ∧ selOf (fun j => decide ((htsOf ss).getD k 0 ≤ (htsOf ss).getD (k + 1 + j) 0 - ss.sum)) (fun j => ((k : Int) + 1 + (j : Int))) (ss.length - (k + 1)) = []) := by
    rw [good_turn hk, selOf_nil, selOf_nil]
    constructor
    · rintro ⟨c1, c2⟩
      refine ⟨by have := c2 k (Nat.le_refl _) hk; omega, fun j hj => ?_, fun j hj => ?_⟩
      · rw [hts_get hk, hts_get (by omega)]
        have := c1 j hj
        exact decide_eq_false (by omega)
      · rw [hts_get hk, hts_get (by omega)]
        have := c2 (k + 1 + j) (by omega) (by omega)
        exact decide_eq_false (by omega)
    · rintro ⟨c0, c1, c2⟩
      refine ⟨fun j hj => ?_, fun j hj1 hj2 => ?_⟩
      · have := of_decide_eq_false (c1 j hj)
        rw [hts_get hk, hts_get (by omega)] at this
        omega
      · by_cases e : j = k
        · subst e; omega
        · have := of_decide_eq_false (c2 (j - (k + 1)) (by omega))
          rw [hts_get hk, show k + 1 + (j - (k + 1)) = j from by omega, hts_get (by omega)] at this
          omega
  by_cases hg : goodB (turnOf ss k) = true
  · rw [if_pos hg, if_pos (hiff.mp hg)]
  · rw [if_neg hg, if_neg (fun q => hg (hiff.mpr q))]
end Mine

end PartPlain
-- part Law8
section PartLaw8
open PySem PySem.W PySem.Calls PyProof.Rows
namespace Mine

theorem pick_in (x : Int) : 1 ≤ pick x ∧ pick x ≤ 4 := by
  have h0 : 0 ≤ x.fmod 8 := Int.fmod_nonneg_of_pos _ (by decide)
  have h8 : x.fmod 8 < 8 := Int.fmod_lt_of_pos _ (by decide)
  unfold pick
  generalize x.fmod 8 = r at h0 h8
  have hc : r = 0 ∨ r = 1 ∨ r = 2 ∨ r = 3 ∨ r = 4 ∨ r = 5 ∨ r = 6 ∨ r = 7 := by omega
  rcases hc with rfl | rfl | rfl | rfl | rfl | rfl | rfl | rfl <;> decide
theorem szOf_len (ns : List Int) : 2 ≤ (szOf ns).length ∧ (szOf ns).length ≤ 8 := by
  unfold szOf
  rw [List.length_append, List.length_map, List.length_take, show ([2, 1] : List Int).length = 2 from rfl]
  omega
theorem szOf_okay (ns : List Int) : Okay (szOf ns) := fun x hx => by
  rcases List.mem_append.mp hx with h | h
  · rcases List.mem_cons.mp h with rfl | h
    · decide
    · rw [List.mem_singleton.mp h]; decide
  · obtain ⟨y, _, rfl⟩ := List.mem_map.mp h
    exact pick_in y
theorem kindOf_in (ns : List Int) : 0 ≤ kindOf ns ∧ kindOf ns < 5 := ⟨Int.fmod_nonneg_of_pos _ (by decide), Int.fmod_lt_of_pos _ (by decide)⟩
theorem told_len {kd : Int} {sz : List Int} (h : sz.length ≤ 8) : (toldOf kd sz).length ≤ 9 := by
  unfold toldOf
  split
  · rw [List.length_take]; omega
  · omega
theorem told_okay {kd : Int} {sz : List Int} (ho : Okay sz) (hn : sz ≠ []) : Okay (toldOf kd sz) := fun x hx => by
  unfold toldOf at hx
  split at hx
  · rcases List.mem_append.mp (List.mem_of_mem_take hx) with h | h
    · exact ho x h
    · rw [List.eq_of_mem_replicate h]
      have hl : sz.length - 1 < sz.length := by have := List.length_pos_iff.mpr hn; omega
      rw [List.getD_eq_getElem?_getD, List.getElem?_eq_getElem hl]
      exact ho _ (List.getElem_mem hl)
  · exact ho x hx

section
variable {w : World} {s : Shared} {mean : ExcName → Option Value} {mg mb : Str → Option Value} {Q : Flow → Shared → Prop} {h₀ : Heap} {L : Nat} {m : Str → Option Value}

theorem ne_cell {h : Heap} {news : List (Addr × Obj)} (N : News h₀ L h news) {a c : Nat} {xs : Array Value} {n : Nat} {o : Obj} {v : Option Value} (h1 : (a, W.listOf xs n) ∈ news) (h2 : (c, o) ∈ news) (ho : o.data = .cell v) : a ≠ c := by
  rintro rfl
  have e := (N _ h1).1.symm.trans (N _ h2).1
  cases e
  cases ho
theorem nq3 {h : Heap} {dt d c1 c2 c3 c4 c5 : Addr × Obj} (N : News h₀ L h [dt, d, c5, c4, c3, c2, c1]) : News h₀ L h [c1, dt, d, c2, c3, c4, c5] := cb_drop N (by intro p hp; simp only [List.mem_cons] at hp ⊢; grind)
theorem nq4 {h : Heap} {dt d ds c1 c2 c3 c4 c5 : Addr × Obj} (N : News h₀ L h [c1, ds, dt, d, c2, c3, c4, c5]) : News h₀ L h [ds, c1, d, dt, c2, c3, c4, c5] := cb_drop N (by intro p hp; simp only [List.mem_cons] at hp ⊢; grind)
theorem nq6 {h : Heap} {dt d ds c1 c2 c3 c4 c5 : Addr × Obj} (N : News h₀ L h [ds, c1, d, dt, c2, c3, c4, c5]) : News h₀ L h [c2, dt, c3, c4, c5, ds, c1] := cb_drop N (by intro p hp; simp only [List.mem_cons] at hp ⊢; grind)
theorem nq7 {h : Heap} {dt dst ds c1 c2 c3 c4 c5 : Addr × Obj} (N : News h₀ L h [c2, dst, dt, c3, c4, c5, ds, c1]) : News h₀ L h [c3, c2, dst, dt, c4, c5, ds, c1] := cb_drop N (by intro p hp; simp only [List.mem_cons] at hp ⊢; grind)
theorem nq8 {h : Heap} {dt dst ds c1 c2 c3 c4 c5 : Addr × Obj} (N : News h₀ L h [c3, c2, dst, dt, c4, c5, ds, c1]) : News h₀ L h [c5, c2, dst, c3, dt, c4, ds, c1] := cb_drop N (by intro p hp; simp only [List.mem_cons] at hp ⊢; grind)
theorem nq9 {h : Heap} {dt dst dh ds c1 c2 c3 c4 c5 : Addr × Obj} (N : News h₀ L h [c5, dh, c2, dst, c3, dt, c4, ds, c1]) : News h₀ L h [c3, c4, c5, dh, dt, ds, c1] := cb_drop N (by intro p hp; simp only [List.mem_cons] at hp ⊢; grind)
theorem nq11 {h : Heap} {du dt dh ds c1 c3 c4 c5 : Addr × Obj} (N : News h₀ L h [du, c3, c4, c5, dh, dt, ds, c1]) : News h₀ L h [c1, ds, du, c3] := cb_drop N (by intro p hp; simp only [List.mem_cons] at hp ⊢; grind)
theorem nq12 {h : Heap} {dr du ds c1 c3 : Addr × Obj} (N : News h₀ L h [dr, c1, ds, du, c3]) : News h₀ L h [dr, du, c3] := cb_drop N (by intro p hp; simp only [List.mem_cons] at hp ⊢; grind)
theorem nq13 {h : Heap} {dr du c3 : Addr × Obj} (N : News h₀ L h [dr, du, c3]) : News h₀ L h [dr, c3] := cb_drop N (by intro p hp; simp only [List.mem_cons] at hp ⊢; grind)

theorem lBody_is : lBody = [lBody.getD 0 (.Pass default), lBody.getD 1 (.Pass default), lBody.getD 2 (.Pass default), lBody.getD 3 (.Pass default), lBody.getD 4 (.Pass default), lBody.getD 5 (.Pass default), lBody.getD 6 (.Pass default),
    lBody.getD 7 (.Pass default), lBody.getD 8 (.Pass default), lBody.getD 9 (.Pass default), lBody.getD 10 (.Pass default), lBody.getD 11 (.Pass default), lBody.getD 12 (.Pass default), lBody.getD 13 (.Pass default)] := rfl

theorem law_body (KX : (Mine.hd.heap_39 w.params).In h₀) (T : Top Mine.hd.view_39 (looseW Mine.hd.view_39 []) mean mg mb h₀)
    {l : Nat} {vs : List Value} {ns : List Int} {o1 o2 o3 o4 o5 : Obj} {v1 v2 v3 v4 v5 : Option Value}
    (F : Fr h₀ L s.heap (fun y => if y = Str.ofString "script" then some (.ref l) else m y))
    (N : News h₀ L s.heap [(L + 1 + 1 + 1 + 1 + 1, o5), (L + 1 + 1 + 1 + 1, o4), (L + 1 + 1 + 1, o3), (L + 1 + 1, o2), (L + 1, o1)])
    (ho1 : o1.data = .cell v1) (ho2 : o2.data = .cell v2) (ho3 : o3.data = .cell v3) (ho4 : o4.data = .cell v4) (ho5 : o5.data = .cell v5)
    (hl : h₀.IsList l vs.toArray) (hi : IntsAre vs ns) (hlen : ns.length ≤ 63) (hbare : ∀ x ∈ s.gens, x.bare = true)
    (hQ : ∀ h' tk gens' m', Fr h₀ L h' m' → (∀ x ∈ gens', x.bare = true) → Q (.ret (.bool true)) { s with heap := h', toks := tk, gens := gens' })
    (sc : Scope) (hsc : sc = lScope) (body : List Stmt) (hb : body = lBody) :
    wpAny (model PySem.Challenge.rw_pg0014_01.row.prog w) (lA sc L) (execs body (lEnv sc L)) Q (fun _ _ => False) s := by
  have hsl := szOf_len ns
  have hso := szOf_okay ns
  have hk := kindOf_in ns
  have hsn : szOf ns ≠ [] := fun e => by rw [e] at hsl; exact absurd hsl.1 (by decide)
  have htl := told_len (kd := kindOf ns) hsl.2
  have hto := told_okay (kd := kindOf ns) hso hsn
  rw [hb, lBody_is]
  -- sizes
  refine wpAny_execs_cons (law_S0 KX T F N hl hi hlen (fun h0 tk0 D ws F0 N0 hws => ?_) sc hsc _ rfl)
  -- kind
  refine wpAny_execs_cons (law_S1 (s := { s with heap := h0, toks := tk0 }) (ws := ws) (D := D) KX T F0 N0 hl hi hlen (fun h1 tk1 t1 F1 N1 => ?_) sc hsc _ rfl)
  -- told
  refine wpAny_execs_cons (law_S2 (s := { s with heap := h1, toks := tk1 }) KX T F1 N1 hws hsn hsl.2 (fun h2 tk2 t2 Dt wt F2 N2 hwt => ?_) sc hsc _ rfl)
  replace hwt : IntsAre wt (toldOf (kindOf ns) (szOf ns)) := hwt
  generalize hsz : szOf ns = sz at *
  generalize hkd : kindOf ns = kd at *
  generalize htt : toldOf kd sz = tt at *
  clear F0 N0 F1 N1 F N
  -- symbols
  refine wpAny_execs_cons (law_S3 (s := { s with heap := h2, toks := tk2 }) KX T F2 (nq3 N2) ho1 ?_ (fun h3 tk3 Ds o1' F3 N3 ho1' hDs hfr3 => ?_) sc hsc _ rfl)
  · intro p hp
    simp only [List.mem_cons, List.not_mem_nil, or_false] at hp
    rcases hp with rfl | rfl | rfl | rfl | rfl | rfl
    · exact ne_cell N2 (.head _) (.tail _ (.tail _ (.tail _ (.tail _ (.tail _ (.tail _ (.head _))))))) ho1
    · exact ne_cell N2 (.tail _ (.head _)) (.tail _ (.tail _ (.tail _ (.tail _ (.tail _ (.tail _ (.head _))))))) ho1
    all_goals (
      intro q
      have q' : @Eq Nat _ _ := q
      dsimp only at q'
      omega)
  clear F2 N2
  -- the loop over the generator
  refine wpAny_execs_cons (law_S4 (s := { s with heap := h3, toks := tk3 }) KX T F3 (nq4 N3) ho1' ?_ hws hso hsl.1 hsl.2 hk.1 hk.2 hbare (fun h4 tk4 g4 u items nn F4 N4 hit hb4 => ?_) sc hsc _ rfl)
  · intro p hp
    simp only [List.mem_cons, List.not_mem_nil, or_false] at hp
    rcases hp with rfl | rfl | rfl | rfl | rfl | rfl | rfl
    · exact fun q => hDs q.symm
    · exact hfr3 _ (.tail _ (.head _))
    · exact hfr3 _ (.head _)
    · exact hfr3 _ (.tail _ (.tail _ (.head _)))
    · exact hfr3 _ (.tail _ (.tail _ (.tail _ (.head _))))
    · exact hfr3 _ (.tail _ (.tail _ (.tail _ (.tail _ (.head _)))))
    · exact hfr3 _ (.tail _ (.tail _ (.tail _ (.tail _ (.tail _ (.head _))))))
  rw [htt] at hit
  clear F3 N3
  -- what is told, and the refusal
  refine wpAny_execs_cons (law_S5 (s := { s with heap := h4, toks := tk4, gens := g4 }) KX T F4 N4 ho1' hws hsl.2 hwt htl hit hb4 (fun h5 tk5 g5 F5 N5 hb5 => ?_) sc hsc _ rfl)
  clear F4 N4
  -- steps
  have hnc : ∀ {h : Heap} {news : List (Addr × Obj)} (N : News h₀ L h news) {a c : Nat} {xs : Array Value} {n : Nat} {o : Obj} {v : Option Value}, (a, W.listOf xs n) ∈ news → (c, o) ∈ news → o.data = .cell v → a ≠ c := fun N _ _ _ _ _ _ h1 h2 ho => ne_cell N h1 h2 ho
  have N6 := nq6 N5
  refine wpAny_execs_cons (law_S6 (s := { s with heap := h5, toks := tk5, gens := g5 }) KX T F5 N6 ho2 ?_ hwt htl (fun h6 tk6 Dst ys n2 o2' F6 N6' ho2' hys => ?_) sc hsc _ rfl)
  · intro p hp
    simp only [List.mem_cons, List.not_mem_nil, or_false] at hp
    rcases hp with rfl | rfl | rfl | rfl | rfl | rfl
    · exact ne_cell N6 (.tail _ (.head _)) (.head _) ho2
    · dsimp only; omega
    · dsimp only; omega
    · dsimp only; omega
    · exact ne_cell N6 (.tail _ (.tail _ (.tail _ (.tail _ (.tail _ (.head _)))))) (.head _) ho2
    · dsimp only; omega
  clear F5 N5 N6
  -- left
  have N7 := nq7 N6'
  refine wpAny_execs_cons (law_S7 (s := { s with heap := h6, toks := tk6, gens := g5 }) KX T F6 N7 ho3 ho2' ?_ hys (by rw [List.length_map]; exact htl) (fun h7 tk7 t7 o3' F7 N7' ho3' => ?_) sc hsc _ rfl)
  · intro p hp
    simp only [List.mem_cons, List.not_mem_nil, or_false] at hp
    rcases hp with rfl | rfl | rfl | rfl | rfl | rfl
    · exact ne_cell N7 (.tail _ (.tail _ (.head _))) (.head _) ho3
    · exact ne_cell N7 (.tail _ (.tail _ (.tail _ (.head _)))) (.head _) ho3
    · dsimp only; omega
    · dsimp only; omega
    · exact ne_cell N7 (.tail _ (.tail _ (.tail _ (.tail _ (.tail _ (.tail _ (.head _))))))) (.head _) ho3
    · dsimp only; omega
  clear F6 N6' N7
  -- heights
  have N8 := nq8 N7'
  refine wpAny_execs_cons (law_S8 (s := { s with heap := h7, toks := tk7, gens := g5 }) KX T F7 N8 ho5 ho2' ?_ hys (by rw [List.length_map]; exact htl) (fun h8 tk8 Dh zs n3 o5' F8 N8' ho5' hzs => ?_) sc hsc _ rfl)
  · intro p hp
    simp only [List.mem_cons, List.not_mem_nil, or_false] at hp
    rcases hp with rfl | rfl | rfl | rfl | rfl | rfl
    · exact ne_cell N8 (.tail _ (.tail _ (.head _))) (.head _) ho5
    · dsimp only; omega
    · exact ne_cell N8 (.tail _ (.tail _ (.tail _ (.tail _ (.head _))))) (.head _) ho5
    · dsimp only; omega
    · exact ne_cell N8 (.tail _ (.tail _ (.tail _ (.tail _ (.tail _ (.tail _ (.head _))))))) (.head _) ho5
    · dsimp only; omega
  clear F7 N7' N8
  -- due
  have N9 := nq9 N8'
  clear N8'
  refine wpAny_execs_cons (law_S9 (s := { s with heap := h8, toks := tk8, gens := g5 }) KX T F8 N9 (fun h9 tk9 Du F9 N9' hfr9 => ?_) sc hsc _ rfl)
  clear F8 N9
  have hhl : (htsOf (tt.map stepOf)).length = tt.length := by simp [htsOf]
  refine wpAny_execs_cons (law_S10 (s := { s with heap := h9, toks := tk9, gens := g5 }) KX T F9 N9' hfr9 ?_ ho3' ho4 ho5' hzs (by rw [hhl]; exact htl) hwt hhl.symm (fun h10 tk10 ub ds nd o4' F10 N10 hds => ?_) sc hsc _ rfl)
  · intro p hp
    simp only [List.mem_cons, List.not_mem_nil, or_false] at hp
    rcases hp with rfl | rfl | rfl | rfl
    · exact ne_cell N9' (.tail _ (.tail _ (.tail _ (.tail _ (.head _))))) (.tail _ (.tail _ (.head _))) ho4
    · exact ne_cell N9' (.tail _ (.tail _ (.tail _ (.tail _ (.tail _ (.head _)))))) (.tail _ (.tail _ (.head _))) ho4
    · exact ne_cell N9' (.tail _ (.tail _ (.tail _ (.tail _ (.tail _ (.tail _ (.head _))))))) (.tail _ (.tail _ (.head _))) ho4
    · dsimp only; omega
  clear F9 N9'
  -- turns
  refine wpAny_execs_cons (law_S11 (s := { s with heap := h10, toks := tk10, gens := g5 }) KX T F10 (nq11 N10) ho1' hit (by rw [List.length_map]; exact htl) (fun h11 tk11 Dr lo rs nr F11 N11 hT11 hlo => ?_) sc hsc _ rfl)
  clear F10 N10
  refine wpAny_execs_cons (law_S12 (s := { s with heap := h11, toks := tk11, gens := g5 }) KX T F11 (nq12 N11) hT11 (by rw [List.length_map]; exact htl) hds (plain_behind hto) (fun h12 tk12 F12 N12 hT12 => ?_) sc hsc _ rfl)
  clear F11 N11
  refine wpAny_execs_cons (law_S13 (s := { s with heap := h12, toks := tk12, gens := g5 }) KX T F12 (nq13 N12) ho3' hT12 (by rw [List.length_map]; exact htl) (plain_front hto) (fun h13 tk13 F13 => ?_) sc hsc _ rfl)
  exact hQ _ _ _ _ F13 hb5
end
end Mine

end PartLaw8
-- part Top1
section PartTop1
open PySem PySem.W PySem.Calls PyProof.Rows
theorem PySem.Challenge.cw_pg0014_01_holds : PySem.Challenge.rw_pg0014_01.Holds := by
  refine Mine.hd ?_
  k_fill
  intro w s₀ s₁ mg mb G Y fa o pm cd doc dV kV ho hd hcd hD hmg hg args vals as hpre hlay hrd hwl hlo
  have KX := kIn_of Y
  refine Ground.open G ?_
  intro T B D TE TW
  try (refine guard_noD D (by decide +kernel) ?_; clear D)
  have efa : some (Value.ref fa) = some (Value.ref 61) := hmg.symm.trans (mg_of KX T.g (by k_is))
  obtain rfl : fa = 61 := by injection efa with e; injection e
  have eo := ho.symm.trans (KX 61 _ (by k_is))
  obtain rfl : cd = .ref 60 := by
    cases eo
    cases hd
    rfl
  clear hmg eo efa
  wrow_args hpre hlay hrd hwl hlo
  all_goals (
    first | refine callC_kw (enter_call ?_) | refine enter_call ?_ | refine callC_kw (enter_callW ?_) | refine enter_callW ?_ | w_how
    w_top on
    have K0 := below_caller (Top.heap T)
    w_call any ho hd hcd hD T F
    clear hd
    k_drop
    rename s₁.heap.IsList _ _ => hL
    rename IntsAre _ _ => hI
    rename ¬ _ < _ => hlen
    rename News _ _ _ _ => N
    refine wpAny_mono (Mine.law_body (m := fun _ => none) KX T (Mine.fr_eq F fun y => ?_) N (by assumption) (by assumption) (by assumption) (by assumption) (by assumption) hL hI (by omega) (fun x hx => ?_) (fun h' tk gens' m' F' hb' => ?_) _ rfl _ rfl) (fun _ _ x => x) (fun _ _ x => x.elim)
    · rfl
    · dsimp only at hx
      rw [hg] at hx
      simp at hx
    · exact ⟨.inl ⟨.bool true, .bool true, [], rfl, fun _ => rfl, ReadsW.bool true, by wrow_post, fun _ => ⟨List.nodup_nil, fun _ hm => (nomatch hm)⟩⟩, .of_keep F'.keep, rfl, hb'⟩)

end PartTop1
