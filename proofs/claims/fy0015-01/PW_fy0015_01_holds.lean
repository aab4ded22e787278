import PyProof.Rows.All
import Wide.All
import OpenK.AllK
import Wide.FinOn
import PySem.Challenge.RW_fy0015_01
set_option Elab.async false
set_option linter.all false
set_option maxRecDepth 100000
set_option maxHeartbeats 8000000

/- part MTop -/
section
open PySem PySem.W PyProof.Rows
set_option Elab.async false
set_option maxRecDepth 100000
set_option maxHeartbeats 8000000
namespace Mine
local macro_rules | `(tactic| o_head ($f $k $a $e)) => `(tactic| o_head (kmHook $k $a $e [201, 408, 468]))
open_top hd for PySem.Challenge.rw_fy0015_01
end Mine
end

section
open PySem PySem.W PySem.Calls PyProof.Rows
set_option Elab.async false
set_option linter.all false
set_option maxRecDepth 100000
set_option maxHeartbeats 8000000
namespace Mine

/- part MBase -/
section
def top (l : List (Addr × Obj)) : Nat := l.foldr (fun p n => max (p.1 + 1) n) 0
theorem top_cons (p : Addr × Obj) (r : List (Addr × Obj)) : top (p :: r) = max (p.1 + 1) (top r) := rfl
theorem top_nil : top [] = 0 := rfl
theorem top_app (l r : List (Addr × Obj)) : top (l ++ r) = max (top l) (top r) := by
  induction l with
  | nil => simp [top_nil]
  | cons p l ih => rw [List.cons_append, top_cons, top_cons, ih, Nat.max_assoc]
theorem top_le {d : Addr} {l : List (Addr × Obj)} (h : ∀ p ∈ l, p.1 < d) : top l ≤ d := by
  induction l with
  | nil => exact Nat.zero_le _
  | cons p r ih =>
    have h1 := h p List.mem_cons_self
    have h2 := ih fun q hq => h q (List.mem_cons_of_mem _ hq)
    rw [top_cons]
    exact Nat.max_le.mpr ⟨h1, h2⟩
theorem lt_of_top {d : Addr} {l : List (Addr × Obj)} (h : top l ≤ d) : ∀ p ∈ l, p.1 < d := by
  induction l with
  | nil => intro p hp; cases hp
  | cons q r ih =>
    rw [top_cons] at h
    have h' := Nat.max_le.mp h
    intro p hp
    rcases List.mem_cons.mp hp with rfl | hp
    · exact h'.1
    · exact ih h'.2 p hp
theorem ne_of_top {d : Addr} {l : List (Addr × Obj)} (h : top l ≤ d) : ∀ p ∈ l, p.1 ≠ d := fun p hp => Nat.ne_of_lt (lt_of_top h p hp)
theorem top_news {h₀ h : Heap} {L : Addr} {news : List (Addr × Obj)} (N : News h₀ L h news) : top news ≤ h.objs.size := top_le fun p hp => Heap.lt_size (N p hp).1
def TopLe (l : List (Addr × Obj)) (d : Nat) : Prop := top l ≤ d
theorem topLe_of {d : Nat} {l : List (Addr × Obj)} (h : ∀ p ∈ l, p.1 < d) : TopLe l d := top_le h
theorem TopLe.head {d : Nat} {p : Addr × Obj} {l : List (Addr × Obj)} (h : TopLe (p :: l) d) : @LT.lt Nat _ p.1 d := lt_of_top h p List.mem_cons_self
theorem TopLe.num {d : Nat} {l : List (Addr × Obj)} (h : TopLe l d) : top l ≤ d := h
theorem TopLe.ne {d : Nat} {l : List (Addr × Obj)} (h : TopLe l d) : ∀ p ∈ l, p.1 ≠ d := ne_of_top h
theorem TopLe.ne1 {d : Nat} {a : Addr × Obj} {l : List (Addr × Obj)} (h : TopLe (a :: l) d) : ∀ p ∈ l, p.1 ≠ d := fun p hp => ne_of_top h p (List.mem_cons_of_mem _ hp)
theorem TopLe.ne2 {d : Nat} {a b : Addr × Obj} {l : List (Addr × Obj)} (h : TopLe (a :: b :: l) d) : ∀ p ∈ l, p.1 ≠ d := fun p hp => ne_of_top h p (List.mem_cons_of_mem _ (List.mem_cons_of_mem _ hp))
theorem TopLe.lt {d : Nat} {l : List (Addr × Obj)} (h : TopLe l d) : ∀ p ∈ l, @LT.lt Nat _ p.1 d := lt_of_top h
theorem TopLe.trans {d d' : Nat} {l : List (Addr × Obj)} (h : TopLe l d) (k : d ≤ d') : TopLe l d' := Nat.le_trans h k
theorem TopLe.tail {d : Nat} {a : Addr × Obj} {l : List (Addr × Obj)} (h : TopLe (a :: l) d) : TopLe l d := topLe_of fun p hp => lt_of_top h p (List.mem_cons_of_mem _ hp)
theorem topLe_news {h₀ h : Heap} {L : Addr} {news : List (Addr × Obj)} (N : News h₀ L h news) : TopLe news h.objs.size := top_news N
theorem news_sub {h₀ h : Heap} {L : Addr} {l l' : List (Addr × Obj)} (N : News h₀ L h l) (hs : ∀ p ∈ l', p ∈ l) : News h₀ L h l' := fun p hp => N p (hs p hp)
theorem mem_right {p : Addr × Obj} {l r : List (Addr × Obj)} (h : p ∈ r) : List.Mem p (l ++ r) := List.mem_append_right l h
theorem mem_of {p : Addr × Obj} {l : List (Addr × Obj)} (h : p ∈ l) : List.Mem p l := h
theorem units_under_make {A : Around} {C : Addr} {rest : List Value} {kw : List (Str × Value)} : (A.under (.builtin "type.__call__" ⟨.ref C :: rest, kw⟩)).units = A.units + (Code.builtin "type.__call__" ⟨.ref C :: rest, kw⟩).cUnits := rfl
structure Cx (w : World) (A A₀ : Around) (base h₀ : Heap) (outer : List Env) (env : Env) (L : Addr) (mg mb : Str → Option Value) (p₀ : Program) (loose : List Str) : Prop where
  B : Below A₀ base outer h₀
  X : (hd.heap_39 w.params).In h₀
  T : TopRead p₀ loose mg mb h₀
  hh : A.handled = none
  hA : A.frames = some (env :: outer)
  hf : env.frame = some L
  hk : env.scope.kind = .function
section
variable {prog : Program} {w : World} {A A₀ : Around} {E : Value → Shared → Prop} {s : Shared} {K : Frag} {C L : Addr} {h₀ base : Heap} {m mg mb : Str → Option Value} {news : List (Addr × Obj)} {p : Program} {loose : List Str} {Q : Value → Shared → Prop}
theorem code_defR {env : Env} {outer : List Env} {R : Result → Shared → Prop} {name qual : Str} {params : Arguments} {body : List Stmt} {scope : Scope} {dV kV doc pm cdv ct oc : Value} {an od : Option Addr} {osl : Array (Option Value)} {f : Addr} {args : Args} {binds : List (Str × Value)}
    (B : Below A₀ base outer h₀) (F : Fr h₀ L s.heap m) (X₀ : K.In h₀) (N : News h₀ L s.heap news) (T : TopRead p loose mg mb h₀) (hA : A.frames = some (env :: outer)) (hf : env.frame = some L) (hke : env.scope.kind = .function)
    (ho : K.lookup f = some ⟨oc, od, .func (fnOf name qual params body scope dV kV doc pm an cdv ct), osl⟩) (hcd : codeIn K cdv qual = true) (hroom : A.depth < recursionLimit)
    (hbind : BindsTo s (fnOf name qual params body scope dV kV doc pm an cdv ct) args binds) (hloc : ∀ y ∈ binds, scope.names.lookup y.1 = some .local)
    (h : ∀ g L' h₁, Fr h₀ L g m → Fr g L' h₁ (fun y => binds.reverse.lookup y) → News g L' h₁ news → Below A base (env :: outer) g → K.In g → TopRead p loose mg mb g → (∀ p ∈ news, p.1 < L') →
      wpAny (model prog w) (A.deeper (envOf qual scope L' f cdv)) (execs body (envOf qual scope L' f cdv))
        (fun fl s' => LeaveK h₀ L m g R (match fl with | .ret v => v | _ => .none) s')
        (fun e s' => wpAny (model prog w) (A.deeper (envOf qual scope L' f cdv)) (leaving (envOf qual scope L' f cdv) e) (fun _ s'' => R (.error e) s'') (fun e' s'' => R (.error e') s'') s')
        { s with heap := h₁, toks := s.toks + binds.length })
    (hco : scope.isCoroutine = false) (hgen : scope.isGenerator = false) (hk : scope.kind = .function)
    (hcell : ∀ x ∈ scope.names, x.2 ≠ .cell) : codeAny (model prog w) A (.call (.ref f) args) R s :=
  callX_plain (cl := []) B F N T.nolimit hA hf hke ((X₀.keeps F.keep) _ _ ho) rfl (codeRec_of (X₀.keeps F.keep) hcd) hroom hbind hloc (fun g L' h₁ FG F' N' B' st lt => h g L' h₁ FG F' N' B' (X₀.keeps st) (T.keeps st) lt) hcell hco hgen hk
theorem get_propR {x p fget : Addr} {ox : Obj} {name : Str} {expr : Bool} {rest : List Value} {od : Obj} (F : Fr h₀ L s.heap m) (X₀ : K.In h₀) (I : InstAt s.heap x ox C (some od)) (hg : plainGet K C name = true) (hc : isClsIn K C = true)
    (ha : findIn K (.ref C) name = some (some (.ref p))) (hn : specialIn K (.ref p) "__get__" = some (some (.builtin "property.__get__"))) (ht : takesIn K (.ref p) = some true) (hp : recIn K p "property" = some (.ref fget :: rest))
    (h : codeAny (model prog w) A.in1 (.call (.ref fget) ⟨[.ref x], []⟩) (fun r s' => match r with | .ok (.ret v) => wpAny (model prog w) A (handedOut v) Q E s' | .ok _ => False | .error e => wpAny (model prog w) A (noteIf true (.ref x) (.str name s.toks) e) (fun _ s'' => E e s'') E s') { s with toks := s.toks + 1 }) :
    wpAny (model prog w) A (getAttr (.ref x) name expr) Q E s :=
  get_bind (X₀.keeps F.keep) I (plainGet_of hg).1 (findObj_data hc ha hn ht) (plainGet_of hg).2 (wpAny_call (prop_get (s := { s with toks := s.toks + 1 }) (X₀.keeps F.keep) hp h))
end
/-! Quick lines for the walk: names and stores with the kind of the name taken from the kernel's evaluation (the library's own check of it costs 60 to 200 ms a step). -/
section
variable {M : Model} {A : Around} {E : Value → Shared → Prop} {s : Shared} {cn : Str} {cs : Scope} {L a : Addr} {ccd : Value} {h₀ : Heap} {m mg mb : Str → Option Value} {x : Str} {pos : Pos} {v : Value} {K : Frag} {p : Program} {loose : List Str} {news : List (Addr × Obj)}
theorem qL {Q : Value → Shared → Prop} (hx : (envOf cn cs L a ccd).kindOf x = some .local) (F : Fr h₀ L s.heap m) (hv : m x = some v) (hk : cs.kind = .function) (hd : (x == ("__debug__" : Str)) = false) (h : Q v s) :
    wpAny M A (eval (.Name x pos) (envOf cn cs L a ccd)) Q E s := ld F hv h hk hx hd
theorem qG {Q : Value → Shared → Prop} (hx : (envOf cn cs L a ccd).kindOf x = some .globalImplicit) (F : Fr h₀ L s.heap m) (X : K.In h₀) (T : TopRead p loose mg mb h₀) (e : nsIn K mainGlobals x = some (some v)) (hk : cs.kind = .function) (hd : (x == ("__debug__" : Str)) = false) (h : Q v s) :
    wpAny M A (eval (.Name x pos) (envOf cn cs L a ccd)) Q E s := name_K F X T e h hk hx hd
theorem qLC {Q : Value → Shared → Prop} (hx : (envOfC cn cs L a ccd).kindOf x = some .local) (F : Fr h₀ L s.heap m) (hv : m x = some v) (hk : cs.kind = .function) (hd : (x == ("__debug__" : Str)) = false) (h : Q v s) :
    wpAny M A (eval (.Name x pos) (envOfC cn cs L a ccd)) Q E s := nameX_L F hv h hk hx hd
theorem qGC {Q : Value → Shared → Prop} (hx : (envOfC cn cs L a ccd).kindOf x = some .globalImplicit) (F : Fr h₀ L s.heap m) (X : K.In h₀) (T : TopRead p loose mg mb h₀) (e : nsIn K mainGlobals x = some (some v)) (hk : cs.kind = .function) (hd : (x == ("__debug__" : Str)) = false) (h : Q v s) :
    wpAny M A (eval (.Name x pos) (envOfC cn cs L a ccd)) Q E s := nameX_K F X T e h hk hx hd
theorem qS {Q : Unit → Shared → Prop} (hx : (envOf cn cs L a ccd).kindOf x = some .local) (F : Fr h₀ L s.heap m) (N : News h₀ L s.heap news) (hk : cs.kind = .function)
    (h : ∀ h', Fr h₀ L h' (fun y => if y = x then some v else m y) → News h₀ L h' news → Q () { s with heap := h', toks := s.toks + 1 }) :
    wpAny M A (storeName (envOf cn cs L a ccd) x v) Q E s := storeX_L F N h hk hx
theorem qSC {Q : Unit → Shared → Prop} (hx : (envOfC cn cs L a ccd).kindOf x = some .local) (F : Fr h₀ L s.heap m) (N : News h₀ L s.heap news) (hk : cs.kind = .function)
    (h : ∀ h', Fr h₀ L h' (fun y => if y = x then some v else m y) → News h₀ L h' news → Q () { s with heap := h', toks := s.toks + 1 }) :
    wpAny M A (storeName (envOfC cn cs L a ccd) x v) Q E s := storeX_L F N h hk hx
end
section
variable {M : Model} {A : Around} {E : Value → Shared → Prop} {s : Shared} {cn : Str} {cs : Scope} {L a c : Addr} {ccd : Value} {h₀ : Heap} {m mg mb : Str → Option Value} {x : Str} {pos : Pos} {v : Value} {K : Frag} {p : Program} {loose : List Str} {news : List (Addr × Obj)} {o : Obj}
theorem qB {Q : Value → Shared → Prop} (hx : (envOf cn cs L a ccd).kindOf x = some .globalImplicit) (F : Fr h₀ L s.heap m) (X : K.In h₀) (T : TopRead p loose mg mb h₀) (e : nsIn K mainGlobals x = some none) (hv : bootBuiltins x = some v) (hn : x ≠ "__name__") (hk : cs.kind = .function) (hd : (x == ("__debug__" : Str)) = false) (h : Q v s) :
    wpAny M A (eval (.Name x pos) (envOf cn cs L a ccd)) Q E s := name_B F X T e hv hn h hk hx hd
theorem qBC {Q : Value → Shared → Prop} (hx : (envOfC cn cs L a ccd).kindOf x = some .globalImplicit) (F : Fr h₀ L s.heap m) (X : K.In h₀) (T : TopRead p loose mg mb h₀) (e : nsIn K mainGlobals x = some none) (hv : bootBuiltins x = some v) (hn : x ≠ "__name__") (hk : cs.kind = .function) (hd : (x == ("__debug__" : Str)) = false) (h : Q v s) :
    wpAny M A (eval (.Name x pos) (envOfC cn cs L a ccd)) Q E s := nameX_B F X T e hv hn h hk hx hd
theorem qC {Q : Value → Shared → Prop} (hx : (envOfC cn cs L a ccd).kindOf x = some .cell) (N : News h₀ L s.heap news) (hc : (cellsFrom (L + 1) cs.names []).lookup x = some c) (hm : (c, o) ∈ news) (hd : o.data = .cell (some v)) (hk : cs.kind = .function) (hb : (x == ("__debug__" : Str)) = false) (h : Q v s) :
    wpAny M A (eval (.Name x pos) (envOfC cn cs L a ccd)) Q E s := nameX_C N hc hm hd h hk hx hb
end
end

/- part MTags -/
theorem fresh_MTags : True ∧ True := by
  w_top off
  first
    | (walk1; done)
    | exact ⟨True.intro, True.intro⟩
section
local macro_rules | `(tactic| k_lt $h) => `(tactic| (replace $h := topLe_of $h; first | (have hlt := TopLe.head $h; dsimp only at hlt) | (have hlt := TopLe.num $h; (try simp only [top_app, Nat.max_le] at hlt))))
local macro_rules | `(tactic| k_all) => `(tactic| first | (refine' TopLe.ne ?kt; (case kt => with_reducible assumption)) | (refine' TopLe.ne1 ?kt; (case kt => with_reducible assumption)) | (refine' TopLe.ne2 ?kt; (case kt => with_reducible assumption)) | with_reducible assumption | (refine' (TopLe.trans ?kt ?kl).ne; (case kt => with_reducible assumption); (case kl => omega)))
local macro_rules | `(tactic| k_mem) => `(tactic| first | with_reducible assumption | (refine mem_of ?_; with_reducible assumption) | (refine mem_right ?_; with_reducible assumption))
local macro_rules | `(tactic| k_handed) => `(tactic| with_reducible assumption)
local macro_rules | `(tactic| k_room) => `(tactic| ((try simp only [depth_under_make, depth_under_kw, depth_in1, depth_deeper, depth_caller]); (try dsimp only); omega))
local macro_rules | `(tactic| k_units) => `(tactic| ((try simp only [units_in1, units_deeper, Around.mark_units, units_caller, units_under_make]); (try dsimp only); omega))
local macro_rules | `(tactic| k_enter) => `(tactic| (refine' code_defR ?k1 ?k2 ?k3 ?k4 ?k5 ?kA ?kF ?kK ?k6 ?k7 ?k8 ?k9 ?kB ?_ ?c2 ?c3 ?c4 ?c5; (case kA => exact rfl); (case kF => exact rfl); (case kK => exact rfl); (case k1 => k_asm); (case k2 => k_asm); (case k3 => k_asm); (case k4 => k_asm); (case k5 => k_asm); (case k6 => k_is); (case k7 => k_is); (case k8 => k_room); (case k9 => first | exact BindsTo.of_eq rfl | exact binds_K (by k_in) rfl (by k_is) rfl rfl rfl | fail "k_enter: no rule for these arguments"); (case c5 => decide); (case kB => exact locs rfl); (case c2 => exact rfl); (case c3 => exact rfl); (case c4 => exact rfl); k_whole; intro g' L' h' FG' F' N' B' X' T' l1; (try k_lt l1); (try dsimp only); (try k_lift B'); (try k_fold)))
local macro_rules | `(tactic| walk_at "ite") => `(tactic| (first | with_reducible refine ite_tt ?_ | with_reducible refine ite_ff ?_ | (k_closed; first | (refine ite_pos (by decide +kernel) ?_) | (refine ite_neg (by decide +kernel) ?_))))
local macro_rules | `(tactic| walk_at "exec If") => `(tactic| (k_here; with_reducible refine wpAny_If ?_))
local macro_rules | `(tactic| walk_at "eval Name") => `(tactic| (k_here; first
  | (with_reducible refine' qL ?b ?F ?v ?k ?d ?_; k_dflt ((case F => k_asm); (case v => rfl); (case b => kernel_rfl); (case k => kernel_rfl); (case d => kernel_rfl)); k_whole)
  | (with_reducible refine' qG ?b ?F ?X ?T ?e ?k ?d ?_; k_dflt ((case F => k_asm); (case X => k_asm); (case T => k_asm); (case e => k_is); (case b => kernel_rfl); (case k => kernel_rfl); (case d => kernel_rfl)); k_whole)
  | (with_reducible refine' qB ?b ?F ?X ?T ?e ?v ?n ?k ?d ?_; k_dflt ((case F => k_asm); (case X => k_asm); (case T => k_asm); (case e => k_is); (case v => boot_fast); (case n => decide); (case b => kernel_rfl); (case k => kernel_rfl); (case d => kernel_rfl)); k_whole)
  | (with_reducible refine' qLC ?b ?F ?v ?k ?d ?_; k_dflt ((case F => k_asm); (case v => rfl); (case b => kernel_rfl); (case k => kernel_rfl); (case d => kernel_rfl)); k_whole)
  | (with_reducible refine' qC ?b ?N ?c ?m ?d ?k ?e ?_; k_dflt ((case N => k_asm); (case c => rfl); (case m => k_mem); (case d => k_asm); (case b => kernel_rfl); (case k => kernel_rfl); (case e => kernel_rfl)); k_whole)
  | (with_reducible refine' qGC ?b ?F ?X ?T ?e ?k ?d ?_; k_dflt ((case F => k_asm); (case X => k_asm); (case T => k_asm); (case e => k_is); (case b => kernel_rfl); (case k => kernel_rfl); (case d => kernel_rfl)); k_whole)
  | (with_reducible refine' qBC ?b ?F ?X ?T ?e ?v ?n ?k ?d ?_; k_dflt ((case F => k_asm); (case X => k_asm); (case T => k_asm); (case e => k_is); (case v => boot_fast); (case n => decide); (case b => kernel_rfl); (case k => kernel_rfl); (case d => kernel_rfl)); k_whole)))
local macro_rules | `(tactic| walk_at "storeName") => `(tactic| (k_here; (with_reducible refine' qS ?b ?F ?N ?k ?_; k_dflt ((case F => k_asm); (case N => k_asm); (case b => kernel_rfl); (case k => kernel_rfl)); k_whole; intro h' F' N'; (try k_sweep))))
section
abbrev tagObj (dx : Addr) (c : Int) (tk : Tok) (v : Value) : Obj := ⟨.ref 113, some dx, .plain, #[some (.int c tk), some v]⟩
theorem dxftag_spec {w : World} {A A₀ : Around} {s : Shared} {base h₀ : Heap} {outer : List Env} {env : Env} {L : Addr} {m mg mb : Str → Option Value} {p₀ : Program} {loose : List Str} {news : List (Addr × Obj)} {E : Value → Shared → Prop} {Q : Value → Shared → Prop} {c : Int} {tk : Tok} {v : Value} (cx : Cx w A A₀ base h₀ outer env L mg mb p₀ loose) (F : Fr h₀ L s.heap m) (N : News h₀ L s.heap news) (hr : A.depth + 20 < recursionLimit) (hu : A.units + 100 < cLine)
    (h : ∀ (x dx : Nat) h' tk', Fr h₀ L h' m → News h₀ L h' ((x, tagObj dx c tk v) :: (dx, dictOf [] 0) :: news) → TopLe news dx → dx < x → Q (.ref x) { s with heap := h', toks := tk' }) :
    wpAny (model Challenge.rw_fy0015_01.row.toRowW.1 w) A (call (.ref 131) [.int c tk, v]) Q E s := by
  obtain ⟨B, X₀, T, hh, hA, hf, hk⟩ := cx
  revert X₀
  k_fill
  intro X₀
  obtain ⟨_, _, _, _, _⟩ := A
  obtain ⟨⟨_, _, _, _, _⟩, _, _, _, _, _, _, _, _⟩ := env
  dsimp only at hA hf hk hh hr hu
  subst hA hf hk hh
  refine wpAny_call ?_
  k_enter
  k_steps
  exact h _ _ _ _ (by assumption) (by assumption) (by assumption) (by omega)
local macro_rules | `(tactic| walk_at "getAttr ref") => `(tactic| (k_here; k_dflt (refine' get_propR ?k1 ?k2 ?k3 ?k4 ?k5 ?k6 ?k7 ?k8 ?k9 ?_; (case k1 => k_asm); (case k2 => k_asm); (case k3 => k_inst); (case k4 => k_is); (case k5 => k_is); (case k6 => k_is); (case k7 => k_is); (case k8 => k_is); (case k9 => k_is); k_whole; k_enter)))
local macro_rules | `(tactic| walk_at "handedOut") => `(tactic| (refine handed_on (by with_reducible assumption) ?_))
theorem code_spec {w : World} {A A₀ : Around} {s : Shared} {base h₀ : Heap} {outer : List Env} {env : Env} {L : Addr} {m mg mb : Str → Option Value} {p₀ : Program} {loose : List Str} {news : List (Addr × Obj)} {E : Value → Shared → Prop} {Q : Value → Shared → Prop} {c : Int} {tk : Tok} {x dx : Addr} {v : Value} (cx : Cx w A A₀ base h₀ outer env L mg mb p₀ loose) (F : Fr h₀ L s.heap m) (N : News h₀ L s.heap news) (hr : A.depth + 20 < recursionLimit) (hu : A.units + 100 < cLine)
    (h1 : (x, tagObj dx c tk v) ∈ news) (h2 : (dx, dictOf [] 0) ∈ news)
    (h : ∀ h' tk', Fr h₀ L h' m → News h₀ L h' news → Q (.int c tk) { s with heap := h', toks := tk' }) :
    wpAny (model Challenge.rw_fy0015_01.row.toRowW.1 w) A (getAttr (.ref x) "code") Q E s := by
  obtain ⟨B, X₀, T, hh, hA, hf, hk⟩ := cx
  revert X₀
  k_fill
  intro X₀
  obtain ⟨_, _, _, _, _⟩ := A
  obtain ⟨⟨_, _, _, _, _⟩, _, _, _, _, _, _, _, _⟩ := env
  dsimp only at hA hf hk hh hr hu
  subst hA hf hk hh
  k_steps
  exact h _ _ (by assumption) (by assumption)
theorem value_spec {w : World} {A A₀ : Around} {s : Shared} {base h₀ : Heap} {outer : List Env} {env : Env} {L : Addr} {m mg mb : Str → Option Value} {p₀ : Program} {loose : List Str} {news : List (Addr × Obj)} {E : Value → Shared → Prop} {Q : Value → Shared → Prop} {c : Int} {tk : Tok} {x dx : Addr} {v : Value} (hv : handedIn v = true) (cx : Cx w A A₀ base h₀ outer env L mg mb p₀ loose) (F : Fr h₀ L s.heap m) (N : News h₀ L s.heap news) (hr : A.depth + 20 < recursionLimit) (hu : A.units + 100 < cLine)
    (h1 : (x, tagObj dx c tk v) ∈ news) (h2 : (dx, dictOf [] 0) ∈ news)
    (h : ∀ h' tk', Fr h₀ L h' m → News h₀ L h' news → Q v { s with heap := h', toks := tk' }) :
    wpAny (model Challenge.rw_fy0015_01.row.toRowW.1 w) A (getAttr (.ref x) "value") Q E s := by
  obtain ⟨B, X₀, T, hh, hA, hf, hk⟩ := cx
  revert X₀
  k_fill
  intro X₀
  obtain ⟨_, _, _, _, _⟩ := A
  obtain ⟨⟨_, _, _, _, _⟩, _, _, _, _, _, _, _, _⟩ := env
  dsimp only at hA hf hk hh hr hu
  subst hA hf hk hh
  k_steps
  exact h _ _ (by assumption) (by assumption)
end

/- part MLoop -/
section
open PySem.Spec
theorem ofString_inj {a b : String} (h : Str.ofString a = Str.ofString b) : a = b := by
  rw [Str.ofString_eq_toList, Str.ofString_eq_toList] at h
  have h2 : (a.toList.map Char.toNat) = (b.toList.map Char.toNat) := by
    have := congrArg (fun x : Str => x.cps.toList) h
    simpa using this
  have hc : ∀ c d : Char, c.toNat = d.toNat → c = d := fun c d e => Char.ext (UInt32.toNat_inj.mp e)
  have h3 : a.toList = b.toList := by
    generalize a.toList = l at h2
    generalize b.toList = k at h2
    induction l generalizing k with
    | nil => cases k with | nil => rfl | cons => simp at h2
    | cons x l ih =>
      cases k with
      | nil => simp at h2
      | cons y k =>
        simp only [List.map_cons, List.cons.injEq] at h2
        rw [hc _ _ h2.1, ih _ h2.2]
  exact String.toList_inj.mp h3
theorem ofString_eq (a b : String) : (Str.ofString a = Str.ofString b) = (a = b) := propext ⟨ofString_inj, fun h => by rw [h]⟩
theorem some_val {v : Value} : some v = some v := rfl
def upds (l : List (Str × Value)) (u : Str → Option Value) : Str → Option Value := match l with
  | [] => u
  | p :: r => fun y => if y = p.1 then some p.2 else upds r u y
theorem upds_self {m : Str → Option Value} : ∀ {l : List (Str × Value)}, (∀ p ∈ l, m p.1 = some p.2) → m = upds l m
  | [], _ => rfl
  | p :: r, h => by
    have ih := upds_self (m := m) (l := r) fun q hq => h q (List.mem_cons_of_mem _ hq)
    funext y
    show m y = if y = p.1 then some p.2 else upds r m y
    by_cases hy : y = p.1
    · rw [if_pos hy, hy]; exact h p List.mem_cons_self
    · rw [if_neg hy, ← ih]
def TurnEnd (h₀ : Heap) (L I : Addr) (oI : Obj) (Jn : (Str → Option Value) → List (Addr × Obj) → Prop) (Q : Flow → Shared → Prop) (s₁ : Shared) (f : Flow) (s₂ : Shared) : Prop := match f with
  | .ret v => Q (.ret v) s₂
  | .brk => Q .next s₂
  | _ => ∃ h' tk' m' nx', s₂ = { s₁ with heap := h', toks := tk' } ∧ Fr h₀ L h' m' ∧ News h₀ L h' ((I, oI) :: nx') ∧ (∀ p ∈ nx', p.1 ≠ I) ∧ Jn m' nx'
theorem turn_next {h₀ : Heap} {L I : Addr} {oI : Obj} {Jn : (Str → Option Value) → List (Addr × Obj) → Prop} {Q : Flow → Shared → Prop} {s₁ : Shared} {h' : Heap} {tk' : Nat} {m' : Str → Option Value} {l nx : List (Addr × Obj)}
    (F : Fr h₀ L h' m') (N : News h₀ L h' l) (ho : ∀ p ∈ nx, p.1 ≠ I) (hl : ∃ new, l = new ++ (I, oI) :: nx ∧ (∀ p ∈ new, @LT.lt Nat _ I p.1) ∧ Jn m' (new ++ nx)) : TurnEnd h₀ L I oI Jn Q s₁ .next { s₁ with heap := h', toks := tk' } := by
  obtain ⟨new, rfl, hn, hj⟩ := hl
  refine ⟨h', tk', m', new ++ nx, rfl, F, fun p hp => N p ?_, fun p hp => ?_, hj⟩
  · rcases List.mem_cons.mp hp with rfl | hp
    · exact List.mem_append_right _ List.mem_cons_self
    · exact (List.mem_append.mp hp).elim (fun q => List.mem_append_left _ q) fun q => List.mem_append_right _ (List.mem_cons_of_mem _ q)
  · exact (List.mem_append.mp hp).elim (fun q => Nat.ne_of_gt (hn p q)) (ho p)
theorem split_nil {X : List (Addr × Obj)} {P : List (Addr × Obj) → Prop} (h : P []) : ∃ new, X = new ++ X ∧ P new := ⟨[], rfl, h⟩
theorem split_cons {x : Addr × Obj} {l X : List (Addr × Obj)} {P : List (Addr × Obj) → Prop} (h : ∃ new, l = new ++ X ∧ P (x :: new)) : ∃ new, x :: l = new ++ X ∧ P new := by
  obtain ⟨new, rfl, h⟩ := h
  exact ⟨x :: new, rfl, h⟩
theorem turn_cont {h₀ : Heap} {L I : Addr} {oI : Obj} {Jn : (Str → Option Value) → List (Addr × Obj) → Prop} {Q : Flow → Shared → Prop} {s₁ s₂ : Shared} (h : TurnEnd h₀ L I oI Jn Q s₁ .next s₂) : TurnEnd h₀ L I oI Jn Q s₁ .cont s₂ := h
theorem int_eq {o : Option Value} {a b : Int} {t : Tok} (h : o = some (.int a t)) (e : a = b) : o = some (.int b t) := by rw [h, e]
section
variable {prog : Program} {w : World} {A : Around} {E : Value → Shared → Prop} {s : Shared} {env : Env} {h₀ : Heap}
def ForAt (prog : Program) (w : World) (A : Around) (env : Env) (x : Str) (px : Pos) (body : List Stmt) (Q : Flow → Shared → Prop) (E : Value → Shared → Prop) (xv : Value) (s₁ : Shared) : Prop :=
  wpAny (model prog w) A (pyIter xv) (fun it s₂ => codeAny (model prog w) A (.forLoop (.Name x px) it body [] env) (fun r s' => match r with | .ok f => Q f s' | .error e => cameBackBy (model prog w) A env E e s') s₂) E s₁
theorem for_at {x : Str} {px pos : Pos} {iter : Expr} {body : List Stmt} {Q : Flow → Shared → Prop} (h : wpAny (model prog w) A (eval iter env) (fun xv s₁ => ForAt prog w A env x px body Q E xv s₁) E s)
    (hs : ∀ x, foldedSetIterable iter env x = pure x := by intro _; rfl) : wpAny (model prog w) A (exec (.For (.Name x px) iter body [] pos) env) Q E s := wpAny_For h hs
theorem for_walk {x : Str} {px : Pos} {body : List Stmt} {I : Addr} {fp : List Addr} {n : Nat} {P : Nat → Value → Prop} {St : Nat → Heap → Prop} {Q : Flow → Shared → Prop} {m₀ : Str → Option Value} {nx₀ : List (Addr × Obj)} {oI : Obj}
    (W : Walks prog w A I fp [I] n P St) (hx : env.kindOf x = some .local) (hp : (env.scope.kind == .class || (env.scope.kind == .module && env.locals != env.globals)) = false)
    (ent : Nat → Obj → Prop) (Src : Heap → Prop) (up : ∀ i h o, h.get? I = some o → ent i o → Src h → St i h) (dn : ∀ i h, St i h → ∃ o, h.get? I = some o ∧ ent i o)
    (J : Nat → (Str → Option Value) → List (Addr × Obj) → Prop) (src : ∀ i m nx h, J i m nx → Fr h₀ env.locals h m → News h₀ env.locals h nx → Src h)
    (F : Fr h₀ env.locals s.heap m₀) (N : News h₀ env.locals s.heap ((I, oI) :: nx₀)) (h0e : ent 0 oI) (hoff : ∀ p ∈ nx₀, p.1 ≠ I) (hJ : J 0 m₀ nx₀) (hE : PassesOwn (model prog w) A env E)
    (turn : ∀ i v m nx oI h tk, i < n → P i v → J i m nx → (∀ p ∈ nx, p.1 ≠ I) → ent (i + 1) oI → Fr h₀ env.locals h (fun y => if y = x then some v else m y) → News h₀ env.locals h ((I, oI) :: nx) →
      wpAny (model prog w) A (execs body env) (TurnEnd h₀ env.locals I oI (J (i + 1)) Q { s with heap := h, toks := tk }) E { s with heap := h, toks := tk })
    (done : ∀ m nx h tk, J n m nx → Fr h₀ env.locals h m → News h₀ env.locals h nx → Q .next { s with heap := h, toks := tk }) :
    codeAny (model prog w) A (.forLoop (.Name x px) (.ref I) body [] env) (fun r s' => match r with | .ok f => Q f s' | .error e => cameBackBy (model prog w) A env E e s') s := by
  refine codeAny_forLoop
    (fun k s' => ∃ h tk m nx oI i, s' = { s with heap := h, toks := tk } ∧ i ≤ n ∧ k = n + 1 - i ∧ Fr h₀ env.locals h m ∧ News h₀ env.locals h ((I, oI) :: nx) ∧ ent i oI ∧ (∀ p ∈ nx, p.1 ≠ I) ∧ J i m nx) ?_ (n + 1)
    ⟨s.heap, s.toks, m₀, nx₀, oI, 0, rfl, Nat.zero_le _, rfl, F, N, h0e, hoff, hJ⟩
  rintro k s' ⟨h, tk, m, nx, oI, i, rfl, hi, rfl, F, N, he, hoff, hJ⟩
  have hI := N (I, oI) List.mem_cons_self
  have Nt : News h₀ env.locals h nx := fun p hp => N p (List.mem_cons_of_mem _ hp)
  have st : St i h := up i h oI hI.1 he (src i m nx h hJ F Nt)
  have nxt : ∀ h₁ : Heap, (∀ b o, b ∉ [I] → h.get? b = some o → h₁.get? b = some o) → Fr h₀ env.locals h₁ m ∧ News h₀ env.locals h₁ nx := fun h₁ hk =>
    ⟨⟨F.ns.at' fun o e => hk _ o (fun q => hI.2.1 (List.mem_singleton.mp q).symm) e, fun b o e => hk b o (fun q => by rw [List.mem_singleton.mp q, hI.2.2] at e; cases e) (F.keep b o e), F.above⟩,
     fun p hp => ⟨hk _ _ (fun q => hoff p hp (List.mem_singleton.mp q)) (Nt p hp).1, (Nt p hp).2⟩⟩
  by_cases hlt : i < n
  · refine W.item i _ _ _ hlt st fun v h₁ tk₁ hP st₁ hk => ?_
    obtain ⟨F₁, N₁⟩ := nxt h₁ hk
    obtain ⟨o₁, ho₁, he₁⟩ := dn _ _ st₁
    have N₁' : News h₀ env.locals h₁ ((I, o₁) :: nx) := fun p hp => by
      rcases List.mem_cons.mp hp with rfl | hp
      · exact ⟨ho₁, hI.2⟩
      · exact N₁ p hp
    refine wpAny_assign_Name (wpAny_storeName_local hx F₁.ns (fun h₂ hn₂ hs₂ => ?_) hp)
    refine wpAny_passesOwn hE (wpAny_mono (turn i v m nx o₁ h₂ _ hlt hP hJ hoff he₁ (F₁.set hn₂ hs₂) (N₁'.set hs₂)) (fun f s₃ z => ?_) fun _ _ e => e)
    have fin : (∃ h' tk' m' nx', s₃ = { ({ s with heap := h₂, toks := tk₁ + 1 } : Shared) with heap := h', toks := tk' } ∧ Fr h₀ env.locals h' m' ∧ News h₀ env.locals h' ((I, o₁) :: nx') ∧ (∀ p ∈ nx', p.1 ≠ I) ∧ J (i + 1) m' nx') →
        ∃ k', k' < n + 1 - i ∧ ∃ h tk m nx oI i, s₃ = { s with heap := h, toks := tk } ∧ i ≤ n ∧ k' = n + 1 - i ∧ Fr h₀ env.locals h m ∧ News h₀ env.locals h ((I, oI) :: nx) ∧ ent i oI ∧ (∀ p ∈ nx, p.1 ≠ I) ∧ J i m nx := by
      rintro ⟨h', tk', m', nx', rfl, F', N', ho', hJ'⟩
      exact ⟨n + 1 - (i + 1), by omega, h', tk', m', nx', o₁, i + 1, rfl, hlt, rfl, F', N', he₁, ho', hJ'⟩
    cases f with
    | ret v => exact z
    | brk => exact z
    | cont => exact fin z
    | next => exact fin z
  · have hin : i = n := by omega
    subst hin
    refine W.done _ _ _ st fun h₁ tk₁ hk => wpAny_execs_nil ?_
    obtain ⟨F₁, N₁⟩ := nxt h₁ hk
    exact done m nx h₁ tk₁ hJ F₁ N₁
theorem for_list {x : Str} {px : Pos} {body : List Stmt} {l : Addr} {vs : List Value} {Q : Flow → Shared → Prop} {m₀ : Str → Option Value} {nx₀ : List (Addr × Obj)}
    (hh : A.handled = none) (hx : env.kindOf x = some .local) (hp : (env.scope.kind == .class || (env.scope.kind == .module && env.locals != env.globals)) = false)
    (J : Nat → (Str → Option Value) → List (Addr × Obj) → Prop) (src : ∀ i m nx h, J i m nx → Fr h₀ env.locals h m → News h₀ env.locals h nx → h.IsList l vs.toArray)
    (F : Fr h₀ env.locals s.heap m₀) (N : News h₀ env.locals s.heap nx₀) (hJ : J 0 m₀ nx₀) (hE : PassesOwn (model prog w) A env E)
    (turn : ∀ i v m nx I oI h tk, vs[i]? = some v → J i m nx → s.heap.objs.size ≤ I → (∀ p ∈ nx, p.1 ≠ I) → Fr h₀ env.locals h (fun y => if y = x then some v else m y) → News h₀ env.locals h ((I, oI) :: nx) →
      wpAny (model prog w) A (execs body env) (TurnEnd h₀ env.locals I oI (J (i + 1)) Q { s with heap := h, toks := tk }) E { s with heap := h, toks := tk })
    (done : ∀ m nx h tk, J vs.length m nx → Fr h₀ env.locals h m → News h₀ env.locals h nx → Q .next { s with heap := h, toks := tk }) :
    ForAt prog w A env x px body Q E (.ref l) s := by
  have hl := src _ _ _ _ hJ F N
  refine wpAny_pyIter_list hl ?_
  obtain ⟨ol, hol, _⟩ := id hl
  have hne : l ≠ s.heap.objs.size := Nat.ne_of_lt (Heap.lt_size hol)
  have W := Walks.list (prog := prog) (w := w) hh s.heap.objs.size l hne vs.toArray
  rw [List.size_toArray] at W
  refine for_walk (s := { s with heap := s.heap.push _ }) W hx hp (fun i o => o.cls = .type "list_iterator" ∧ o.data = .fields #[.ref l, .int i 0]) (fun h => h.IsList l vs.toArray)
    (fun i h o e q z => ⟨⟨o, e, q⟩, z⟩) (fun i h z => let ⟨⟨o, e, q⟩, _⟩ := z; ⟨o, e, q⟩) J src (F.push _) (N.push F _) ⟨rfl, rfl⟩ (fun p hp => Nat.ne_of_lt (Heap.lt_size (N p hp).1)) hJ hE ?_ done
  intro i v m nx oI h tk hi hP hj ho _ F₁ N₁
  exact turn i v m nx _ oI h tk (by simpa using hP) hj (Nat.le_refl _) ho F₁ N₁
theorem for_range {x : Str} {px : Pos} {body : List Stmt} {r : Addr} {a b : Int} {t u v : Tok} {n : Nat} {Q : Flow → Shared → Prop} {m₀ : Str → Option Value} {nx₀ : List (Addr × Obj)}
    (hh : A.handled = none) (hx : env.kindOf x = some .local) (hp : (env.scope.kind == .class || (env.scope.kind == .module && env.locals != env.globals)) = false)
    (hr : IsRange s.heap r a b 1 t u v) (hsmall : Builtin.Range.small a b 1 = true) (hsz : Builtin.Range.rangeSize a b 1 = (n : Int))
    (J : Nat → (Str → Option Value) → List (Addr × Obj) → Prop)
    (F : Fr h₀ env.locals s.heap m₀) (N : News h₀ env.locals s.heap nx₀) (hJ : J 0 m₀ nx₀) (hE : PassesOwn (model prog w) A env E)
    (turn : ∀ i k m nx I oI h tk, i < n → J i m nx → s.heap.objs.size ≤ I → (∀ p ∈ nx, p.1 ≠ I) → Fr h₀ env.locals h (fun y => if y = x then some (.int (a + (i : Int)) k) else m y) → News h₀ env.locals h ((I, oI) :: nx) →
      wpAny (model prog w) A (execs body env) (TurnEnd h₀ env.locals I oI (J (i + 1)) Q { s with heap := h, toks := tk }) E { s with heap := h, toks := tk })
    (done : ∀ m nx h tk, J n m nx → Fr h₀ env.locals h m → News h₀ env.locals h nx → Q .next { s with heap := h, toks := tk }) :
    ForAt prog w A env x px body Q E (.ref r) s := by
  refine wpAny_pyIter_range hr hsmall ?_
  have W : Walks prog w A s.heap.objs.size [s.heap.objs.size] [s.heap.objs.size] n _ _ := Walks.range hh s.heap.objs.size a 1 n
  refine for_walk (s := { s with heap := s.heap.push _ }) W hx hp (fun i o => o = { cls := .type "range_iterator", data := .fields #[rawInt (a + (i : Nat) * 1), rawInt ((n : Int) - (i : Nat)), rawInt 1] }) (fun _ => True)
    (fun i h o e q _ => by subst q; exact e) (fun i h z => ⟨_, z, rfl⟩) J (fun _ _ _ _ _ _ _ => trivial) (F.push _) (N.push F _) (by rw [hsz]; simp) (fun p hp => Nat.ne_of_lt (Heap.lt_size (N p hp).1)) hJ hE ?_ done
  rintro i v m nx oI h tk hi ⟨k, rfl⟩ hj ho _ F₁ N₁
  rw [Int.mul_one] at F₁
  exact turn i k m nx _ oI h tk hi hj (Nat.le_refl _) ho F₁ N₁
end
end

/- part MData -/
section
inductive Cell where
  | s (x : Str)
  | i (n : Int)
  deriving DecidableEq
abbrev Row := Int × Cell
def Cell.dat : Cell → Dat
  | .s x => .str x
  | .i n => .int n
def rowDat (r : Row) : Dat := .tuple [.int r.1, r.2.dat]
theorem Cell.dat_inj {a b : Cell} (h : a.dat = b.dat) : a = b := by
  cases a <;> cases b <;> simp_all [Cell.dat]
theorem rowDat_inj {a b : Row} (h : rowDat a = rowDat b) : a = b := by
  obtain ⟨a1, a2⟩ := a
  obtain ⟨b1, b2⟩ := b
  simp only [rowDat, Dat.tuple.injEq, List.cons.injEq, Dat.int.injEq, and_true] at h
  exact Prod.ext h.1 (Cell.dat_inj h.2)
def nm (k : Nat) : Str := match k with
  | 0 => Str.ofString "LA"
  | 1 => Str.ofString "LB"
  | 2 => Str.ofString "LC"
  | _ => Str.ofString "LD"
def opn : Row := (1002, .s (Str.ofString "{"))
def clo : Row := (1002, .s (Str.ofString "}"))
structure Dr where
  rows : List Row
  many : Nat
  level : Nat
def drStep (d : Dr) (n : Int) : Dr :=
  if n.fmod 6 < 2 ∧ d.many < 4 then ⟨d.rows ++ [(1000, .s (nm d.many)), opn], d.many + 1, d.level + 1⟩
  else if n.fmod 6 = 5 ∨ ((n.fmod 6 = 2 ∨ n.fmod 6 = 3) ∧ 0 < d.level) then ⟨d.rows ++ [clo], d.many, d.level - 1⟩
  else if ((n.fdiv 6).fmod 2) = 1 then ⟨d.rows ++ [(1000, .s (nm (((n.fdiv 6).fdiv 2).fmod 4).toNat)), (1071, .i ((n.fdiv 6).fmod 1000))], d.many, d.level⟩
  else ⟨d.rows ++ [(1071, .i ((n.fdiv 6).fmod 1000))], d.many, d.level⟩
def drInit : Dr := ⟨[(1001, .s (Str.ofString "APP")), (1000, .s (Str.ofString "LA")), opn], 1, 1⟩
def drFold (ns : List Int) : Dr := (ns.take 10).foldl drStep drInit
def drawn (ns : List Int) : List Row := if ns.length % 2 = 0 then (drFold ns).rows ++ List.replicate (drFold ns).level clo else (drFold ns).rows
theorem drStep_open {d : Dr} {n : Int} (h1 : n.fmod 6 < 2) (h2 : (d.many : Int) < 4) : drStep d n = ⟨d.rows ++ [(1000, .s (nm d.many)), opn], d.many + 1, d.level + 1⟩ := by
  unfold drStep; rw [if_pos ⟨h1, by omega⟩]
theorem drStep_close {d : Dr} {n : Int} (h0 : ¬ n.fmod 6 < 2 ∨ ¬ (d.many : Int) < 4) (h : n.fmod 6 = 5 ∨ ((n.fmod 6 = 2 ∨ n.fmod 6 = 3) ∧ 0 < (d.level : Int))) : drStep d n = ⟨d.rows ++ [clo], d.many, d.level - 1⟩ := by
  unfold drStep; rw [if_neg (by omega), if_pos (by omega)]
theorem drStep_named {d : Dr} {n : Int} (h0 : ¬ n.fmod 6 < 2 ∨ ¬ (d.many : Int) < 4) (h : ¬ (n.fmod 6 = 5 ∨ ((n.fmod 6 = 2 ∨ n.fmod 6 = 3) ∧ 0 < (d.level : Int)))) (h1 : (n.fdiv 6).fmod 2 = 1) :
    drStep d n = ⟨d.rows ++ [(1000, .s (nm (((n.fdiv 6).fdiv 2).fmod 4).toNat)), (1071, .i ((n.fdiv 6).fmod 1000))], d.many, d.level⟩ := by
  unfold drStep; rw [if_neg (by omega), if_neg (by omega), if_pos h1]
theorem drStep_plain {d : Dr} {n : Int} (h0 : ¬ n.fmod 6 < 2 ∨ ¬ (d.many : Int) < 4) (h : ¬ (n.fmod 6 = 5 ∨ ((n.fmod 6 = 2 ∨ n.fmod 6 = 3) ∧ 0 < (d.level : Int)))) (h1 : (n.fdiv 6).fmod 2 ≠ 1) :
    drStep d n = ⟨d.rows ++ [(1071, .i ((n.fdiv 6).fmod 1000))], d.many, d.level⟩ := by
  unfold drStep; rw [if_neg (by omega), if_neg (by omega), if_neg h1]
theorem any23 (k : Int) : ([2, 3].any fun x => x == k) = true ↔ (k = 2 ∨ k = 3) := by
  simp only [List.any_cons, List.any_nil, Bool.or_false, Bool.or_eq_true, beq_iff_eq]; omega
theorem dr_h0a {d : Dr} {n : Int} (h : ¬ n.fmod 6 < 2) : ¬ n.fmod 6 < 2 ∨ ¬ (d.many : Int) < 4 := .inl h
theorem dr_h0b {d : Dr} {n : Int} (h : ¬ (d.many : Int) < 4) : ¬ n.fmod 6 < 2 ∨ ¬ (d.many : Int) < 4 := .inr h
theorem dr_c5 {d : Dr} {n : Int} (h : n.fmod 6 = 5) : n.fmod 6 = 5 ∨ ((n.fmod 6 = 2 ∨ n.fmod 6 = 3) ∧ 0 < (d.level : Int)) := .inl h
theorem dr_c2 {d : Dr} {n : Int} (h : ([2, 3].any fun x => x == n.fmod 6) = true) (h2 : 0 < (d.level : Int)) : n.fmod 6 = 5 ∨ ((n.fmod 6 = 2 ∨ n.fmod 6 = 3) ∧ 0 < (d.level : Int)) := .inr ⟨(any23 _).mp h, h2⟩
theorem dr_na {d : Dr} {n : Int} (h5 : n.fmod 6 ≠ 5) (h : ([2, 3].any fun x => x == n.fmod 6) = false) : ¬ (n.fmod 6 = 5 ∨ ((n.fmod 6 = 2 ∨ n.fmod 6 = 3) ∧ 0 < (d.level : Int))) := by
  have q : ¬ (n.fmod 6 = 2 ∨ n.fmod 6 = 3) := by rw [← any23, h]; exact Bool.false_ne_true
  omega
theorem dr_nb {d : Dr} {n : Int} (h5 : n.fmod 6 ≠ 5) (h : ¬ 0 < (d.level : Int)) : ¬ (n.fmod 6 = 5 ∨ ((n.fmod 6 = 2 ∨ n.fmod 6 = 3) ∧ 0 < (d.level : Int))) := by omega
theorem drStep_bounds {d : Dr} {n : Int} {k : Nat} (h : 1 ≤ d.many ∧ d.many ≤ 4 ∧ d.rows.length ≤ 3 + 2 * k ∧ d.level ≤ 1 + k) :
    1 ≤ (drStep d n).many ∧ (drStep d n).many ≤ 4 ∧ (drStep d n).rows.length ≤ 3 + 2 * (k + 1) ∧ (drStep d n).level ≤ 1 + (k + 1) := by
  unfold drStep
  split
  · simp only [List.length_append, List.length_cons, List.length_nil]; omega
  · split
    · simp only [List.length_append, List.length_cons, List.length_nil]; omega
    · split <;> simp only [List.length_append, List.length_cons, List.length_nil] <;> omega
theorem foldl_bounds (ns : List Int) : ∀ (d : Dr) (k : Nat), (1 ≤ d.many ∧ d.many ≤ 4 ∧ d.rows.length ≤ 3 + 2 * k ∧ d.level ≤ 1 + k) →
    1 ≤ (ns.foldl drStep d).many ∧ (ns.foldl drStep d).many ≤ 4 ∧ (ns.foldl drStep d).rows.length ≤ 3 + 2 * (k + ns.length) ∧ (ns.foldl drStep d).level ≤ 1 + (k + ns.length) := by
  induction ns with
  | nil => intro d k h; simpa using h
  | cons n r ih =>
    intro d k h
    have z := ih _ (k + 1) (drStep_bounds (n := n) h)
    simp only [List.foldl_cons, List.length_cons]
    omega
theorem init_bounds (ns : List Int) : 1 ≤ (ns.foldl drStep drInit).many ∧ (ns.foldl drStep drInit).many ≤ 4 ∧ (ns.foldl drStep drInit).rows.length ≤ 3 + 2 * ns.length ∧ (ns.foldl drStep drInit).level ≤ 1 + ns.length := by
  have z := foldl_bounds ns drInit 0 (by simp [drInit])
  simpa using z
theorem drawn_even {ns : List Int} (h : ((ns.length : Nat) : Int).fmod 2 = 0) : drawn ns = (drFold ns).rows ++ List.replicate (drFold ns).level clo := by
  unfold drawn; rw [if_pos]; rw [Int.fmod_eq_emod_of_nonneg _ (by decide)] at h; omega
theorem drawn_odd {ns : List Int} (h : ((ns.length : Nat) : Int).fmod 2 ≠ 0) : drawn ns = (drFold ns).rows := by
  unfold drawn; rw [if_neg]; rw [Int.fmod_eq_emod_of_nonneg _ (by decide)] at h; omega
section
variable {news news' : List (Addr × Obj)}
def RowsIn (news : List (Addr × Obj)) (vs : List Value) (rows : List Row) : Prop := DatAll news vs (rows.map rowDat)
theorem RowsIn.mono {vs : List Value} {rows : List Row} (h : RowsIn news vs rows) (hs : ∀ p ∈ news, p ∈ news') : RowsIn news' vs rows := DatAll.mono hs h
theorem RowsIn.length {vs : List Value} {rows : List Row} (h : RowsIn news vs rows) : vs.length = rows.length := by
  have := DatAll.length h
  simpa using this
theorem RowsIn.app {vs ws : List Value} {rows ros : List Row} (h : RowsIn news vs rows) (k : RowsIn news ws ros) : RowsIn news (vs ++ ws) (rows ++ ros) := by
  unfold RowsIn
  rw [List.map_append]
  exact DatAll.append h k
theorem RowsIn.nil : RowsIn news [] [] := DatAll.nil
theorem RowsIn.cons {v : Value} {vs : List Value} {r : Row} {rows : List Row} (h : DatIn news v (rowDat r)) (k : RowsIn news vs rows) : RowsIn news (v :: vs) (r :: rows) := DatAll.cons h k
theorem row_str {a : Addr} {c : Int} {t t2 : Tok} {x : Str} {n : Nat} (h : (a, ({ cls := .type "tuple", data := .seq [Value.int c t, Value.str x t2].toArray n } : Obj)) ∈ news) : DatIn news (.ref a) (rowDat (c, .s x)) :=
  DatIn.tuple h (DatAll.cons (DatIn.int _ _) (DatAll.cons (DatIn.str _ _) DatAll.nil))
theorem row_int {a : Addr} {c : Int} {t t2 : Tok} {x : Int} {n : Nat} (h : (a, ({ cls := .type "tuple", data := .seq [Value.int c t, Value.int x t2].toArray n } : Obj)) ∈ news) : DatIn news (.ref a) (rowDat (c, .i x)) :=
  DatIn.tuple h (DatAll.cons (DatIn.int _ _) (DatAll.cons (DatIn.int _ _) DatAll.nil))
end
section
variable {prog : Program} {w : World} {A : Around} {E : Value → Shared → Prop} {s : Shared} {L : Addr} {h₀ : Heap} {m : Str → Option Value} {news : List (Addr × Obj)} {Q : Value → Shared → Prop}
theorem add_lists' {a b : Addr} {xs ys : List Value} {n1 n2 : Nat} (F : Fr h₀ L s.heap m) (N : News h₀ L s.heap news) (h1 : (a, listOf xs.toArray n1) ∈ news) (h2 : (b, listOf ys.toArray n2) ∈ news)
    (hsz : xs.length + ys.length ≤ 1000) (h : ∀ (l : Nat) h', Fr h₀ L h' m → News h₀ L h' ((l, listOf (xs ++ ys).toArray 0) :: news) → TopLe news l → Q (.ref l) { s with heap := h' }) :
    wpAny (model prog w) A (binaryOp .Add (.ref a) (.ref b)) Q E s :=
  add_lists F N (N.isList h1) (N.isList h2) (fun h' F' N' => h _ h' F' N' (topLe_news N)) (by rw [sizeLine_eq]; omega)
theorem newTup {vs : List Value} (F : Fr h₀ L s.heap m) (N : News h₀ L s.heap news) (hz : vs.length ≤ 1000)
    (h : ∀ (t : Nat) h', Fr h₀ L h' m → News h₀ L h' ((t, ({ cls := .type "tuple", data := .seq vs.toArray } : Obj)) :: news) → TopLe news t → Q (.ref t) { s with heap := h' }) : wpAny (model prog w) A (newTuple vs) Q E s :=
  newTuple_N F N (fun h' F' N' => h _ h' F' N' (topLe_news N)) (by rw [sizeLine_eq]; omega)
theorem newLst {vs : List Value} (F : Fr h₀ L s.heap m) (N : News h₀ L s.heap news) (hz : vs.length ≤ 1000)
    (h : ∀ (t : Nat) h', Fr h₀ L h' m → News h₀ L h' ((t, listOf vs.toArray 0) :: news) → TopLe news t → Q (.ref t) { s with heap := h' }) : wpAny (model prog w) A (newList vs) Q E s :=
  newList_N F N (fun h' F' N' => h _ h' F' N' (topLe_news N)) (by rw [sizeLine_eq]; omega)
theorem rep_list {l : Addr} {v : Value} {n : Nat} {x : Int} {u : Tok} (Fm : Fr h₀ L s.heap m) (N : News h₀ L s.heap news) (hm : (l, listOf [v].toArray n) ∈ news) (h0 : 0 ≤ x) (hx : x < 1000)
    (h : ∀ (r : Nat) h', Fr h₀ L h' m → News h₀ L h' ((r, listOf (List.replicate x.toNat v).toArray 0) :: news) → TopLe news r → Q (.ref r) { s with heap := h' }) :
    wpAny (model prog w) A (binaryOp .Mult (.ref l) (.int x u)) Q E s := by
  have ho := (N _ hm).1
  have fit : ¬ (!Builtin.List.listFitsIndex x) = true := by
    simp only [Builtin.List.listFitsIndex, Bool.not_eq_true', Bool.not_eq_false, decide_eq_true_eq, Bool.and_eq_true]; omega
  have sz : ([v].toArray : Array Value).size * x.toNat = x.toNat := by simp
  refine wpAny_binaryOp_repeat_ref (T := "list") (U := "int") (by decide) ⟨_, ho, rfl⟩ (fun s' => typeIs_int s' x u) noFill_list_mul F.fills_int_mul F.slot_int_rmul repeat_list F.slot_int_index.lookup
    (call_meets F.slot_int_rmul (typeIs_int s x u) F.entry_int_rmul (F.args_int_rmul_2 _ _) (lm_int_rmul_list_any x u l [v].toArray n none #[]) ⟨ho, rfl, ⟨_, ho, rfl⟩, ?_⟩)
  refine call_meets F.slot_list_mul ⟨_, ho, rfl⟩ F.entry_list_mul (F.args_list_mul_2 _ _) (lm_list_mul_any l [v].toArray n none #[] x u fit (by rw [sz]; omega) (by rw [sz]; simp [Builtin.List.listTooLong, sizeLine]; omega)) ⟨ho, ?_⟩
  have e : List.foldl (fun x1 x2 => x1 ++ x2) #[] (List.replicate (if ([v].toArray : Array Value).isEmpty = true then 0 else x.toNat) [v].toArray) = (List.replicate x.toNat v).toArray := by
    rw [listMul_foldl_if]
    congr 1
    generalize x.toNat = k
    induction k with
    | zero => rfl
    | succ k ih => rw [List.replicate_succ, List.replicate_succ, List.flatten_cons, ih]; rfl
  have N' := News.push Fm N (listOf (List.replicate x.toNat v).toArray 0)
  have z := h s.heap.objs.size _ (Fm.push _) N' (topLe_news N)
  rw [← e] at z
  exact z
theorem RowsIn.rep {news : List (Addr × Obj)} {v : Value} {r : Row} (h : DatIn news v (rowDat r)) : ∀ k : Nat, RowsIn news (List.replicate k v) (List.replicate k r)
  | 0 => RowsIn.nil
  | k + 1 => RowsIn.cons h (RowsIn.rep h k)
theorem names_at {value slice : Expr} {k : Int} {u : Tok} (F : Fr h₀ L s.heap m) (X₀ : (hd.heap_39 w.params).In h₀) (h0 : 0 ≤ k) (h4 : k < 4) (h : ∀ t, Q (.str (nm k.toNat) t) s)
    (hs : subscripted slice false (.ref 537) (.int k u) = operate [.ref 537, .int k u] (getItem (.ref 537) (.int k u)) := by with_unfolding_all rfl) :
    wpAny (model prog w) A (subscriptTail value slice (.ref 537) (.int k u)) Q E s := by
  have hl : List.lookup 537 (hd.heap_39 w.params) = some { cls := .type "tuple", data := .seq [Value.str (Str.ofString "LA") 915, Value.str (Str.ofString "LB") 916, Value.str (Str.ofString "LC") 917, Value.str (Str.ofString "LD") 918].toArray } := by with_unfolding_all rfl
  have hk : k = 0 ∨ k = 1 ∨ k = 2 ∨ k = 3 := by omega
  rcases hk with rfl | rfl | rfl | rfl
  · exact topTup_K F X₀ hl (by decide) (by decide) rfl rfl (h _) hs
  · exact topTup_K F X₀ hl (by decide) (by decide) rfl rfl (h _) hs
  · exact topTup_K F X₀ hl (by decide) (by decide) rfl rfl (h _) hs
  · exact topTup_K F X₀ hl (by decide) (by decide) rfl rfl (h _) hs
end
end

/- part MDrawn -/
theorem fresh_MDrawn : True ∧ True := by
  w_top off
  first
    | (walk1; done)
    | exact ⟨True.intro, True.intro⟩
section
local macro_rules | `(tactic| walk_at "newTuple") => `(tactic| (k_here; k_dflt (refine' newTup ?k1 ?k2 ?k3 ?_; (case k1 => k_asm); (case k2 => k_asm); (case k3 => exact Nat.le_of_ble_eq_true rfl); k_whole); intro D' h' F' N' l1; (first | (have hlt := TopLe.head l1; dsimp only at hlt) | (have hlt := TopLe.num l1; (try simp only [top_app, Nat.max_le] at hlt))); (try k_sweep)))
local macro_rules | `(tactic| walk_at "newList") => `(tactic| (k_here; k_dflt (refine' newLst ?k1 ?k2 ?k3 ?_; (case k1 => k_asm); (case k2 => k_asm); (case k3 => exact Nat.le_of_ble_eq_true rfl); k_whole); intro D' h' F' N' l1; (first | (have hlt := TopLe.head l1; dsimp only at hlt) | (have hlt := TopLe.num l1; (try simp only [top_app, Nat.max_le] at hlt))); (try k_sweep)))
local macro_rules | `(tactic| walk_at "exec For") => `(tactic| (with_unfolding_all refine for_at ?_))
local macro_rules | `(tactic| walk_at "exec For Name Call cons nil") => `(tactic| (with_unfolding_all refine for_at ?_))
local macro_rules | `(tactic| walk_at "exec For Name Name cons nil") => `(tactic| (with_unfolding_all refine for_at ?_))
local macro_rules | `(tactic| walk_at "binaryOp Add ref ref") => `(tactic| (k_here; k_dflt (refine' add_lists' ?k1 ?k2 ?k3 ?k4 ?k5 ?_; (case k1 => k_asm); (case k2 => k_asm); (case k3 => k_mem); (case k4 => k_mem); (case k5 => ((try simp only [List.length_append, List.length_cons, List.length_nil, List.length_replicate, Int.toNat_natCast]); omega)); k_whole); intro l' h' F' N' l1; (first | (have hlt := TopLe.head l1; dsimp only at hlt) | (have hlt := TopLe.num l1; (try simp only [top_app, Nat.max_le] at hlt))); (try k_sweep)))
local macro_rules | `(tactic| walk_at "binaryOp Mult ref int") => `(tactic| (k_here; k_dflt (refine' rep_list ?k1 ?k2 ?k3 ?k4 ?k5 ?_; (case k1 => k_asm); (case k2 => k_asm); (case k3 => k_mem); (case k4 => omega); (case k5 => omega); k_whole); intro l' h' F' N' l1; (first | (have hlt := TopLe.head l1; dsimp only at hlt) | (have hlt := TopLe.num l1; (try simp only [top_app, Nat.max_le] at hlt))); (try k_sweep)))
local macro_rules | `(tactic| walk_at "subscriptTail Name Name ref int") => `(tactic| (k_here; (with_reducible show wpAny _ _ (subscriptTail _ _ (Value.ref 537) (Value.int _ _)) _ _ _); k_dflt (refine' names_at ?k1 ?k2 ?k3 ?k4 ?_; (case k1 => k_asm); (case k2 => k_asm); (case k3 => first | omega | exact Int.fmod_nonneg_of_pos _ (by decide)); (case k4 => first | omega | exact Int.fmod_lt_of_pos _ (by decide)); k_whole); intro t'))
local macro_rules | `(tactic| walk_at "subscriptTail Name BinOp ref int") => `(tactic| (k_here; (with_reducible show wpAny _ _ (subscriptTail _ _ (Value.ref 537) (Value.int _ _)) _ _ _); k_dflt (refine' names_at ?k1 ?k2 ?k3 ?k4 ?_; (case k1 => k_asm); (case k2 => k_asm); (case k3 => first | omega | exact Int.fmod_nonneg_of_pos _ (by decide)); (case k4 => first | omega | exact Int.fmod_lt_of_pos _ (by decide)); k_whole); intro t'))
local macro_rules | `(tactic| walk_at "subscriptTail Name Constant ref int") => `(tactic| (k_here; (with_reducible show wpAny _ _ (subscriptTail _ _ (Value.ref 537) (Value.int _ _)) _ _ _); k_dflt (refine' names_at ?k1 ?k2 ?k3 ?k4 ?_; (case k1 => k_asm); (case k2 => k_asm); (case k3 => first | omega | exact Int.fmod_nonneg_of_pos _ (by decide)); (case k4 => first | omega | exact Int.fmod_lt_of_pos _ (by decide)); k_whole); intro t'))
local macro_rules | `(tactic| walk_at "subscriptTail Name UnaryOp ref int") => `(tactic| (k_here; (with_reducible show wpAny _ _ (subscriptTail _ _ (Value.ref 537) (Value.int _ _)) _ _ _); k_dflt (refine' names_at ?k1 ?k2 ?k3 ?k4 ?_; (case k1 => k_asm); (case k2 => k_asm); (case k3 => first | omega | exact Int.fmod_nonneg_of_pos _ (by decide)); (case k4 => first | omega | exact Int.fmod_lt_of_pos _ (by decide)); k_whole); intro t'))
local macro_rules | `(tactic| walk_at "subscriptTail Subscript Name ref int") => `(tactic| (k_here; (with_reducible show wpAny _ _ (subscriptTail _ _ (Value.ref 537) (Value.int _ _)) _ _ _); k_dflt (refine' names_at ?k1 ?k2 ?k3 ?k4 ?_; (case k1 => k_asm); (case k2 => k_asm); (case k3 => first | omega | exact Int.fmod_nonneg_of_pos _ (by decide)); (case k4 => first | omega | exact Int.fmod_lt_of_pos _ (by decide)); k_whole); intro t'))
local macro_rules | `(tactic| walk_at "subscriptTail Subscript BinOp ref int") => `(tactic| (k_here; (with_reducible show wpAny _ _ (subscriptTail _ _ (Value.ref 537) (Value.int _ _)) _ _ _); k_dflt (refine' names_at ?k1 ?k2 ?k3 ?k4 ?_; (case k1 => k_asm); (case k2 => k_asm); (case k3 => first | omega | exact Int.fmod_nonneg_of_pos _ (by decide)); (case k4 => first | omega | exact Int.fmod_lt_of_pos _ (by decide)); k_whole); intro t'))
local macro_rules | `(tactic| walk_at "subscriptTail Subscript Constant ref int") => `(tactic| (k_here; (with_reducible show wpAny _ _ (subscriptTail _ _ (Value.ref 537) (Value.int _ _)) _ _ _); k_dflt (refine' names_at ?k1 ?k2 ?k3 ?k4 ?_; (case k1 => k_asm); (case k2 => k_asm); (case k3 => first | omega | exact Int.fmod_nonneg_of_pos _ (by decide)); (case k4 => first | omega | exact Int.fmod_lt_of_pos _ (by decide)); k_whole); intro t'))
local macro_rules | `(tactic| walk_at "subscriptTail Subscript UnaryOp ref int") => `(tactic| (k_here; (with_reducible show wpAny _ _ (subscriptTail _ _ (Value.ref 537) (Value.int _ _)) _ _ _); k_dflt (refine' names_at ?k1 ?k2 ?k3 ?k4 ?_; (case k1 => k_asm); (case k2 => k_asm); (case k3 => first | omega | exact Int.fmod_nonneg_of_pos _ (by decide)); (case k4 => first | omega | exact Int.fmod_lt_of_pos _ (by decide)); k_whole); intro t'))
section
set_option pp.deepTerms false
set_option pp.deepTerms.threshold 4
def DrawnJ (ns : List Int) (scr sl : Addr) (ws : List Value) (k : Nat) (news : List (Addr × Obj)) (i : Nat) (m : Str → Option Value) (nx : List (Addr × Obj)) : Prop :=
  ∃ u r vs₁ n₁ t1 t2 add, m = upds [(Str.ofString "rows", .ref r), (Str.ofString "many", .int (((ns.take i).foldl drStep drInit).many : Int) t1), (Str.ofString "level", .int (((ns.take i).foldl drStep drInit).level : Int) t2), (Str.ofString "script", .ref scr)] u ∧
    nx = add ++ news ∧ (∀ p ∈ add, top news ≤ p.1) ∧ (r, listOf vs₁.toArray n₁) ∈ nx ∧ RowsIn nx vs₁ ((ns.take i).foldl drStep drInit).rows ∧ (sl, listOf ws.toArray k) ∈ nx
theorem drawnJ_next {ns : List Int} {scr sl : Addr} {ws : List Value} {k i : Nat} {news add new : List (Addr × Obj)} {d : Dr} {n : Int} {m' : Str → Option Value} {rows' : List Row} {many' level' : Nat} {r' : Addr} {vs' : List Value} {n' : Nat} {a b : Int} {t1 t2 : Tok}
    (hs : (ns.take (i + 1)).foldl drStep drInit = drStep d n) (e : drStep d n = ⟨rows', many', level'⟩) (hm1 : m' (Str.ofString "rows") = some (.ref r')) (hm2 : m' (Str.ofString "many") = some (.int a t1)) (ha : a = (many' : Int))
    (hm3 : m' (Str.ofString "level") = some (.int b t2)) (hb : b = (level' : Int)) (hm4 : m' (Str.ofString "script") = some (.ref scr)) (hnew : ∀ p ∈ new, top news ≤ p.1) (hadd : ∀ p ∈ add, top news ≤ p.1)
    (hr : (r', listOf vs'.toArray n') ∈ new ++ (add ++ news)) (hR : RowsIn (new ++ (add ++ news)) vs' rows') (hl : (sl, listOf ws.toArray k) ∈ add ++ news) : DrawnJ ns scr sl ws k news (i + 1) m' (new ++ (add ++ news)) := by
  unfold DrawnJ
  rw [hs, e]
  subst ha hb
  refine ⟨m', r', vs', n', t1, t2, new ++ add, upds_self ?_, (List.append_assoc ..).symm, ?_, hr, hR, List.mem_append_right _ hl⟩
  · intro p hp
    simp only [List.mem_cons, List.not_mem_nil, or_false] at hp
    rcases hp with rfl | rfl | rfl | rfl <;> assumption
  · intro p hp
    exact (List.mem_append.mp hp).elim (hnew p) (hadd p)
theorem drawn_spec {w : World} {A A₀ : Around} {s : Shared} {base h₀ : Heap} {outer : List Env} {env : Env} {L : Addr} {m mg mb : Str → Option Value} {p₀ : Program} {loose : List Str} {news : List (Addr × Obj)} {E : Value → Shared → Prop} {Q : Value → Shared → Prop} {scr : Addr} {vs : List Value} {ns : List Int} (cx : Cx w A A₀ base h₀ outer env L mg mb p₀ loose) (F : Fr h₀ L s.heap m) (N : News h₀ L s.heap news) (hr : A.depth + 20 < recursionLimit) (hu : A.units + 100 < cLine)
    (hS : base.IsList scr vs.toArray) (hI : IntsAre vs ns) (hlen : ns.length ≤ 63)
    (h : ∀ r (vs' : List Value) n add h' tk', Fr h₀ L h' m → News h₀ L h' (add ++ news) → (∀ p ∈ add, top news ≤ p.1) → (r, listOf vs'.toArray n) ∈ add ++ news → RowsIn (add ++ news) vs' (drawn ns) → Q (.ref r) { s with heap := h', toks := tk' }) :
    wpAny (model Challenge.rw_fy0015_01.row.toRowW.1 w) A (call (.ref 544) [.ref scr]) Q E s := by
  obtain ⟨B, X₀, T, hh, hA, hf, hk⟩ := cx
  revert X₀
  k_fill
  intro X₀
  obtain ⟨_, _, _, _, _⟩ := A
  obtain ⟨⟨_, _, _, _, _⟩, _, _, _, _, _, _, _, _⟩ := env
  dsimp only at hA hf hk hh hr hu
  subst hA hf hk hh
  refine wpAny_call ?_
  k_enter
  k_steps
  rename_i D ws hq Fq Nq hW hC hLe l1 hlt
  have hIn := top_news Nq
  simp only [top_cons, Nat.max_le] at hIn
  replace hIn : top news ≤ _ := hIn.2.2.2.2.2.2
  refine for_list (vs := ws) rfl rfl rfl (DrawnJ (ns.take 10) scr D ws 0 news) ?src (by assumption) (by assumption) ?init (by passes_own) ?turn ?done
  case src =>
    rintro i m nx h ⟨u, r, vs₁, n₁, t1, t2, add, -, -, -, -, -, hm⟩ - N
    exact N.isList hm
  case init =>
    refine' ⟨_, _, [_, _, _], _, _, _, [_, _, _, _, _, _], upds_self ?ups, rfl, ?hadd, ?hmem, ?hrows, ?hsl⟩
    case hmem => repeat (first | exact List.Mem.head _ | refine List.Mem.tail _ ?_)
    case ups =>
      intro p hp
      simp only [List.mem_cons, List.not_mem_nil, or_false] at hp
      rcases hp with rfl | rfl | rfl | rfl <;> rfl
    case hadd =>
      simp only [List.forall_mem_cons]
      refine ⟨?_, ?_, ?_, ?_, ?_, ?_, fun _ h => nomatch h⟩ <;> (try dsimp only) <;> omega
    case hrows =>
      refine' RowsIn.cons (row_str ?_) (RowsIn.cons (row_str ?_) (RowsIn.cons (row_str ?_) RowsIn.nil))
      all_goals repeat (first | exact List.Mem.head _ | refine List.Mem.tail _ ?_)
    case hsl => exact List.Mem.head _
  case turn =>
    rintro i v m nx I oI h tk hv ⟨u, r, vs₁, n₁, t1, t2, add, rfl, rfl, ha, hr₁, hR, hm⟩ hIge ho F N
    have hx := List.getElem?_eq_some_iff.mp hv
    obtain ⟨hlt, hx⟩ := hx
    have hlt' : i < (ns.take 10).length := by rw [← hW.length]; exact hlt
    obtain ⟨t, ht⟩ := hW.get i (ns.take 10)[i] (List.getElem?_eq_getElem hlt')
    rw [ht] at hv
    obtain rfl := Option.some.inj hv
    have hb := init_bounds ((ns.take 10).take i)
    have hbl : ((ns.take 10).take i).length ≤ 10 := by simp only [List.length_take]; omega
    have hRl := hR.length
    have hs : ((ns.take 10).take (i + 1)).foldl drStep drInit = drStep (((ns.take 10).take i).foldl drStep drInit) (ns.take 10)[i] := by
      rw [List.take_add_one, List.getElem?_eq_getElem hlt']; simp
    generalize hd : ((ns.take 10).take i).foldl drStep drInit = d at *
    generalize hn : (ns.take 10)[i] = n at *
    (try dsimp only)
    (try k_fold)
    k_steps
    all_goals (
      refine turn_next (by assumption) (by assumption) ho ?_
      repeat (first | refine split_nil ?_ | refine split_cons ?_)
      have hI2 : top news ≤ I := Nat.le_trans hIn hIge
      refine ⟨?_, ?_⟩
      · ((try simp only [List.forall_mem_cons]); (repeat' (refine And.intro ?_ ?_)); all_goals first | (intro p hp; cases hp; done) | omega)
      · have e9 := by first
          | exact drStep_open (d := d) (n := n) (by assumption) (by assumption)
          | exact drStep_close (d := d) (n := n) (dr_h0a (by assumption)) (dr_c5 (by assumption))
          | exact drStep_close (d := d) (n := n) (dr_h0b (by assumption)) (dr_c5 (by assumption))
          | exact drStep_close (d := d) (n := n) (dr_h0a (by assumption)) (dr_c2 (by assumption) (by assumption))
          | exact drStep_close (d := d) (n := n) (dr_h0b (by assumption)) (dr_c2 (by assumption) (by assumption))
          | exact drStep_named (d := d) (n := n) (dr_h0a (by assumption)) (dr_na (by assumption) (by assumption)) (by assumption)
          | exact drStep_named (d := d) (n := n) (dr_h0b (by assumption)) (dr_na (by assumption) (by assumption)) (by assumption)
          | exact drStep_named (d := d) (n := n) (dr_h0a (by assumption)) (dr_nb (by assumption) (by assumption)) (by assumption)
          | exact drStep_named (d := d) (n := n) (dr_h0b (by assumption)) (dr_nb (by assumption) (by assumption)) (by assumption)
          | exact drStep_plain (d := d) (n := n) (dr_h0a (by assumption)) (dr_na (by assumption) (by assumption)) (by assumption)
          | exact drStep_plain (d := d) (n := n) (dr_h0b (by assumption)) (dr_na (by assumption) (by assumption)) (by assumption)
          | exact drStep_plain (d := d) (n := n) (dr_h0a (by assumption)) (dr_nb (by assumption) (by assumption)) (by assumption)
          | exact drStep_plain (d := d) (n := n) (dr_h0b (by assumption)) (dr_nb (by assumption) (by assumption)) (by assumption)
        refine' drawnJ_next hs e9 ?_ ?_ ?_ ?_ ?_ ?_ ?_ ha ?_ ?_ hm
        any_goals (show _ = some _; (simp only [upds, ofString_eq, String.reduceEq, reduceIte] <;> exact rfl); done)
        any_goals (show _ ∈ _; (repeat (first | exact List.Mem.head _ | refine List.Mem.tail _ ?_)); done)
        all_goals first
          | omega
          | (simp only [List.forall_mem_cons]; (repeat' (refine And.intro ?_ ?_)); all_goals first | (intro p hp; cases hp; done) | omega)
          | (refine' RowsIn.app (hR.mono (fun p hp => List.mem_append_right _ hp)) (RowsIn.cons (row_str ?_) (RowsIn.cons (row_str ?_) RowsIn.nil)) <;> (repeat (first | exact List.Mem.head _ | refine List.Mem.tail _ ?_)); done)
          | (refine' RowsIn.app (hR.mono (fun p hp => List.mem_append_right _ hp)) (RowsIn.cons (row_str ?_) (RowsIn.cons (row_int ?_) RowsIn.nil)) <;> (repeat (first | exact List.Mem.head _ | refine List.Mem.tail _ ?_)); done)
          | (refine' RowsIn.app (hR.mono (fun p hp => List.mem_append_right _ hp)) (RowsIn.cons (row_str ?_) RowsIn.nil) <;> (repeat (first | exact List.Mem.head _ | refine List.Mem.tail _ ?_)); done)
          | (refine' RowsIn.app (hR.mono (fun p hp => List.mem_append_right _ hp)) (RowsIn.cons (row_int ?_) RowsIn.nil) <;> (repeat (first | exact List.Mem.head _ | refine List.Mem.tail _ ?_)); done))
  case done =>
    rintro m nx h9 tk ⟨u, r, vs₁, n₁, t1, t2, add, rfl, rfl, ha, hr₁, hR, hm⟩ F N
    have hb := init_bounds (ns.take 10)
    have hbl : (ns.take 10).length ≤ 10 := by simp only [List.length_take]; omega
    have hRl := hR.length
    have e : (ns.take 10).take ws.length = ns.take 10 := by rw [hW.length]; exact List.take_length
    rw [e] at hR hRl F
    have hd : drFold ns = (ns.take 10).foldl drStep drInit := rfl
    have hvl := hI.length
    rw [← hd] at hR hRl hb F
    (try dsimp only)
    (try k_fold)
    k_steps
    · refine' h _ _ _ (_ :: _ :: _ :: _ :: add) _ _ (by assumption) (by assumption) ?_ (List.Mem.head _) ?_
      · simp only [List.forall_mem_cons]
        refine ⟨?_, ?_, ?_, ?_, ha⟩ <;> omega
      · rw [drawn_even (by assumption)]
        refine RowsIn.app (hR.mono fun p hp => List.Mem.tail _ (List.Mem.tail _ (List.Mem.tail _ (List.Mem.tail _ hp)))) (RowsIn.rep (row_str (by repeat (first | exact List.Mem.head _ | refine List.Mem.tail _ ?_))) _)
    · refine' h _ _ _ add _ _ (by assumption) (by assumption) ha hr₁ ?_
      rw [drawn_odd (by assumption)]
      exact hR
end

/- part MRules -/
section
section
variable {prog : Program} {w : World} {A : Around} {E : Value → Shared → Prop} {s : Shared} {L : Addr} {h₀ : Heap} {m : Str → Option Value} {news : List (Addr × Obj)}
theorem dat_eqv {d e : Dat} (hd : kqdOk 8 d = true) (he : kqdOk 8 e = true) : (d = e → PyData.eqv (kqdP d) (kqdP e) = true) ∧ (d ≠ e → PyData.eqv (kqdP d) (kqdP e) = false) :=
  ⟨fun h => (kqd_eqv 8 d e 8 hd he).mpr h, fun h => Bool.eq_false_iff.mpr fun z => h ((kqd_eqv 8 d e 8 hd he).mp z)⟩
theorem dat_eq {a b : Value} {d e : Dat} {Q : Value → Shared → Prop} (N : News h₀ L s.heap news) (Da : DatIn news a d) (Db : DatIn news b e) (hd : kqdOk 8 d = true) (he : kqdOk 8 e = true) (hu : A.units + 64 < cLine)
    (h : Q (.bool (PyData.eqv (kqdP d) (kqdP e))) s) : wpAny (model prog w) A (compareOp .Eq a b) Q E s := by
  obtain ⟨as, ra⟩ := kqd_in N 8 Da hd
  obtain ⟨bs, rb⟩ := kqd_in N 8 Db he
  have la := kqd_lay 8 d hd
  have lb := kqd_lay 8 e he
  refine eq_dataH ra rb ?_ ?_ hu h
  · unfold SeqAt.shaped; rw [la.1, Bool.true_and]; exact decide_eq_true (Nat.le_trans la.2 (by decide))
  · unfold SeqAt.shaped; rw [lb.1, Bool.true_and]; exact decide_eq_true (Nat.le_trans lb.2 (by decide))
theorem dat_ne {a b : Value} {d e : Dat} {Q : Value → Shared → Prop} (N : News h₀ L s.heap news) (Da : DatIn news a d) (Db : DatIn news b e) (hd : kqdOk 8 d = true) (he : kqdOk 8 e = true) (hu : A.units + 64 < cLine)
    (h : Q (.bool (!PyData.eqv (kqdP d) (kqdP e))) s) : wpAny (model prog w) A (compareOp .NotEq a b) Q E s := by
  obtain ⟨as, ra⟩ := kqd_in N 8 Da hd
  obtain ⟨bs, rb⟩ := kqd_in N 8 Db he
  have la := kqd_lay 8 d hd
  have lb := kqd_lay 8 e he
  refine ne_dataH ra rb ?_ ?_ hu h
  · unfold SeqAt.shaped; rw [la.1, Bool.true_and]; exact decide_eq_true (Nat.le_trans la.2 (by decide))
  · unfold SeqAt.shaped; rw [lb.1, Bool.true_and]; exact decide_eq_true (Nat.le_trans lb.2 (by decide))
def rowOk (r : Row) : Bool := kqdOk 8 (rowDat r)
theorem ok_open : rowOk (1002, .s (Str.ofString "{")) = true := by decide +kernel
theorem ok_close : rowOk (1002, .s (Str.ofString "}")) = true := by decide +kernel
theorem eq_row_t {fz : List (Addr × Obj)} {a b : Addr} {r : Row} {c : Int} {x : Str} {t t2 : Tok} {n : Nat} {Q : Value → Shared → Prop} (N : News h₀ L s.heap news) (Da : DatIn fz (.ref a) (rowDat r)) (hfz : ∀ p ∈ fz, p ∈ news)
    (hb : (b, ({ cls := .type "tuple", data := .seq [Value.int c t, Value.str x t2].toArray n } : Obj)) ∈ news) (hr : r = (c, .s x)) (ok : rowOk r = true) (hu : A.units + 64 < cLine) (h : Q (.bool true) s) :
    wpAny (model prog w) A (compareOp .Eq (.ref a) (.ref b)) Q E s := by
  subst hr
  refine dat_eq N (Da.mono hfz) (row_str hb) ok ok hu ?_
  rw [(dat_eqv ok ok).1 rfl]; exact h
theorem eq_row_f {fz : List (Addr × Obj)} {a b : Addr} {r : Row} {c : Int} {x : Str} {t t2 : Tok} {n : Nat} {Q : Value → Shared → Prop} (N : News h₀ L s.heap news) (Da : DatIn fz (.ref a) (rowDat r)) (hfz : ∀ p ∈ fz, p ∈ news)
    (hb : (b, ({ cls := .type "tuple", data := .seq [Value.int c t, Value.str x t2].toArray n } : Obj)) ∈ news) (hr : r ≠ (c, .s x)) (ok : rowOk r = true) (ok2 : rowOk (c, .s x) = true) (hu : A.units + 64 < cLine) (h : Q (.bool false) s) :
    wpAny (model prog w) A (compareOp .Eq (.ref a) (.ref b)) Q E s := by
  refine dat_eq N (Da.mono hfz) (row_str hb) ok ok2 hu ?_
  rw [(dat_eqv ok ok2).2 fun z => hr (rowDat_inj z)]; exact h
theorem eq_nil_t {a b : Addr} {bs : List Value} {n n2 : Nat} {Q : Value → Shared → Prop} (N : News h₀ L s.heap news) (ha : (a, listOf bs.toArray n) ∈ news) (hb : (b, listOf ([] : List Value).toArray n2) ∈ news) (e : bs = []) (hu : A.units < cLine) (h : Q (.bool true) s) :
    wpAny (model prog w) A (compareOp .Eq (.ref a) (.ref b)) Q E s := by
  subst e
  exact SeqAt.eq_listAt (e := fun _ => true) (N.isList ha) (N.isList hb) rfl hu (fun j h1 _ => absurd h1 (Nat.not_lt_zero _)) h
theorem eq_nil_f {a b : Addr} {bs : List Value} {n n2 : Nat} {Q : Value → Shared → Prop} (N : News h₀ L s.heap news) (ha : (a, listOf bs.toArray n) ∈ news) (hb : (b, listOf ([] : List Value).toArray n2) ∈ news) (e : bs ≠ []) (hu : A.units < cLine) (h : Q (.bool false) s) :
    wpAny (model prog w) A (compareOp .Eq (.ref a) (.ref b)) Q E s := by
  refine SeqAt.eq_list_lengthsAt (N.isList ha) (N.isList hb) ?_ hu h
  cases bs with
  | nil => exact absurd rfl e
  | cons => simp
theorem item_at {value slice : PySem.Expr} {l : Addr} {vs : List Value} {n : Nat} {k : Int} {u : Tok} {v : Value} {Q : Value → Shared → Prop} (N : News h₀ L s.heap news) (hm : (l, listOf vs.toArray n) ∈ news)
    (h0 : 0 ≤ k) (h1 : k < 2 ^ 63) (hx : vs[k.toNat]? = some v) (h : Q v s)
    (hs : subscripted slice false (.ref l) (.int k u) = operate [.ref l, .int k u] (getItem (.ref l) (.int k u)) := by with_unfolding_all rfl) :
    wpAny (model prog w) A (subscriptTail value slice (.ref l) (.int k u)) Q E s :=
  tail_any (N.isList hm).typeIs slot_list_getitem.lookup (wpAny_getItem_list (N.isList hm) h0 h1 (by simpa using hx) h) hs
theorem item_last {value slice : PySem.Expr} {l : Addr} {vs : List Value} {v : Value} {n : Nat} {u : Tok} {Q : Value → Shared → Prop} (N : News h₀ L s.heap news) (hm : (l, listOf (vs ++ [v]).toArray n) ∈ news) (h : Q v s)
    (hs : subscripted slice false (.ref l) (.int (-1) u) = operate [.ref l, .int (-1) u] (getItem (.ref l) (.int (-1) u)) := by with_unfolding_all rfl) :
    wpAny (model prog w) A (subscriptTail value slice (.ref l) (.int (-1) u)) Q E s := by
  refine tail_any (N.isList hm).typeIs slot_list_getitem.lookup (wpAny_getItem_list_neg (N.isList hm) (by decide) ?_ (by decide) ?_ h) hs
  · simp only [List.size_toArray, List.length_append, List.length_cons, List.length_nil]; omega
  · have e : (-1 + (((vs ++ [v]).toArray.size : Nat) : Int)).toNat = vs.length := by
      simp only [List.size_toArray, List.length_append, List.length_cons, List.length_nil]; omega
    rw [e]; simp
inductive KvIn (news : List (Addr × Obj)) : List (Str × Value) → List (Str × Dat) → Prop
  | nil : KvIn news [] []
  | cons {x : Str} {v : Value} {d : Dat} {kvs : List (Str × Value)} {D : List (Str × Dat)} : DatIn news v d → KvIn news kvs D → KvIn news ((x, v) :: kvs) ((x, d) :: D)
theorem KvIn.mono {news news' : List (Addr × Obj)} (hs : ∀ p ∈ news, p ∈ news') {kvs : List (Str × Value)} {D : List (Str × Dat)} (h : KvIn news kvs D) : KvIn news' kvs D := by
  induction h with
  | nil => exact .nil
  | cons hd _ ih => exact .cons (hd.mono hs) ih
theorem KvIn.length {news : List (Addr × Obj)} {kvs : List (Str × Value)} {D : List (Str × Dat)} (h : KvIn news kvs D) : kvs.length = D.length := by
  induction h with
  | nil => rfl
  | cons _ _ ih => rw [List.length_cons, List.length_cons, ih]
def putD (D : List (Str × Dat)) (x : Str) (d : Dat) : List (Str × Dat) := if D.any (fun kv => kv.1 = x) then D.map (fun kv => if kv.1 = x then (kv.1, d) else kv) else D ++ [(x, d)]
theorem KvIn.any {news : List (Addr × Obj)} {kvs : List (Str × Value)} {D : List (Str × Dat)} (h : KvIn news kvs D) (x : Str) : (kvs.any fun kv => kv.1 = x) = D.any fun kv => kv.1 = x := by
  induction h with
  | nil => rfl
  | cons _ _ ih => simp only [List.any_cons, ih]
theorem KvIn.over {news : List (Addr × Obj)} {kvs : List (Str × Value)} {D : List (Str × Dat)} (h : KvIn news kvs D) {x : Str} {v : Value} {d : Dat} (hd : DatIn news v d) :
    KvIn news (kvs.map fun kv => if kv.1 = x then (kv.1, v) else kv) (D.map fun kv => if kv.1 = x then (kv.1, d) else kv) := by
  induction h with
  | nil => exact .nil
  | cons h1 h2 ih =>
    simp only [List.map_cons]
    split
    · exact .cons hd ih
    · exact .cons h1 ih
theorem KvIn.snoc {news : List (Addr × Obj)} {kvs : List (Str × Value)} {D : List (Str × Dat)} (h : KvIn news kvs D) {x : Str} {v : Value} {d : Dat} (hd : DatIn news v d) : KvIn news (kvs ++ [(x, v)]) (D ++ [(x, d)]) := by
  induction h with
  | nil => exact .cons hd .nil
  | cons h1 _ ih => exact .cons h1 ih
theorem KvIn.put {news : List (Addr × Obj)} {kvs : List (Str × Value)} {D : List (Str × Dat)} (h : KvIn news kvs D) {x : Str} {v : Value} {d : Dat} (hd : DatIn news v d) : KvIn news (stored kvs x v) (putD D x d) := by
  unfold stored putD
  rw [h.any x]
  split
  · exact h.over hd
  · exact h.snoc hd
theorem pick_init (us : List Value) (v : Value) : kms_pick (us ++ [v]) none (some (-1)) = us := by
  unfold kms_pick kms_lo kms_hi
  simp
theorem pick_from1 (us : List Value) (v : Value) : kms_pick (v :: us) (some 1) none = us := by
  unfold kms_pick kms_lo kms_hi
  simp
def DictIs (prog : Program) (w : World) (news : List (Addr × Obj)) (o : Obj) (D : List (Str × Dat)) : Prop := ∃ kvs, o.IsDictOf (strKind prog w) kvs ∧ KvIn news kvs D
theorem DictIs.mono {news' : List (Addr × Obj)} {o : Obj} {D : List (Str × Dat)} (h : DictIs prog w news o D) (hs : ∀ p ∈ news, p ∈ news') : DictIs prog w news' o D := let ⟨kvs, a, b⟩ := h; ⟨kvs, a, b.mono hs⟩
theorem dset {d : Addr} {o : Obj} {g : Obj → List (Addr × Obj)} {fz : List (Addr × Obj)} {D : List (Str × Dat)} {x : Str} {t : Tok} {v : Value} {Q : Unit → Shared → Prop} (F : Fr h₀ L s.heap m) (N : News h₀ L s.heap news) (U : UpdF d o news g)
    (hD : DictIs prog w fz o D) (hz : D.length ≤ 1000)
    (h : ∀ h' o', Fr h₀ L h' m → News h₀ L h' (g o') → (∀ fz2 dv, (∀ p ∈ fz, p ∈ fz2) → DatIn fz2 v dv → DictIs prog w fz2 o' (putD D x dv)) → Q () { s with heap := h', toks := s.toks + 1 }) : wpAny (model prog w) A (setItem (.ref d) (.str x t) v) Q E s := by
  obtain ⟨kvs, hk, hp⟩ := hD
  obtain ⟨pre, post, rfl, hg, a, b⟩ := U.split
  have hm := N (d, o) (List.mem_append_right _ (.head _))
  refine wpAny_setItem_pairs (hsz := by rw [hp.length, sizeLine_eq]; omega) (strKind_is prog w x t) (Heap.dictOf_iff.mpr ⟨o, hm.1, hk⟩) fun h' hmm hs => ?_
  obtain ⟨o', ho', hd'⟩ := Heap.dictOf_iff.mp hmm
  exact h h' o' (F.change hs hm.2.1 hm.2.2) (hg o' ▸ N.setIn a b hs ho') fun fz2 dv hsub hv => ⟨_, hd', (hp.mono hsub).put hv⟩
theorem len_at {l : Addr} {vs : List Value} {n : Nat} {Q : Value → Shared → Prop} (N : News h₀ L s.heap news) (hm : (l, listOf vs.toArray n) ∈ news) (hz : vs.length ≤ 1000) (h : Q (.int (vs.length : Int) (s.toks + 1)) { s with toks := s.toks + 1 + 1 }) :
    wpAny (model prog w) A (call (.builtin "len") [.ref l]) Q E s :=
  len_list (N.isList hm) (by rw [List.size_toArray]; omega) (by rw [List.size_toArray]; exact h)
abbrev rangeObj (a b c : Int) (t u v : Tok) : Obj := { cls := .type "range", dict := none, data := .fields #[.int a t, .int b u, .int c v], slots := #[] }
theorem range_at {n : Int} {u : Tok} {Q : Value → Shared → Prop} (F : Fr h₀ L s.heap m) (N : News h₀ L s.heap news)
    (h : ∀ (r : Nat) t u v tk h', Fr h₀ L h' m → News h₀ L h' ((r, rangeObj 0 n 1 t u v) :: news) → TopLe news r → Q (.ref r) { s with heap := h', toks := tk }) : wpAny (model prog w) A (call (.type "range") [.int n u]) Q E s :=
  range1_rows F N fun h' tk t₁ u₁ v₁ hr F' N' _ => h _ t₁ u₁ v₁ tk h' F' (fun p hp => by
    rcases List.mem_cons.mp hp with rfl | hp
    · refine ⟨hr, ?_, ?_⟩
      · intro q
        exact absurd F.ns.lt (by rw [← q]; exact Nat.lt_irrefl _)
      · cases q : h₀.get? s.heap.objs.size with
        | none => rfl
        | some o => exact absurd (Heap.lt_size (F.keep _ _ q)) (Nat.lt_irrefl _)
    · exact N' p hp) (topLe_news N)
theorem small_upto {n : Nat} (h : n ≤ 1000) : Builtin.Range.small 0 (n : Int) 1 = true := small_one (by omega) (by omega) (by omega) (by omega)
theorem size_upto (n : Nat) : Builtin.Range.rangeSize 0 (n : Int) 1 = (n : Int) := by rw [rangeSize_one]; split <;> omega
def getD (D : List (Str × Dat)) (x : Str) : Option Dat := (D.find? fun kv => kv.1 = x).map (·.2)
end
end

/- part MPairs -/
theorem fresh_MPairs : True ∧ True := by
  w_top off
  first
    | (walk1; done)
    | exact ⟨True.intro, True.intro⟩
section
local macro_rules | `(tactic| walk_at "compareOp Eq ref ref") => `(tactic| (k_here; (with_reducible show wpAny _ _ (compareOp CmpOp.Eq (Value.ref _) (Value.ref _)) _ _ _); k_dflt (first
  | (refine' eq_row_t ?N ?a ?s ?b ?c ?d ?e ?_; (case N => k_asm); (case a => with_reducible assumption); (case s => (intro p hp; repeat (first | exact hp | exact List.mem_append_right _ hp | refine List.Mem.tail _ ?_))); (case b => k_mem); (case c => with_reducible assumption); (case d => with_reducible assumption); (case e => k_units); k_whole)
  | (refine' eq_row_f ?N ?a ?s ?b ?c ?d ?f ?e ?_; (case N => k_asm); (case a => with_reducible assumption); (case s => (intro p hp; repeat (first | exact hp | exact List.mem_append_right _ hp | refine List.Mem.tail _ ?_))); (case b => k_mem); (case c => with_reducible assumption); (case d => with_reducible assumption); (case f => first | exact ok_open | exact ok_close | with_reducible assumption); (case e => k_units); k_whole)
  | (refine' eq_nil_t ?N ?a ?b ?c ?e ?_; (case N => k_asm); (case a => k_mem); (case b => k_mem); (case c => with_reducible assumption); (case e => k_units); k_whole)
  | (refine' eq_nil_f ?N ?a ?b ?c ?e ?_; (case N => k_asm); (case a => k_mem); (case b => k_mem); (case c => with_reducible assumption); (case e => k_units); k_whole))))
local macro_rules | `(tactic| walk_at "subscriptTail Name Name ref int") => `(tactic| (k_here; first
  | ((with_reducible show wpAny _ _ (subscriptTail _ _ (Value.ref _) (Value.int (-1) _)) _ _ _); k_dflt (refine' item_last ?N ?a ?_; (case N => k_asm); (case a => k_mem); k_whole))
  | ((with_reducible show wpAny _ _ (subscriptTail _ _ (Value.ref _) (Value.int _ _)) _ _ _); k_dflt (refine' item_at ?N ?a ?b ?c ?d ?_; (case N => k_asm); (case a => k_mem); (case d => with_reducible assumption); (case b => omega); (case c => omega); k_whole))))
local macro_rules | `(tactic| walk_at "subscriptTail Name BinOp ref int") => `(tactic| (k_here; first
  | ((with_reducible show wpAny _ _ (subscriptTail _ _ (Value.ref _) (Value.int (-1) _)) _ _ _); k_dflt (refine' item_last ?N ?a ?_; (case N => k_asm); (case a => k_mem); k_whole))
  | ((with_reducible show wpAny _ _ (subscriptTail _ _ (Value.ref _) (Value.int _ _)) _ _ _); k_dflt (refine' item_at ?N ?a ?b ?c ?d ?_; (case N => k_asm); (case a => k_mem); (case d => with_reducible assumption); (case b => omega); (case c => omega); k_whole))))
local macro_rules | `(tactic| walk_at "subscriptTail Name Constant ref int") => `(tactic| (k_here; first
  | ((with_reducible show wpAny _ _ (subscriptTail _ _ (Value.ref _) (Value.int (-1) _)) _ _ _); k_dflt (refine' item_last ?N ?a ?_; (case N => k_asm); (case a => k_mem); k_whole))
  | ((with_reducible show wpAny _ _ (subscriptTail _ _ (Value.ref _) (Value.int _ _)) _ _ _); k_dflt (refine' item_at ?N ?a ?b ?c ?d ?_; (case N => k_asm); (case a => k_mem); (case d => with_reducible assumption); (case b => omega); (case c => omega); k_whole))))
local macro_rules | `(tactic| walk_at "subscriptTail Name UnaryOp ref int") => `(tactic| (k_here; first
  | ((with_reducible show wpAny _ _ (subscriptTail _ _ (Value.ref _) (Value.int (-1) _)) _ _ _); k_dflt (refine' item_last ?N ?a ?_; (case N => k_asm); (case a => k_mem); k_whole))
  | ((with_reducible show wpAny _ _ (subscriptTail _ _ (Value.ref _) (Value.int _ _)) _ _ _); k_dflt (refine' item_at ?N ?a ?b ?c ?d ?_; (case N => k_asm); (case a => k_mem); (case d => with_reducible assumption); (case b => omega); (case c => omega); k_whole))))
local macro_rules | `(tactic| walk_at "subscriptTail Subscript Name ref int") => `(tactic| (k_here; first
  | ((with_reducible show wpAny _ _ (subscriptTail _ _ (Value.ref _) (Value.int (-1) _)) _ _ _); k_dflt (refine' item_last ?N ?a ?_; (case N => k_asm); (case a => k_mem); k_whole))
  | ((with_reducible show wpAny _ _ (subscriptTail _ _ (Value.ref _) (Value.int _ _)) _ _ _); k_dflt (refine' item_at ?N ?a ?b ?c ?d ?_; (case N => k_asm); (case a => k_mem); (case d => with_reducible assumption); (case b => omega); (case c => omega); k_whole))))
local macro_rules | `(tactic| walk_at "subscriptTail Subscript BinOp ref int") => `(tactic| (k_here; first
  | ((with_reducible show wpAny _ _ (subscriptTail _ _ (Value.ref _) (Value.int (-1) _)) _ _ _); k_dflt (refine' item_last ?N ?a ?_; (case N => k_asm); (case a => k_mem); k_whole))
  | ((with_reducible show wpAny _ _ (subscriptTail _ _ (Value.ref _) (Value.int _ _)) _ _ _); k_dflt (refine' item_at ?N ?a ?b ?c ?d ?_; (case N => k_asm); (case a => k_mem); (case d => with_reducible assumption); (case b => omega); (case c => omega); k_whole))))
local macro_rules | `(tactic| walk_at "subscriptTail Subscript Constant ref int") => `(tactic| (k_here; first
  | ((with_reducible show wpAny _ _ (subscriptTail _ _ (Value.ref _) (Value.int (-1) _)) _ _ _); k_dflt (refine' item_last ?N ?a ?_; (case N => k_asm); (case a => k_mem); k_whole))
  | ((with_reducible show wpAny _ _ (subscriptTail _ _ (Value.ref _) (Value.int _ _)) _ _ _); k_dflt (refine' item_at ?N ?a ?b ?c ?d ?_; (case N => k_asm); (case a => k_mem); (case d => with_reducible assumption); (case b => omega); (case c => omega); k_whole))))
local macro_rules | `(tactic| walk_at "subscriptTail Subscript UnaryOp ref int") => `(tactic| (k_here; first
  | ((with_reducible show wpAny _ _ (subscriptTail _ _ (Value.ref _) (Value.int (-1) _)) _ _ _); k_dflt (refine' item_last ?N ?a ?_; (case N => k_asm); (case a => k_mem); k_whole))
  | ((with_reducible show wpAny _ _ (subscriptTail _ _ (Value.ref _) (Value.int _ _)) _ _ _); k_dflt (refine' item_at ?N ?a ?b ?c ?d ?_; (case N => k_asm); (case a => k_mem); (case d => with_reducible assumption); (case b => omega); (case c => omega); k_whole))))
local macro_rules | `(tactic| walk_at "setItem ref str") => `(tactic| (k_here; k_dflt (refine' dset ?F ?N ?U ?d ?z ?_; (case F => k_asm); (case N => k_asm); (case U => k_updF); (case d => with_reducible assumption); (case z => omega); k_whole); intro h' o' F' N' hd'; (try dsimp only at N'); (try k_sweep)))
local macro_rules | `(tactic| walk_at "call builtin:len") => `(tactic| (k_here; (with_reducible show wpAny _ _ (call (Value.builtin "len") [Value.ref _]) _ _ _); k_dflt (refine' len_at ?k1 ?k2 ?k3 ?_; (case k1 => k_asm); (case k2 => k_mem); (case k3 => omega); k_whole)))
local macro_rules | `(tactic| walk_at "call type:range") => `(tactic| (k_here; (with_reducible show wpAny _ _ (call (Value.type "range") [Value.int _ _]) _ _ _); k_dflt (refine' range_at ?k1 ?k2 ?_; (case k1 => k_asm); (case k2 => k_asm); k_whole); intro r' t' u' v' tk' h' F' N' l1; (first | (have hlt := TopLe.head l1; dsimp only at hlt) | (have hlt := TopLe.num l1; (try simp only [top_app, Nat.max_le] at hlt))); (try k_sweep)))
local macro_rules | `(tactic| walk_at "subscriptTail Name Slice ref ref") => `(tactic| (k_here; (with_reducible show wpAny _ _ (subscriptTail _ (PySem.Expr.Slice _ _ none _) (Value.ref _) (Value.ref _)) _ _ _); k_dflt (refine' kms_slice_lit ?F ?N ?l ?p ?q rfl ?_ ?s ?t ?z; (case F => k_asm); (case N => k_asm); (case l => exact News.isList (by k_asm) (by k_mem)); (case p => kmk_part); (case q => kmk_part); (case s => with_unfolding_all rfl); (case t => kmk_pure); (case z => (simp only [List.size_toArray, sizeLine_eq]; omega))); intro D' h' F' N' l1; (try k_lt l1); (try k_sweep)))
section
set_option pp.deepTerms false
set_option pp.deepTerms.threshold 4
def rowAt (rows : List Row) (k : Nat) : Row := rows.getD k (0, .i 0)
def cellStr (c : Cell) : Str := match c with
  | .s x => x
  | .i _ => Str.ofString ""
structure Pr where
  opened : List (Str × Dat)
  pairs : List (Str × Dat)
  alone : List Nat
  begun : List Nat
def prStep (rows : List Row) (p : Pr) (k : Nat) : Pr :=
  if rowAt rows k = opn then { p with opened := putD p.opened (cellStr (rowAt rows (k - 1)).2) (.int ((k : Int) - 1)), begun := p.begun ++ [k] }
  else if rowAt rows k = clo then match p.begun.getLast? with
    | none => { p with alone := p.alone ++ [k] }
    | some b => { p with pairs := putD p.pairs (cellStr (rowAt rows (b - 1)).2) (.tuple [.int ((b : Int) - 1), .int ((k : Int) + 1)]), begun := p.begun.dropLast }
  else p
def prFold (rows : List Row) (n : Nat) : Pr := (List.range n).foldl (prStep rows) ⟨[], [], [], []⟩
theorem prFold_succ (rows : List Row) (n : Nat) : prFold rows (n + 1) = prStep rows (prFold rows n) n := by
  unfold prFold; rw [List.range_succ, List.foldl_append]; rfl
def natDat (l : List Nat) : List Int := l.map Int.ofNat
def WellOpened (rows : List Row) : Prop := ∀ k, rowAt rows k = opn → 1 ≤ k ∧ ∃ c x, rowAt rows (k - 1) = (c, .s x)
theorem IntsAre.snoc_inv {vs : List Value} {ns : List Int} {n : Int} (h : IntsAre vs (ns ++ [n])) : ∃ us t, vs = us ++ [.int n t] ∧ IntsAre us ns := by
  induction ns generalizing vs with
  | nil =>
    cases h with
    | cons _ t h => cases h; exact ⟨[], t, rfl, .nil⟩
  | cons k ks ih =>
    cases h with
    | cons _ t h =>
      obtain ⟨us, t', rfl, hu⟩ := ih h
      exact ⟨_ :: us, t', rfl, .cons k t hu⟩
def PairsJ (prog : Program) (w : World) (rows : List Row) (rl d1 d2 : Addr) (news : List (Addr × Obj)) (i : Nat) (m : Str → Option Value) (nx : List (Addr × Obj)) : Prop :=
  ∃ u o1 o2 al as na bl bs nb add, m = upds [(Str.ofString "rows", .ref rl), (Str.ofString "opened", .ref d1), (Str.ofString "pairs", .ref d2), (Str.ofString "alone", .ref al), (Str.ofString "begun", .ref bl)] u ∧
    (∀ q ∈ (d1, o1) :: (d2, o2) :: (add ++ news), q ∈ nx) ∧ (∀ q ∈ add ++ news, q.1 ≠ d1) ∧ (∀ q ∈ add ++ news, q.1 ≠ d2) ∧ (∀ q ∈ add, top news ≤ q.1) ∧
    DictIs prog w (add ++ news) o1 (prFold rows i).opened ∧ DictIs prog w (add ++ news) o2 (prFold rows i).pairs ∧
    (al, listOf as.toArray na) ∈ add ++ news ∧ IntsAre as (natDat (prFold rows i).alone) ∧ (bl, listOf bs.toArray nb) ∈ add ++ news ∧ IntsAre bs (natDat (prFold rows i).begun)
theorem rows_at {news : List (Addr × Obj)} {vs : List Value} {rows : List Row} (h : RowsIn news vs rows) {i : Nat} (hi : i < rows.length) :
    ∃ a n c t u, vs[i]? = some (.ref a) ∧ (a, ({ cls := .type "tuple", data := .seq [Value.int c t, u].toArray n } : Obj)) ∈ news ∧ c = (rowAt rows i).1 ∧ DatIn news u (rowAt rows i).2.dat ∧ DatIn news (.ref a) (rowDat (rowAt rows i)) := by
  obtain ⟨v, hv, hd⟩ := DatAll.get h (k := i) (by simpa using hi)
  have e : (rows.map rowDat)[i]'(by simpa using hi) = rowDat (rowAt rows i) := by
    simp only [List.getElem_map, rowAt, List.getD_eq_getElem?_getD, List.getElem?_eq_getElem hi, Option.getD_some]
  rw [e] at hd
  generalize rowAt rows i = r at hd
  have hd2 := hd
  unfold rowDat at hd
  cases hd with
  | tuple hm ha =>
    cases ha with
    | cons h1 h2 =>
      cases h2 with
      | cons h3 h4 =>
        cases h4
        cases h1
        exact ⟨_, _, _, _, _, hv, hm, rfl, h3, hd2⟩
theorem prStep_opn {rows : List Row} {p : Pr} {k : Nat} (h : rowAt rows k = (1002, .s (Str.ofString "{"))) : prStep rows p k = { p with opened := putD p.opened (cellStr (rowAt rows (k - 1)).2) (.int ((k : Int) - 1)), begun := p.begun ++ [k] } := by
  unfold prStep; exact if_pos h
theorem prStep_clo0 {rows : List Row} {p : Pr} {k : Nat} (h : rowAt rows k = (1002, .s (Str.ofString "}"))) (hb : p.begun = []) : prStep rows p k = { p with alone := p.alone ++ [k] } := by
  have h2 : rowAt rows k ≠ opn := by rw [h]; decide +kernel
  unfold prStep; rw [if_neg h2, if_pos (show rowAt rows k = clo from h), hb]; rfl
theorem prStep_clo1 {rows : List Row} {p : Pr} {k b : Nat} {bs : List Nat} (h : rowAt rows k = (1002, .s (Str.ofString "}"))) (hb : p.begun = bs ++ [b]) :
    prStep rows p k = { p with pairs := putD p.pairs (cellStr (rowAt rows (b - 1)).2) (.tuple [.int ((b : Int) - 1), .int ((k : Int) + 1)]), begun := bs } := by
  have h2 : rowAt rows k ≠ opn := by rw [h]; decide +kernel
  unfold prStep; rw [if_neg h2, if_pos (show rowAt rows k = clo from h), hb]; simp
theorem prStep_else {rows : List Row} {p : Pr} {k : Nat} (h : rowAt rows k ≠ (1002, .s (Str.ofString "{"))) (h2 : rowAt rows k ≠ (1002, .s (Str.ofString "}"))) : prStep rows p k = p := by
  unfold prStep; rw [if_neg (show ¬ rowAt rows k = opn from h), if_neg (show ¬ rowAt rows k = clo from h2)]
theorem begun_opn (rows : List Row) : ∀ n, ∀ b ∈ (prFold rows n).begun, b < n ∧ rowAt rows b = opn
  | 0 => fun b hb => by cases hb
  | n + 1 => fun b hb => by
    have ih := begun_opn rows n
    rw [prFold_succ] at hb
    unfold prStep at hb
    split at hb
    · rename_i h
      rcases List.mem_append.mp hb with hb | hb
      · have := ih b hb; exact ⟨by omega, this.2⟩
      · rw [List.mem_singleton.mp hb]; exact ⟨by omega, h⟩
    · split at hb
      · split at hb
        · have := ih b hb; exact ⟨by omega, this.2⟩
        · have := ih b (List.dropLast_subset _ hb); exact ⟨by omega, this.2⟩
      · have := ih b hb; exact ⟨by omega, this.2⟩
theorem putD_len (D : List (Str × Dat)) (x : Str) (d : Dat) : (putD D x d).length ≤ D.length + 1 := by
  unfold putD; split <;> simp
theorem pr_len (rows : List Row) : ∀ n, (prFold rows n).opened.length ≤ n ∧ (prFold rows n).pairs.length ≤ n ∧ (prFold rows n).alone.length ≤ n ∧ (prFold rows n).begun.length ≤ n
  | 0 => by simp [prFold]
  | n + 1 => by
    have ih := pr_len rows n
    rw [prFold_succ]
    unfold prStep
    split
    · have := putD_len (prFold rows n).opened (cellStr (rowAt rows (n - 1)).2) (.int ((n : Int) - 1)); simp only [List.length_append, List.length_cons, List.length_nil]; omega
    · split
      · split
        · simp only [List.length_append, List.length_cons, List.length_nil]; omega
        · rename_i b _
          have := putD_len (prFold rows n).pairs (cellStr (rowAt rows (b - 1)).2) (.tuple [.int ((b : Int) - 1), .int ((n : Int) + 1)]); simp only [List.length_dropLast]; omega
      · omega
theorem pairsJ_next {prog : Program} {w : World} {rows : List Row} {rl d1 d2 al bl : Addr} {as bs : List Value} {na nb i : Nat} {news add new : List (Addr × Obj)} {o1 o2 : Obj} {p : Pr} {m' : Str → Option Value}
    (hs : prFold rows (i + 1) = p) (m1 : m' (Str.ofString "rows") = some (.ref rl)) (m2 : m' (Str.ofString "opened") = some (.ref d1)) (m3 : m' (Str.ofString "pairs") = some (.ref d2)) (m4 : m' (Str.ofString "alone") = some (.ref al)) (m5 : m' (Str.ofString "begun") = some (.ref bl))
    (hn1 : ∀ q ∈ new, q.1 ≠ d1) (hn2 : ∀ q ∈ new, q.1 ≠ d2) (h1 : ∀ q ∈ add ++ news, q.1 ≠ d1) (h2 : ∀ q ∈ add ++ news, q.1 ≠ d2) (hnew : ∀ q ∈ new, top news ≤ q.1) (hadd : ∀ q ∈ add, top news ≤ q.1)
    (hD1 : DictIs prog w (new ++ (add ++ news)) o1 p.opened) (hD2 : DictIs prog w (new ++ (add ++ news)) o2 p.pairs)
    (ha : (al, listOf as.toArray na) ∈ new ++ (add ++ news)) (hA : IntsAre as (natDat p.alone)) (hb : (bl, listOf bs.toArray nb) ∈ new ++ (add ++ news)) (hB : IntsAre bs (natDat p.begun)) :
    PairsJ prog w rows rl d1 d2 news (i + 1) m' (new ++ (d1, o1) :: (d2, o2) :: (add ++ news)) := by
  subst hs
  refine ⟨m', o1, o2, al, as, na, bl, bs, nb, new ++ add, upds_self ?_, ?_, ?_, ?_, ?_, ?_, ?_, ?_, hA, ?_, hB⟩
  · intro p hp
    simp only [List.mem_cons, List.not_mem_nil, or_false] at hp
    rcases hp with rfl | rfl | rfl | rfl | rfl <;> assumption
  · intro q hq
    rw [List.append_assoc] at hq
    rcases List.mem_cons.mp hq with rfl | hq
    · exact List.mem_append_right _ List.mem_cons_self
    · rcases List.mem_cons.mp hq with rfl | hq
      · exact List.mem_append_right _ (List.mem_cons_of_mem _ List.mem_cons_self)
      · exact (List.mem_append.mp hq).elim (List.mem_append_left _) fun z => List.mem_append_right _ (List.mem_cons_of_mem _ (List.mem_cons_of_mem _ z))
  · rw [List.append_assoc]; exact fun q hq => (List.mem_append.mp hq).elim (hn1 q) (h1 q)
  · rw [List.append_assoc]; exact fun q hq => (List.mem_append.mp hq).elim (hn2 q) (h2 q)
  · exact fun q hq => (List.mem_append.mp hq).elim (hnew q) (hadd q)
  · rw [List.append_assoc]; exact hD1
  · rw [List.append_assoc]; exact hD2
  · rw [List.append_assoc]; exact ha
  · rw [List.append_assoc]; exact hb
theorem ne_of_gt_all {I d : Nat} {new : List (Addr × Obj)} (h : ∀ p ∈ new, @LT.lt Nat _ I p.1) (hd : d ≤ I) : ∀ q ∈ new, q.1 ≠ d := fun q hq e => by
  have := h q hq; rw [e] at this; exact absurd this (Nat.not_lt.mpr hd)
theorem ge_of_gt_all {I d : Nat} {new : List (Addr × Obj)} (h : ∀ p ∈ new, @LT.lt Nat _ I p.1) (hd : d ≤ I) : ∀ q ∈ new, d ≤ q.1 := fun q hq => Nat.le_trans hd (Nat.le_of_lt (h q hq))
theorem and_of {a b : Prop} (ha : a) (hb : a → b) : a ∧ b := ⟨ha, hb ha⟩
theorem natDat_snoc (l : List Nat) (i : Nat) : natDat (l ++ [i]) = natDat l ++ [(i : Int)] := by simp [natDat]
theorem ints_snoc {bs : List Value} {l : List Nat} {i : Nat} {t : Tok} (h : IntsAre bs (natDat l)) : IntsAre (bs ++ [.int (i : Int) t]) (natDat (l ++ [i])) := by
  rw [natDat_snoc]; exact h.append (.cons _ _ .nil)
theorem gen_toks {α : Type} {M : Model} {A : Around} {t : Sem α} {Q : α → Shared → Prop} {E : Value → Shared → Prop} {H : Heap} {G : Array GenState} {D : Drawn} {a b : Nat} {O : OsState} (h : ∀ tk, wpAny M A t Q E (Shared.mk H G D tk O)) : wpAny M A t Q E (Shared.mk H G D (a + b) O) := h _
set_option hygiene false in
local macro_rules | `(tactic| walk_at "execs cons") => `(tactic| (k_here; with_reducible refine gen_toks ?_; intro tk))
set_option hygiene false in
local macro_rules | `(tactic| walk_at "execs nil") => `(tactic| (k_here; with_reducible refine gen_toks ?_; intro tk))
set_option maxHeartbeats 2000000 in
theorem pairs_spec {w : World} {A A₀ : Around} {s : Shared} {base h₀ : Heap} {outer : List Env} {env : Env} {L : Addr} {m mg mb : Str → Option Value} {p₀ : Program} {loose : List Str} {news : List (Addr × Obj)} {E : Value → Shared → Prop} {Q : Value → Shared → Prop} {rl : Addr} {vs : List Value} {nr : Nat} {rows : List Row} (cx : Cx w A A₀ base h₀ outer env L mg mb p₀ loose) (F : Fr h₀ L s.heap m) (N : News h₀ L s.heap news) (hr : A.depth + 20 < recursionLimit) (hu : A.units + 100 < cLine)
    (hrl : (rl, listOf vs.toArray nr) ∈ news) (hR : RowsIn news vs rows) (hlen : rows.length ≤ 200) (hok : ∀ r ∈ rows, rowOk r = true) (hwo : WellOpened rows)
    (h : ∀ (t d1 d2 al : Addr) o1 o2 (as : List Value) n n2 add h' tk', Fr h₀ L h' m → News h₀ L h' (add ++ news) → (∀ p ∈ add, top news ≤ p.1) → (t, ({ cls := .type "tuple", data := .seq [Value.ref d1, Value.ref d2, Value.ref al].toArray n2 } : Obj)) ∈ add ++ news →
      (d1, o1) ∈ add ++ news → (d2, o2) ∈ add ++ news → DictIs Challenge.rw_fy0015_01.row.toRowW.1 w (add ++ news) o1 (prFold rows rows.length).opened → DictIs Challenge.rw_fy0015_01.row.toRowW.1 w (add ++ news) o2 (prFold rows rows.length).pairs →
      (al, listOf as.toArray n) ∈ add ++ news → IntsAre as (natDat ((prFold rows rows.length).alone ++ (prFold rows rows.length).begun)) → Q (.ref t) { s with heap := h', toks := tk' }) :
    wpAny (model Challenge.rw_fy0015_01.row.toRowW.1 w) A (call (.ref 551) [.ref rl]) Q E s := by
  obtain ⟨B, X₀, T, hh, hA, hf, hk⟩ := cx
  revert X₀
  k_fill
  intro X₀
  obtain ⟨_, _, _, _, _⟩ := A
  obtain ⟨⟨_, _, _, _, _⟩, _, _, _, _, _, _, _, _⟩ := env
  dsimp only at hA hf hk hh hr hu
  subst hA hf hk hh
  refine wpAny_call ?_
  have hvl := hR.length
  k_enter
  k_steps
  rename_i hlt0 dA h1 oA loA hsA fsA hiA fiA lA hltA dB h2 oB loB hsB fsB hiB fiB lB hltB alA h3 lAl hAl blA h4 lBl hBl D1 h5 lD hD1 h6 h7 h8 h9 h10 r9 t9 u9 v9 tk10 h11 F9 N9 lr9 hlr9
  refine for_range (n := vs.length) rfl rfl rfl ((N9 _ (List.Mem.head _)).1) (small_upto (by omega)) (size_upto _) (PairsJ Challenge.rw_fy0015_01.row.toRowW.1 w rows rl dA dB news) (by assumption) (by assumption) ?init (by passes_own) ?turn ?done
  case init =>
    refine' ⟨_, oA, oB, alA, [], 0, blA, [], 0, [(blA, listOf ([] : List Value).toArray 0), (alA, listOf ([] : List Value).toArray 0)], upds_self ?ups, ?sub, ?o1, ?o2, ?ad, ⟨[], hsA, .nil⟩, ⟨[], hsB, .nil⟩, ?ma, .nil, ?mb, .nil⟩
    case ma => (repeat (first | exact List.Mem.head _ | refine List.Mem.tail _ ?_))
    case mb => (repeat (first | exact List.Mem.head _ | refine List.Mem.tail _ ?_))
    case ups =>
      intro p hp
      simp only [List.mem_cons, List.not_mem_nil, or_false] at hp
      rcases hp with rfl | rfl | rfl | rfl | rfl <;> (simp only [upds, ofString_eq, String.reduceEq, reduceIte] <;> exact rfl)
    case sub =>
      intro q hq
      rcases List.mem_cons.mp hq with rfl | hq
      · (repeat (first | exact List.Mem.head _ | refine List.Mem.tail _ ?_))
      rcases List.mem_cons.mp hq with rfl | hq
      · (repeat (first | exact List.Mem.head _ | refine List.Mem.tail _ ?_))
      rcases List.mem_cons.mp hq with rfl | hq
      · (repeat (first | exact List.Mem.head _ | refine List.Mem.tail _ ?_))
      rcases List.mem_cons.mp hq with rfl | hq
      · (repeat (first | exact List.Mem.head _ | refine List.Mem.tail _ ?_))
      repeat (first | exact hq | refine List.Mem.tail _ ?_)
    case o1 =>
      intro q hq
      rcases List.mem_cons.mp hq with rfl | hq
      · k_ne
      rcases List.mem_cons.mp hq with rfl | hq
      · k_ne
      exact TopLe.ne lA q hq
    case o2 =>
      intro q hq
      rcases List.mem_cons.mp hq with rfl | hq
      · k_ne
      rcases List.mem_cons.mp hq with rfl | hq
      · k_ne
      exact TopLe.ne1 lB q hq
    case ad =>
      simp only [List.forall_mem_cons]
      refine ⟨?_, ?_, fun _ h => nomatch h⟩ <;> omega
  case turn =>
    rintro i k m nx I oI h tk hi ⟨u, o1, o2, al, as, na, bl, bs, nb, add, rfl, hsub, hoA, hoB, hadd, hDA, hDB, hal, hAs, hbl, hBs⟩ hIge ho F N
    rw [Int.zero_add] at F
    have N2 := news_sub (l' := (I, oI) :: (dA, o1) :: (dB, o2) :: (add ++ news)) N (by
      intro q hq
      rcases List.mem_cons.mp hq with rfl | hq
      · exact List.mem_cons_self
      · exact List.mem_cons_of_mem _ (hsub q hq))
    have hoI : ∀ q ∈ (dA, o1) :: (dB, o2) :: (add ++ news), q.1 ≠ I := fun q hq => ho q (hsub q hq)
    clear N hsub ho
    have hoI2 : ∀ (p1 p2 : Obj), ∀ q ∈ (dA, p1) :: (dB, p2) :: (add ++ news), q.1 ≠ I := fun p1 p2 q hq => by
      rcases List.mem_cons.mp hq with rfl | hq
      · exact hoI (dA, o1) List.mem_cons_self
      · rcases List.mem_cons.mp hq with rfl | hq
        · exact hoI (dB, o2) (List.mem_cons_of_mem _ List.mem_cons_self)
        · exact hoI q (List.mem_cons_of_mem _ (List.mem_cons_of_mem _ hq))
    have hi' : i < rows.length := by omega
    have hl4 := pr_len rows i
    have hIr : r9 < I := Nat.lt_of_lt_of_le (TopLe.head (topLe_news N9)) hIge
    have hIA : @LE.le Nat _ dA I := by omega
    have hIB : @LE.le Nat _ dB I := by omega
    have hIn : top news ≤ I := by omega
    obtain ⟨a, n0, c, t0, u0, hx, hma, hc, hdu, hda⟩ := rows_at hR hi'
    have hx0 : vs[((i : Nat) : Int).toNat]? = some (.ref a) := by rw [Int.toNat_natCast]; exact hx
    have hrok : rowOk (rowAt rows i) = true := by
      refine hok _ ?_
      unfold rowAt
      rw [List.getD_eq_getElem?_getD, List.getElem?_eq_getElem hi']
      exact List.getElem_mem hi'
    have hbl' : bs.length = (prFold rows i).begun.length := by rw [hBs.length]; simp [natDat]
    have hal' : as.length = (prFold rows i).alone.length := by rw [hAs.length]; simp [natDat]
    have hlA : (prFold rows i).opened.length ≤ 1000 := by omega
    have hlB : (prFold rows i).pairs.length ≤ 1000 := by omega
    have hzb : bs.length ≤ 900 := by omega
    have hza : as.length ≤ 900 := by omega
    by_cases e1 : rowAt rows i = (1002, .s (Str.ofString "{"))
    · obtain ⟨hi1, cc, xx, hrow⟩ := hwo i e1
      obtain ⟨a1, n1, c1, t1, u1, hx1, hma1, hc1, hdu1, hda1⟩ := rows_at hR (i := i - 1) (by omega)
      rw [hrow] at hdu1
      cases hdu1 with
      | str _ t2 =>
        have hx2 : vs[((i : Nat) : Int) - 1 |>.toNat]? = some (.ref a1) := by rw [show (((i : Nat) : Int) - 1).toNat = i - 1 by omega]; exact hx1
        (try dsimp only)
        (try k_fold)
        k_steps
        refine' turn_next (by assumption) (by assumption) (hoI2 _ o2) ?hl
        case hl =>
          repeat (first | refine split_nil ?_ | refine split_cons ?_)
          refine and_of ?_ ?_
          · ((try simp only [List.forall_mem_cons]); (repeat' (refine And.intro ?_ ?_)); all_goals first | (intro p hp; cases hp; done) | omega)
          · intro hgt
            refine' pairsJ_next ((prFold_succ ..).trans (prStep_opn e1)) ?_ ?_ ?_ ?_ ?_ (ne_of_gt_all hgt hIA) (ne_of_gt_all hgt hIB) hoA hoB (ge_of_gt_all hgt hIn) hadd ?_ (hDB.mono (fun p hp => List.mem_append_right _ hp)) (List.mem_append_right _ hal) hAs ?_ ?_
            any_goals (show _ = some _; (simp only [upds, ofString_eq, String.reduceEq, reduceIte] <;> exact rfl); done)
            any_goals (show _ ∈ _; (repeat (first | exact List.Mem.head _ | refine List.Mem.tail _ ?_)); done)
            any_goals exact ints_snoc hBs
            all_goals (
              rw [hrow]
              exact (‹∀ fz2 dv, (∀ p ∈ add ++ news, p ∈ fz2) → DatIn fz2 _ dv → DictIs _ _ fz2 _ (putD _ _ dv)›) _ _ (fun p hp => List.mem_append_right _ hp) (DatIn.int _ _))
    · have e1 : rowAt rows i ≠ (1002, .s (Str.ofString "{")) := e1
      by_cases e2 : rowAt rows i = (1002, .s (Str.ofString "}"))
      · rcases List.eq_nil_or_concat (prFold rows i).begun with hb0 | ⟨bs0, b, hb1⟩
        · have hbn : bs = [] := by
            apply List.eq_nil_of_length_eq_zero; rw [hbl', hb0]; rfl
          (try dsimp only)
          (try k_fold)
          k_steps
          refine turn_next (by assumption) (by assumption) (hoI2 o1 o2) ?_
          repeat (first | refine split_nil ?_ | refine split_cons ?_)
          refine and_of ?_ ?_
          · ((try simp only [List.forall_mem_cons]); (repeat' (refine And.intro ?_ ?_)); all_goals first | (intro p hp; cases hp; done) | omega)
          · intro hgt
            refine' pairsJ_next ((prFold_succ ..).trans (prStep_clo0 e2 hb0)) ?_ ?_ ?_ ?_ ?_ (ne_of_gt_all hgt hIA) (ne_of_gt_all hgt hIB) hoA hoB (ge_of_gt_all hgt hIn) hadd (hDA.mono (fun p hp => List.mem_append_right _ hp)) (hDB.mono (fun p hp => List.mem_append_right _ hp)) ?_ ?_ (List.mem_append_right _ hbl) hBs
            any_goals (show _ = some _; (simp only [upds, ofString_eq, String.reduceEq, reduceIte] <;> exact rfl); done)
            any_goals (show _ ∈ _; (repeat (first | exact List.Mem.head _ | refine List.Mem.tail _ ?_)); done)
            any_goals exact ints_snoc hAs
        · rw [List.concat_eq_append] at hb1
          have hbb := begun_opn rows i b (by rw [hb1]; simp)
          obtain ⟨hb1', cc, xx, hrow⟩ := hwo b hbb.2
          rw [hb1, natDat_snoc] at hBs
          obtain ⟨us, tb, rfl, hus⟩ := IntsAre.snoc_inv hBs
          have hbne : us ++ [Value.int (b : Int) tb] ≠ [] := by simp
          obtain ⟨a1, n1, c1, t1, u1, hx1, hma1, hc1, hdu1, hda1⟩ := rows_at hR (i := b - 1) (by omega)
          rw [hrow] at hdu1
          cases hdu1 with
          | str _ t2 =>
            have hx2 : vs[((b : Nat) : Int) - 1 |>.toNat]? = some (.ref a1) := by rw [show (((b : Nat) : Int) - 1).toNat = b - 1 by omega]; exact hx1
            (try dsimp only)
            (try k_fold)
            k_steps
            refine' turn_next (by assumption) (by assumption) (hoI2 o1 _) ?hl
            case hl =>
              repeat (first | refine split_nil ?_ | refine split_cons ?_)
              refine and_of ?_ ?_
              · ((try simp only [List.forall_mem_cons]); (repeat' (refine And.intro ?_ ?_)); all_goals first | (intro p hp; cases hp; done) | omega)
              · intro hgt
                refine' pairsJ_next ((prFold_succ ..).trans (prStep_clo1 e2 hb1)) ?_ ?_ ?_ ?_ ?_ (ne_of_gt_all hgt hIA) (ne_of_gt_all hgt hIB) hoA hoB (ge_of_gt_all hgt hIn) hadd (hDA.mono (fun p hp => List.mem_append_right _ hp)) ?_ (List.mem_append_right _ hal) hAs ?_ ?_
                any_goals (show _ = some _; (simp only [upds, ofString_eq, String.reduceEq, reduceIte] <;> exact rfl); done)
                any_goals (show _ ∈ _; (repeat (first | exact List.Mem.head _ | refine List.Mem.tail _ ?_)); done)
                any_goals (rw [pick_init]; exact hus)
                all_goals (
                  rw [hrow]
                  exact (‹∀ fz2 dv, (∀ p ∈ add ++ news, p ∈ fz2) → DatIn fz2 _ dv → DictIs _ _ fz2 _ (putD _ _ dv)›) _ _ (fun p hp => List.mem_append_right _ hp) (DatIn.tuple (by repeat (first | exact List.Mem.head _ | refine List.Mem.tail _ ?_)) (DatAll.cons (DatIn.int _ _) (DatAll.cons (DatIn.int _ _) DatAll.nil))))
      · have e2 : rowAt rows i ≠ (1002, .s (Str.ofString "}")) := e2
        (try dsimp only)
        (try k_fold)
        k_steps
        refine turn_next (by assumption) (by assumption) (hoI2 o1 o2) ?_
        repeat (first | refine split_nil ?_ | refine split_cons ?_)
        refine and_of ?_ ?_
        · ((try simp only [List.forall_mem_cons]); (repeat' (refine And.intro ?_ ?_)); all_goals first | (intro p hp; cases hp; done) | omega)
        · intro hgt
          refine' pairsJ_next ((prFold_succ ..).trans (prStep_else e1 e2)) ?_ ?_ ?_ ?_ ?_ (ne_of_gt_all hgt hIA) (ne_of_gt_all hgt hIB) hoA hoB (ge_of_gt_all hgt hIn) hadd (hDA.mono (fun p hp => List.mem_append_right _ hp)) (hDB.mono (fun p hp => List.mem_append_right _ hp)) (List.mem_append_right _ hal) hAs (List.mem_append_right _ hbl) hBs
          any_goals (show _ = some _; (simp only [upds, ofString_eq, String.reduceEq, reduceIte] <;> exact rfl); done)
  case done =>
    rintro m nx h9 tk ⟨u, o1, o2, al, as, na, bl, bs, nb, add, rfl, hsub, hoA, hoB, hadd, hDA, hDB, hal, hAs, hbl, hBs⟩ F N
    have N2 := news_sub (l' := (dA, o1) :: (dB, o2) :: (add ++ news)) N hsub
    have hl4 := pr_len rows vs.length
    have hbl' : bs.length = (prFold rows vs.length).begun.length := by rw [hBs.length]; simp [natDat]
    have hal' : as.length = (prFold rows vs.length).alone.length := by rw [hAs.length]; simp [natDat]
    clear N hsub
    rw [hvl] at hDA hDB hAs hBs
    (try dsimp only)
    (try k_fold)
    k_steps
    refine' h _ dA dB _ o1 o2 (as ++ bs) _ _ (_ :: _ :: (dA, o1) :: (dB, o2) :: add) _ _ (by assumption) (by assumption) ?_ (List.Mem.head _) (by repeat (first | exact List.Mem.head _ | refine List.Mem.tail _ ?_)) (by repeat (first | exact List.Mem.head _ | refine List.Mem.tail _ ?_)) (hDA.mono (by intro q hq; repeat (first | exact hq | exact List.mem_append_right _ hq | refine List.Mem.tail _ ?_))) (hDB.mono (by intro q hq; repeat (first | exact hq | exact List.mem_append_right _ hq | refine List.Mem.tail _ ?_))) (List.Mem.tail _ (List.Mem.head _)) ?_
    · simp only [List.forall_mem_cons]
      refine ⟨?_, ?_, ?_, ?_, hadd⟩ <;> omega
    · have e : natDat ((prFold rows rows.length).alone ++ (prFold rows rows.length).begun) = natDat (prFold rows rows.length).alone ++ natDat (prFold rows rows.length).begun := by simp [natDat]
      rw [e]
      exact hAs.append hBs
end

/- part MLaw1 -/
section
/-! The plain law: brackets, levels, what is kept. -/
def del (r : Row) : Int := if r = opn then 1 else if r = clo then -1 else 0
def lev (row : Nat → Row) (p : Nat → Bool) : Nat → Int
  | 0 => 0
  | j + 1 => lev row p j + (if p j then del (row j) else 0)
def allK : Nat → Bool := fun _ => true
theorem lev_succ (row : Nat → Row) (p : Nat → Bool) (j : Nat) : lev row p (j + 1) = lev row p j + (if p j then del (row j) else 0) := rfl
theorem lev_all (row : Nat → Row) (j : Nat) : lev row allK (j + 1) = lev row allK j + del (row j) := by rw [lev_succ]; rfl
theorem opn_ne_clo : opn ≠ clo := by decide
theorem del_opn : del opn = 1 := if_pos rfl
theorem del_clo : del clo = -1 := by unfold del; rw [if_neg (fun h => opn_ne_clo h.symm), if_pos rfl]
theorem del_else {r : Row} (h1 : r ≠ opn) (h2 : r ≠ clo) : del r = 0 := by unfold del; rw [if_neg h1, if_neg h2]
theorem opn_code : opn.1 = 1002 := rfl
theorem clo_code : clo.1 = 1002 := rfl
theorem del_1000 {r : Row} (h : r.1 = 1000) : del r = 0 := del_else (fun z => by rw [z, opn_code] at h; omega) (fun z => by rw [z, clo_code] at h; omega)
/-- An ended list: name at l, its bracket behind, its end just before h. -/
structure IsP (row : Nat → Row) (n l h : Nat) : Prop where
  hn : h ≤ n
  lt : l + 2 < h
  nm : (row l).1 = 1000
  op : row (l + 1) = opn
  cl : row (h - 1) = clo
  en : lev row allK h = lev row allK l
  ins : ∀ j, l + 2 ≤ j → j < h → lev row allK l + 1 ≤ lev row allK j
section
variable {row : Nat → Row} {n : Nat}
theorem isP_nest {l h l' h' : Nat} (P : IsP row n l h) (P' : IsP row n l' h') (h1 : l ≤ l') (h2 : l' < h) : h' ≤ h := by
  apply Classical.byContradiction
  intro hc
  have hlt : h < h' := by omega
  have e1 := P.en
  have e2 := P.lt
  rcases Nat.eq_or_lt_of_le h1 with rfl | h3
  · have := P'.ins h (by omega) hlt
    omega
  · have h4 : l' ≠ l + 1 := by
      rintro rfl
      have a := P'.nm
      rw [P.op, opn_code] at a
      omega
    have h5 := P.ins l' (by omega) h2
    have h6 : h ≠ l' + 1 := by
      rintro rfl
      have a := P'.nm
      have b := P.cl
      rw [Nat.add_sub_cancel] at b
      rw [b, clo_code] at a
      omega
    have h7 := P'.ins h (by omega) hlt
    omega
/-- inner side: the end of one list in another means the whole is in it. -/
theorem isP_back {l h l' h' : Nat} (P : IsP row n l h) (P' : IsP row n l' h') (h1 : l ≤ h' - 1) (h2 : h' - 1 < h) : l ≤ l' ∧ h' ≤ h := by
  have q := P'.lt
  apply Classical.byContradiction
  intro hc
  have h3 : l' < l := by omega
  have h4 := isP_nest P' P (by omega) (by omega)
  have h5 : l ≠ l' + 1 := by
    rintro rfl
    have a := P.nm
    rw [P'.op, opn_code] at a
    omega
  have e2 := P'.ins l (by omega) (by have := P.lt; omega)
  have e3 : h = h' := by omega
  have e4 := P.en
  have e5 := P'.en
  rw [e3] at e4
  omega
end
/-- kept: outside of all the intervals of D. -/
def kept (D : List (Nat × Nat)) (j : Nat) : Bool := D.all fun q => !(decide (q.1 ≤ j) && decide (j < q.2))
theorem kept_iff {D : List (Nat × Nat)} {j : Nat} : kept D j = true ↔ ∀ q ∈ D, ¬ (q.1 ≤ j ∧ j < q.2) := by
  unfold kept
  simp only [List.all_eq_true, Bool.not_eq_true', Bool.and_eq_false_iff, decide_eq_false_iff_not]
  constructor
  · intro h q hq hc; have := h q hq; omega
  · intro h q hq; have := h q hq; omega
def okAt (D : List (Nat × Nat)) (j : Nat) : Prop := ∀ q ∈ D, ¬ (q.1 < j ∧ j < q.2)
theorem ok_kept {D : List (Nat × Nat)} {j : Nat} (h : kept D j = true) : okAt D j := fun q hq hc => kept_iff.mp h q hq (by omega)
theorem ok_kept1 {D : List (Nat × Nat)} {j : Nat} (h : kept D j = true) : okAt D (j + 1) := fun q hq hc => kept_iff.mp h q hq (by omega)
section
variable {row : Nat → Row} {n : Nat}
theorem lev_rm (p : Nat → Bool) (l h : Nat) (hlh : l ≤ h) : ∀ j, (j ≤ l → lev row (fun i => p i && !(decide (l ≤ i) && decide (i < h))) j = lev row p j) ∧
    (l ≤ j → j ≤ h → lev row (fun i => p i && !(decide (l ≤ i) && decide (i < h))) j = lev row p l) ∧
    (h ≤ j → lev row (fun i => p i && !(decide (l ≤ i) && decide (i < h))) j = lev row p j - (lev row p h - lev row p l)) := by
  intro j
  induction j with
  | zero =>
    refine ⟨fun _ => rfl, fun h1 _ => ?_, fun h1 => ?_⟩
    · have : l = 0 := by omega
      subst this; rfl
    · have e1 : l = 0 := by omega
      have e2 : h = 0 := by omega
      subst e1; subst e2; simp [lev]
  | succ j ih =>
    obtain ⟨i1, i2, i3⟩ := ih
    refine ⟨fun hj => ?_, fun h1 h2 => ?_, fun h1 => ?_⟩
    · rw [lev_succ, lev_succ, i1 (by omega)]
      have : decide (l ≤ j) = false := by simp; omega
      simp [this]
    · rw [lev_succ]
      rcases Nat.eq_or_lt_of_le h1 with e | e
      · subst e
        rw [i1 (by omega), lev_succ]
        have : decide (j + 1 ≤ j) = false := by simp
        simp only [this, Bool.false_and, Bool.not_false, Bool.and_true]
      · rw [i2 (by omega) (by omega)]
        have a : decide (l ≤ j) = true := by simp; omega
        have b : decide (j < h) = true := by simp; omega
        simp [a, b]
    · rcases Nat.eq_or_lt_of_le h1 with e | e
      · by_cases hl : l ≤ j
        · rw [lev_succ, i2 hl (by omega), ← e]
          have a : decide (l ≤ j) = true := by simp; omega
          have b : decide (j < h) = true := by simp; omega
          simp only [a, b, Bool.and_self, Bool.not_true, Bool.and_false, Bool.false_eq_true, if_false]
          omega
        · have e3 : l = h := by omega
          rw [lev_succ, i1 (by omega), lev_succ]
          have : decide (l ≤ j) = false := by simp; omega
          simp only [this, Bool.false_and, Bool.not_false, Bool.and_true]
          rw [e3]; omega
      · rw [lev_succ, i3 (by omega), lev_succ]
        have : decide (j < h) = false := by simp; omega
        simp only [this, Bool.and_false, Bool.not_false, Bool.and_true]
        omega
theorem kept_cons (q : Nat × Nat) (D : List (Nat × Nat)) : kept (q :: D) = fun i => kept D i && !(decide (q.1 ≤ i) && decide (i < q.2)) := by
  funext i
  unfold kept
  rw [List.all_cons, Bool.and_comm]
theorem kept_end {D : List (Nat × Nat)} (hD : ∀ q ∈ D, IsP row n q.1 q.2) {l h : Nat} (P : IsP row n l h) (hl : kept D l = true) : kept D (h - 1) = true := by
  rw [kept_iff] at hl ⊢
  intro q hq hc
  have := isP_back (hD q hq) P hc.1 hc.2
  exact hl q hq ⟨this.1, by have := P.lt; omega⟩
theorem kept_gone {D : List (Nat × Nat)} (hD : ∀ q ∈ D, IsP row n q.1 q.2) {l h : Nat} (P : IsP row n l h) (hl : kept D l = false) {j : Nat} (h1 : l ≤ j) (h2 : j < h) : kept D j = false := by
  rw [Bool.eq_false_iff] at hl ⊢
  intro hj
  apply hl
  rw [kept_iff] at hj ⊢
  intro q hq hc
  have := isP_nest (hD q hq) P hc.1 hc.2
  exact hj q hq ⟨by omega, by omega⟩
theorem kept_same {D : List (Nat × Nat)} (hD : ∀ q ∈ D, IsP row n q.1 q.2) {l h : Nat} (P : IsP row n l h) (hl : kept D l = false) : kept ((l, h) :: D) = kept D := by
  rw [kept_cons]
  funext i
  by_cases hc : l ≤ i ∧ i < h
  · rw [kept_gone hD P hl hc.1 hc.2]; rfl
  · have : (decide (l ≤ i) && decide (i < h)) = false := by
      rw [Bool.and_eq_false_iff, decide_eq_false_iff_not, decide_eq_false_iff_not]; omega
    show (kept D i && !(decide (l ≤ i) && decide (i < h))) = kept D i
    rw [this]; simp
/-- what is kept stands at the level at which it stood. -/
theorem lev_kept : ∀ {D : List (Nat × Nat)} (_ : ∀ q ∈ D, IsP row n q.1 q.2) {j : Nat} (_ : okAt D j), lev row (kept D) j = lev row allK j := by
  intro D
  induction D with
  | nil => intro _ j _; congr 1
  | cons q D ih =>
    intro hD j hj
    have P := hD q (.head _)
    have hD' : ∀ q ∈ D, IsP row n q.1 q.2 := fun r hr => hD r (.tail _ hr)
    have hj' : okAt D j := fun r hr => hj r (.tail _ hr)
    have hq := hj q (.head _)
    have lt := P.lt
    cases hk : kept D q.1 with
    | false => rw [show q = (q.1, q.2) from rfl, kept_same hD' P hk]; exact ih hD' hj'
    | true =>
      rw [kept_cons]
      have z := lev_rm (row := row) (kept D) q.1 q.2 (by omega) j
      have e1 := ih hD' (ok_kept hk)
      have e2 := ih hD' (j := q.2) (by have := ok_kept1 (kept_end hD' P hk); rwa [show q.2 - 1 + 1 = q.2 by omega] at this)
      have e3 := P.en
      rcases Nat.lt_or_ge q.1 j with h1 | h1
      · have h2 : q.2 ≤ j := by omega
        rw [z.2.2 h2, ih hD' hj']
        omega
      · rw [z.1 h1, ih hD' hj']
end
end

/- part MLaw2 -/
section
/-! The plain law: the scan for a named list in what is kept. -/
def kix (p : Nat → Bool) (j : Nat) : List Nat := (List.range j).filter p
def krows (row : Nat → Row) (p : Nat → Bool) (j : Nat) : List Row := (kix p j).map row
def rk (p : Nat → Bool) (j : Nat) : Nat := (kix p j).length
theorem kix_t {p : Nat → Bool} {j : Nat} (h : p j = true) : kix p (j + 1) = kix p j ++ [j] := by
  unfold kix; rw [List.range_succ, List.filter_append]; simp [h]
theorem kix_f {p : Nat → Bool} {j : Nat} (h : p j = false) : kix p (j + 1) = kix p j := by
  unfold kix; rw [List.range_succ, List.filter_append]; simp [h]
theorem rk_t {p : Nat → Bool} {j : Nat} (h : p j = true) : rk p (j + 1) = rk p j + 1 := by unfold rk; rw [kix_t h]; simp
theorem rk_f {p : Nat → Bool} {j : Nat} (h : p j = false) : rk p (j + 1) = rk p j := by unfold rk; rw [kix_f h]
theorem kix_pre (p : Nat → Bool) {j n : Nat} (h : j ≤ n) : ∃ r, kix p n = kix p j ++ r := by
  obtain ⟨d, rfl⟩ := Nat.exists_eq_add_of_le h
  clear h
  induction d with
  | zero => exact ⟨[], by simp⟩
  | succ d ih =>
    obtain ⟨r, hr⟩ := ih
    cases hp : p (j + d) with
    | false => exact ⟨r, by rw [← Nat.add_assoc, kix_f hp, hr]⟩
    | true => exact ⟨r ++ [j + d], by rw [← Nat.add_assoc, kix_t hp, hr, List.append_assoc]⟩
theorem krows_len (row : Nat → Row) (p : Nat → Bool) (j : Nat) : (krows row p j).length = rk p j := by unfold krows rk; simp
theorem krows_at (row : Nat → Row) {p : Nat → Bool} {j n : Nat} (h : j < n) (hp : p j = true) : rowAt (krows row p n) (rk p j) = row j := by
  obtain ⟨r, hr⟩ := kix_pre p (j := j + 1) (n := n) h
  unfold rowAt krows
  rw [hr, kix_t hp, List.map_append, List.map_append, List.append_assoc, List.getD_eq_getElem?_getD, List.getElem?_append_right (by simp [rk])]
  simp [rk]
structure Sc where
  start : Option Nat
  level : Int
  fin : Option Nat
def scStep (T : List Row) (x : Str) (s : Sc) (k : Nat) : Sc :=
  match s.fin with
  | some _ => s
  | none =>
    match s.start with
    | none => if rowAt T k = (1000, .s x) ∧ rowAt T (k + 1) = opn then { s with start := some k } else s
    | some b => ⟨some b, s.level + del (rowAt T k), if s.level + del (rowAt T k) = 0 then some k else none⟩
def scan (T : List Row) (x : Str) (n : Nat) : Sc := (List.range n).foldl (scStep T x) ⟨none, 0, none⟩
theorem scan_succ (T : List Row) (x : Str) (n : Nat) : scan T x (n + 1) = scStep T x (scan T x n) n := by unfold scan; rw [List.range_succ, List.foldl_append]; rfl
structure Shaped (row : Nat → Row) (n : Nat) : Prop where
  nx : ∀ j, j < n → (row j).1 = 1000 → j + 1 < n ∧ (row (j + 1)).1 ≠ 1000
  op : ∀ j, j < n → row j = opn → 1 ≤ j ∧ ∃ x, row (j - 1) = (1000, .s x)
  un : ∀ i j x, i < n → j < n → row i = (1000, .s x) → row j = (1000, .s x) → row (i + 1) = opn → row (j + 1) = opn → i = j
  br : ∀ j, j < n → (row j).1 = 1002 → row j = opn ∨ row j = clo
section
variable {row : Nat → Row} {n : Nat} {D : List (Nat × Nat)} {x : Str}
theorem kept_next (S : Shaped row n) (hD : ∀ q ∈ D, IsP row n q.1 q.2) {j : Nat} (hj : j < n) (hk : kept D j = true) (hr : (row j).1 = 1000) : kept D (j + 1) = true := by
  rw [kept_iff] at hk ⊢
  intro q hq hc
  have h1 := hk q hq
  have h2 : q.1 = j + 1 := by omega
  have h3 := (hD q hq).nm
  rw [h2] at h3
  exact (S.nx j hj hr).2 h3
theorem at_kept {j : Nat} (hj : j < n) (hk : kept D j = true) : rowAt (krows row (kept D) n) (rk (kept D) j) = row j := krows_at row hj hk
theorem at_next (S : Shaped row n) (hD : ∀ q ∈ D, IsP row n q.1 q.2) {j : Nat} (hj : j < n) (hk : kept D j = true) (hr : (row j).1 = 1000) : rowAt (krows row (kept D) n) (rk (kept D) j + 1) = row (j + 1) := by
  have h1 := kept_next S hD hj hk hr
  have h2 := (S.nx j hj hr).1
  rw [← rk_t hk]
  exact krows_at row h2 h1
/-- up to a name that no list bears, or to its own place, the scan has found nothing -/
theorem scan_none (S : Shaped row n) (hD : ∀ q ∈ D, IsP row n q.1 q.2) : ∀ j, j ≤ n → (∀ i, i < j → row i = (1000, .s x) → row (i + 1) = opn → kept D i = false) →
    scan (krows row (kept D) n) x (rk (kept D) j) = ⟨none, 0, none⟩ := by
  intro j
  induction j with
  | zero => intro _ _; rfl
  | succ j ih =>
    intro hj hno
    have e := ih (by omega) fun i hi => hno i (by omega)
    cases hk : kept D j with
    | false => rw [rk_f hk]; exact e
    | true =>
      rw [rk_t hk, scan_succ, e]
      show (if rowAt _ _ = ((1000, Cell.s x) : Row) ∧ rowAt _ _ = opn then (_ : Sc) else _) = _
      rw [if_neg]
      rintro ⟨h1, h2⟩
      rw [at_kept (by omega) hk] at h1
      rw [at_next S hD (by omega) hk (by rw [h1])] at h2
      have := hno j (by omega) h1 h2
      rw [hk] at this
      exact absurd this (by decide)
theorem scan_on (S : Shaped row n) (hD : ∀ q ∈ D, IsP row n q.1 q.2) {l : Nat} (hl : l < n) (hx : row l = (1000, .s x)) (ho : row (l + 1) = opn) (hk : kept D l = true) :
    ∀ d, l + 2 + d ≤ n → (∀ j, l + 2 ≤ j → j ≤ l + 2 + d → lev row allK l + 1 ≤ lev row allK j) →
    scan (krows row (kept D) n) x (rk (kept D) (l + 2 + d)) = ⟨some (rk (kept D) l), lev row (kept D) (l + 2 + d) - lev row (kept D) l, none⟩ := by
  have hc : (row l).1 = 1000 := by rw [hx]
  have k1 := kept_next S hD hl hk hc
  have n1 := (S.nx l hl hc).1
  have e0 := scan_none (x := x) S hD l (by omega) (fun i hi h1 h2 => by
    have := S.un i l x (by omega) hl h1 hx h2 ho
    omega)
  have e1 : scan (krows row (kept D) n) x (rk (kept D) (l + 1)) = ⟨some (rk (kept D) l), 0, none⟩ := by
    rw [rk_t hk, scan_succ, e0]
    show (if rowAt _ _ = ((1000, Cell.s x) : Row) ∧ rowAt _ _ = opn then (_ : Sc) else _) = _
    rw [if_pos]
    exact ⟨by rw [at_kept hl hk, hx], by rw [at_next S hD hl hk hc, ho]⟩
  have v1 : lev row (kept D) (l + 1) = lev row (kept D) l := by rw [lev_succ, hk, del_1000 hc]; simp
  have v2 : lev row (kept D) (l + 2) = lev row (kept D) l + 1 := by rw [show l + 2 = l + 1 + 1 from rfl, lev_succ, k1, v1, ho, del_opn]; simp
  have e2 : scan (krows row (kept D) n) x (rk (kept D) (l + 2)) = ⟨some (rk (kept D) l), 1, none⟩ := by
    rw [show l + 2 = l + 1 + 1 from rfl, rk_t k1, scan_succ, e1]
    show (⟨_, 0 + del (rowAt _ _), if 0 + del (rowAt _ _) = 0 then some _ else none⟩ : Sc) = _
    rw [at_kept n1 k1, ho, del_opn]
    rfl
  intro d
  induction d with
  | zero => intro _ _; rw [Nat.add_zero, e2, v2]; congr 1; omega
  | succ d ih =>
    intro hn hlev
    have e := ih (by omega) fun j h1 h2 => hlev j h1 (by omega)
    have hz := hlev (l + 2 + d + 1) (by omega) (by omega)
    rw [show l + 2 + (d + 1) = l + 2 + d + 1 from rfl]
    cases hj : kept D (l + 2 + d) with
    | false => rw [rk_f hj, e, lev_succ, hj]; simp
    | true =>
      have a1 := lev_kept hD (ok_kept1 hj)
      have a2 := lev_kept hD (ok_kept hk)
      rw [rk_t hj, scan_succ, e]
      show (⟨_, _ + del (rowAt _ _), if _ + del (rowAt _ _) = 0 then some _ else none⟩ : Sc) = _
      rw [at_kept (by omega) hj]
      have a3 : lev row (kept D) (l + 2 + d) - lev row (kept D) l + del (row (l + 2 + d)) = lev row (kept D) (l + 2 + d + 1) - lev row (kept D) l := by rw [lev_succ, hj]; simp; omega
      rw [a3, if_neg (by omega)]
theorem scan_stay {T : List Row} {s : Sc} {k : Nat} (h : scan T x k = s) (hf : s.fin ≠ none) : ∀ d, scan T x (k + d) = s := by
  intro d
  induction d with
  | zero => exact h
  | succ d ih =>
    rw [← Nat.add_assoc, scan_succ, ih]
    unfold scStep
    split
    · rfl
    · rename_i q; exact absurd q hf
theorem rk_mono (p : Nat → Bool) {i j : Nat} (h : i ≤ j) : rk p i ≤ rk p j := by
  obtain ⟨r, hr⟩ := kix_pre p h
  unfold rk
  rw [hr]
  simp
theorem scan_found (S : Shaped row n) (hD : ∀ q ∈ D, IsP row n q.1 q.2) {l h : Nat} (P : IsP row n l h) (hx : row l = (1000, .s x)) (hk : kept D l = true) :
    scan (krows row (kept D) n) x (rk (kept D) n) = ⟨some (rk (kept D) l), 0, some (rk (kept D) (h - 1))⟩ := by
  have b1 := P.lt
  have b2 := P.hn
  have ke := kept_end hD P hk
  have e := scan_on S hD (l := l) (by omega) hx P.op hk (h - 1 - (l + 2)) (by omega) (fun j h1 h2 => P.ins j h1 (by omega))
  rw [show l + 2 + (h - 1 - (l + 2)) = h - 1 by omega] at e
  have a1 := lev_kept hD (ok_kept1 ke)
  have a2 := lev_kept hD (ok_kept hk)
  have a3 := P.en
  have e2 : scan (krows row (kept D) n) x (rk (kept D) (h - 1) + 1) = ⟨some (rk (kept D) l), 0, some (rk (kept D) (h - 1))⟩ := by
    rw [scan_succ, e]
    show (⟨_, _ + del (rowAt _ _), if _ + del (rowAt _ _) = 0 then some _ else none⟩ : Sc) = _
    rw [at_kept (by omega) ke]
    have a4 : lev row (kept D) (h - 1) - lev row (kept D) l + del (row (h - 1)) = lev row (kept D) (h - 1 + 1) - lev row (kept D) l := by rw [lev_succ, ke]; simp; omega
    rw [show h - 1 + 1 = h by omega] at a1 a4
    rw [a4, a1, a2, a3, Int.sub_self]
    simp
  have h3 := rk_mono (kept D) (i := h) (j := n) b2
  have h4 : rk (kept D) h = rk (kept D) (h - 1) + 1 := by
    have := rk_t ke
    rwa [show h - 1 + 1 = h by omega] at this
  have := scan_stay e2 (by simp) (rk (kept D) n - rk (kept D) h)
  rwa [show rk (kept D) (h - 1) + 1 + (rk (kept D) n - rk (kept D) h) = rk (kept D) n by omega] at this
theorem scan_never (S : Shaped row n) (hD : ∀ q ∈ D, IsP row n q.1 q.2) {l : Nat} (hl : l < n) (hx : row l = (1000, .s x)) (ho : row (l + 1) = opn) (hk : kept D l = true)
    (hev : ∀ j, l + 2 ≤ j → j ≤ n → lev row allK l + 1 ≤ lev row allK j) :
    ∃ v, scan (krows row (kept D) n) x (rk (kept D) n) = ⟨some (rk (kept D) l), v, none⟩ := by
  have n1 := (S.nx l hl (by rw [hx])).1
  have e := scan_on S hD hl hx ho hk (n - (l + 2)) (by omega) (fun j h1 h2 => hev j h1 (by omega))
  rw [show l + 2 + (n - (l + 2)) = n by omega] at e
  exact ⟨_, e⟩
/-- the slice, and what stays beside it -/
theorem kix_filter {p : Nat → Bool} (l h : Nat) : ∀ n, (kix p n).filter (fun j => decide (l ≤ j) && decide (j < h)) = kix (fun j => p j && (decide (l ≤ j) && decide (j < h))) n := by
  intro n
  unfold kix
  rw [List.filter_filter]
  congr 1
  funext j
  rw [Bool.and_comm]
theorem take_rk (p : Nat → Bool) {j n : Nat} (h : j ≤ n) : (kix p n).take (rk p j) = kix p j := by
  obtain ⟨r, hr⟩ := kix_pre p h
  rw [hr]
  unfold rk
  simp
theorem kix_lt {p : Nat → Bool} {i j : Nat} (h : i ∈ kix p j) : i < j := by
  unfold kix at h
  have := (List.mem_filter.mp h).1
  simpa using this
theorem drop_rk (p : Nat → Bool) {j n : Nat} (h : j ≤ n) : (kix p n).drop (rk p j) = (kix p n).filter (fun i => decide (j ≤ i)) := by
  obtain ⟨d, rfl⟩ := Nat.exists_eq_add_of_le h
  clear h
  induction d with
  | zero =>
    rw [Nat.add_zero]
    have e : (kix p j).filter (fun i => decide (j ≤ i)) = [] := by
      rw [List.filter_eq_nil_iff]
      intro i hi
      have := kix_lt hi
      simp; omega
    rw [e]
    unfold rk
    simp
  | succ d ih =>
    rw [← Nat.add_assoc]
    have hm := rk_mono p (i := j) (j := j + d) (by omega)
    unfold rk at hm ih ⊢
    cases hp : p (j + d) with
    | false => rw [kix_f hp]; exact ih
    | true =>
      rw [kix_t hp, List.filter_append, List.drop_append_of_le_length hm, ih]
      simp
theorem kix_cut (p : Nat → Bool) {l h n : Nat} (h1 : l ≤ h) (h2 : h ≤ n) : ((kix p n).take (rk p h)).drop (rk p l) = (kix p n).filter (fun j => decide (l ≤ j) && decide (j < h)) := by
  rw [take_rk p h2, drop_rk p h1]
  obtain ⟨r, hr⟩ := kix_pre p h2
  rw [hr, List.filter_append]
  have e1 : r.filter (fun j => decide (l ≤ j) && decide (j < h)) = [] := by
    have e := drop_rk p h2
    rw [hr] at e
    unfold rk at e
    rw [List.drop_left, List.filter_append] at e
    rw [List.filter_eq_nil_iff]
    intro i hi
    have q : (kix p h).filter (fun i => decide (h ≤ i)) = [] := by
      rw [List.filter_eq_nil_iff]
      intro i hi
      have := kix_lt hi
      simp; omega
    rw [q, List.nil_append] at e
    rw [e] at hi
    have := (List.mem_filter.mp hi).2
    simp at this ⊢
    omega
  rw [e1, List.append_nil]
  refine List.filter_congr fun i hi => ?_
  have := kix_lt hi
  simp [this]
theorem kix_rest (p : Nat → Bool) {l h n : Nat} (h1 : l ≤ h) (h2 : h ≤ n) : (kix p n).take (rk p l) ++ (kix p n).drop (rk p h) = (kix p n).filter (fun j => !(decide (l ≤ j) && decide (j < h))) := by
  rw [take_rk p (Nat.le_trans h1 h2), drop_rk p h2]
  obtain ⟨r, hr⟩ := kix_pre p (j := l) (n := h) h1
  obtain ⟨r2, hr2⟩ := kix_pre p (j := h) (n := n) h2
  have e3 := drop_rk p h1
  have e4 := drop_rk p h2
  have f1 : ∀ i ∈ r, l ≤ i ∧ i < h := by
    intro i hi
    have z : i ∈ kix p h := by rw [hr]; exact List.mem_append_right _ hi
    refine ⟨?_, kix_lt z⟩
    rw [hr] at e3
    unfold rk at e3
    rw [List.drop_left] at e3
    rw [e3] at hi
    simpa using (List.mem_filter.mp hi).2
  have f2 : ∀ i ∈ r2, h ≤ i := by
    intro i hi
    rw [hr2] at e4
    unfold rk at e4
    rw [List.drop_left] at e4
    rw [e4] at hi
    simpa using (List.mem_filter.mp hi).2
  rw [hr2, hr, List.filter_append, List.filter_append, List.filter_append, List.filter_append]
  have g1 : (kix p l).filter (fun i => decide (h ≤ i)) = [] := by
    rw [List.filter_eq_nil_iff]; intro i hi; have := kix_lt hi; simp; omega
  have g2 : r.filter (fun i => decide (h ≤ i)) = [] := by
    rw [List.filter_eq_nil_iff]; intro i hi; have := f1 i hi; simp; omega
  have g3 : r2.filter (fun i => decide (h ≤ i)) = r2 := by
    rw [List.filter_eq_self]; intro i hi; have := f2 i hi; simp; omega
  have g4 : (kix p l).filter (fun j => !(decide (l ≤ j) && decide (j < h))) = kix p l := by
    rw [List.filter_eq_self]; intro i hi; have := kix_lt hi; simp; omega
  have g5 : r.filter (fun j => !(decide (l ≤ j) && decide (j < h))) = [] := by
    rw [List.filter_eq_nil_iff]; intro i hi; have := f1 i hi; simp; omega
  have g6 : r2.filter (fun j => !(decide (l ≤ j) && decide (j < h))) = r2 := by
    rw [List.filter_eq_self]; intro i hi; have := f2 i hi; simp; omega
  rw [g1, g2, g3, g4, g5, g6]
  simp
end
end

/- part MLaw3 -/
section
/-! The plain law: what `_law_pairs` computes, in levels. -/
theorem getD_putD (D : List (Str × Dat)) (x : Str) (d : Dat) (y : Str) : getD (putD D x d) y = if x = y then some d else getD D y := by
  unfold putD getD
  induction D with
  | nil =>
    by_cases h : x = y <;> simp [h]
  | cons kv D ih =>
    by_cases h1 : kv.1 = x
    · have e : (List.any (kv :: D) fun kv => decide (kv.1 = x)) = true := by simp [h1]
      rw [if_pos e, List.map_cons, if_pos h1, List.find?_cons]
      by_cases h2 : x = y
      · simp [h1, h2]
      · have : decide (kv.1 = y) = false := by simp; rw [h1]; exact h2
        simp only [this]
        rw [if_neg h2, List.find?_cons, this]
        congr 1
        clear ih e
        induction D with
        | nil => rfl
        | cons c D ih2 =>
          rw [List.map_cons, List.find?_cons, List.find?_cons]
          by_cases h3 : c.1 = x
          · have : decide (c.1 = y) = false := by simp; rw [h3]; exact h2
            rw [if_pos h3]
            simp only [this]
            exact ih2
          · rw [if_neg h3]
            split
            · rfl
            · exact ih2
    · by_cases h0 : (D.any fun kv => decide (kv.1 = x)) = true
      · have e : (List.any (kv :: D) fun kv => decide (kv.1 = x)) = true := by rw [List.any_cons, h0, Bool.or_true]
        rw [if_pos h0] at ih
        rw [if_pos e, List.map_cons, if_neg h1, List.find?_cons, List.find?_cons]
        by_cases h2 : kv.1 = y
        · have h3 : x ≠ y := fun q => h1 (h2.trans q.symm)
          simp [h2, h3]
        · have : decide (kv.1 = y) = false := by simp [h2]
          simp only [this]
          exact ih
      · have e : ¬ (List.any (kv :: D) fun kv => decide (kv.1 = x)) = true := by
          rw [List.any_cons]; simp only [h1, decide_false, Bool.false_or]; exact h0
        rw [if_neg h0] at ih
        rw [if_neg e, List.cons_append, List.find?_cons, List.find?_cons]
        by_cases h2 : kv.1 = y
        · have h3 : x ≠ y := fun q => h1 (h2.trans q.symm)
          simp [h2, h3]
        · have : decide (kv.1 = y) = false := by simp [h2]
          simp only [this]
          exact ih
theorem getD_nil (x : Str) : getD [] x = none := rfl
inductive Stk (row : Nat → Row) : List Nat → Nat → Prop
  | nil (k : Nat) : Stk row [] k
  | snoc {bs : List Nat} {b k : Nat} : Stk row bs b → b < k → row b = opn → lev row allK k = lev row allK b + 1 →
      (∀ j, b + 1 ≤ j → j ≤ k → lev row allK b + 1 ≤ lev row allK j) → Stk row (bs ++ [b]) k
section
variable {row : Nat → Row}
theorem Stk.up {bs : List Nat} {b k : Nat} (h : Stk row bs b) (hb : b ≤ k) (he : lev row allK k = lev row allK b) (hj : ∀ j, b ≤ j → j ≤ k → lev row allK b ≤ lev row allK j) : Stk row bs k := by
  cases h with
  | nil => exact .nil _
  | snoc h1 h2 h3 h4 h5 =>
    refine .snoc h1 (by omega) h3 (by omega) fun j q1 q2 => ?_
    rcases Nat.lt_or_ge b j with a | a
    · have := hj j (by omega) q2; omega
    · exact h5 j q1 a
theorem Stk.top {bs : List Nat} {b k : Nat} (h : Stk row (bs ++ [b]) k) : Stk row bs b ∧ b < k ∧ row b = opn ∧ lev row allK k = lev row allK b + 1 ∧ ∀ j, b + 1 ≤ j → j ≤ k → lev row allK b + 1 ≤ lev row allK j := by
  generalize e : bs ++ [b] = l at h
  cases h with
  | nil => simp at e
  | snoc h1 h2 h3 h4 h5 =>
    have := List.append_inj' e rfl
    obtain ⟨e1, e2⟩ := this
    cases e2
    subst e1
    exact ⟨h1, h2, h3, h4, h5⟩
theorem Stk.mem {bs : List Nat} {k : Nat} (h : Stk row bs k) : ∀ b ∈ bs, b < k ∧ row b = opn ∧ ∀ j, b + 1 ≤ j → j ≤ k → lev row allK b + 1 ≤ lev row allK j := by
  induction h with
  | nil => intro b hb; cases hb
  | snoc h1 h2 h3 h4 h5 ih =>
    intro c hc
    rcases List.mem_append.mp hc with hc | hc
    · obtain ⟨a1, a2, a3⟩ := ih c hc
      refine ⟨by omega, a2, fun j q1 q2 => ?_⟩
      rename_i b k _
      rcases Nat.lt_or_ge b j with a | a
      · have z1 := h5 j (by omega) q2
        have z2 := a3 b (by omega) (by omega)
        omega
      · exact a3 j q1 a
    · cases hc with
      | head => exact ⟨h2, h3, h5⟩
      | tail _ hc => cases hc
structure PrInv (row : Nat → Row) (n : Nat) (P : Pr) (k : Nat) : Prop where
  stk : Stk row P.begun k
  fine : P.alone = [] → lev row allK k = (P.begun.length : Int) ∧ ∀ j, j ≤ k → 0 ≤ lev row allK j
  bad : P.alone ≠ [] → ∃ c, c < k ∧ row c = clo ∧ lev row allK (c + 1) < 0 ∧ ∀ j, j ≤ c → 0 ≤ lev row allK j
  opened : ∀ x d, getD P.opened x = some d → ∃ o, o < k ∧ 1 ≤ o ∧ row o = opn ∧ row (o - 1) = (1000, .s x) ∧ d = .int ((o : Int) - 1)
  openedr : ∀ x o, o < k → row o = opn → row (o - 1) = (1000, .s x) → getD P.opened x ≠ none
  pairs : ∀ x d, getD P.pairs x = some d → ∃ l h : Nat, h ≤ k ∧ IsP row n l h ∧ row l = (1000, .s x) ∧ d = .tuple [.int l, .int h]
  either : ∀ x o, o < k → row o = opn → row (o - 1) = (1000, .s x) → o ∈ P.begun ∨ getD P.pairs x ≠ none
theorem prInv {rows : List Row} (S : Shaped (rowAt rows) rows.length) : ∀ k, k ≤ rows.length → PrInv (rowAt rows) rows.length (prFold rows k) k := by
  intro k
  induction k with
  | zero =>
    intro _
    refine ⟨.nil _, fun _ => ⟨rfl, fun j hj => ?_⟩, fun h => absurd rfl h, fun x d h => ?_, fun x o h => by omega, fun x d h => ?_, fun x o h => by omega⟩
    · have : j = 0 := by omega
      subst this; exact Int.le_refl _
    · have : getD (prFold rows 0).opened x = none := rfl
      rw [this] at h; cases h
    · have : getD (prFold rows 0).pairs x = none := rfl
      rw [this] at h; cases h
  | succ k ih =>
    intro hk
    have I := ih (by omega)
    rw [prFold_succ]
    generalize prFold rows k = P at I
    obtain ⟨od, pd, al, bg⟩ := P
    obtain ⟨i1, i2, i3, i4, i5, i6, i7⟩ := I
    dsimp only at i1 i2 i3 i4 i5 i6 i7
    unfold prStep
    by_cases h1 : rowAt rows k = opn
    · obtain ⟨k1, x, hx⟩ := S.op k (by omega) h1
      have hl : lev (rowAt rows) allK (k + 1) = lev (rowAt rows) allK k + 1 := by rw [lev_all, h1, del_opn]
      rw [if_pos h1, hx]
      refine ⟨.snoc i1 (by omega) h1 hl ?_, ?_, ?_, ?_, ?_, ?_, ?_⟩
      · intro j q1 q2
        have : j = k + 1 := by omega
        subst this; omega
      · intro ha
        obtain ⟨z1, z2⟩ := i2 ha
        refine ⟨by simp only [List.length_append, List.length_cons, List.length_nil]; omega, fun j hj => ?_⟩
        rcases Nat.lt_or_ge k j with a | a
        · have : j = k + 1 := by omega
          subst this
          have := z2 k (by omega); omega
        · exact z2 j a
      · intro ha
        obtain ⟨c, c1, c2⟩ := i3 ha
        exact ⟨c, by omega, c2⟩
      · intro y d hd
        rw [getD_putD] at hd
        by_cases e : cellStr (Cell.s x) = y
        · rw [if_pos e] at hd
          have e : x = y := e
          subst e
          exact ⟨k, by omega, k1, h1, hx, by injection hd with hd; exact hd.symm⟩
        · rw [if_neg e] at hd
          obtain ⟨o, o1, o2⟩ := i4 y d hd
          exact ⟨o, by omega, o2⟩
      · intro y o ho1 ho2 ho3
        rw [getD_putD]
        by_cases e : cellStr (Cell.s x) = y
        · rw [if_pos e]; exact Option.some_ne_none _
        · rw [if_neg e]
          refine i5 y o ?_ ho2 ho3
          rcases Nat.eq_or_lt_of_le (Nat.le_of_lt_succ ho1) with q | q
          · subst q
            rw [hx] at ho3
            injection ho3 with _ q2
            injection q2 with q2
            exact absurd q2 e
          · exact q
      · intro y d hd
        obtain ⟨l, h, q1, q2⟩ := i6 y d hd
        exact ⟨l, h, by omega, q2⟩
      · intro y o ho1 ho2 ho3
        rcases Nat.eq_or_lt_of_le (Nat.le_of_lt_succ ho1) with q | q
        · subst q; exact .inl (List.mem_append_right _ (.head _))
        · rcases i7 y o q ho2 ho3 with a | a
          · exact .inl (List.mem_append_left _ a)
          · exact .inr a
    · rw [if_neg h1]
      by_cases h2 : rowAt rows k = clo
      · have hl : lev (rowAt rows) allK (k + 1) = lev (rowAt rows) allK k - 1 := by rw [lev_all, h2, del_clo]; omega
        have hno : ∀ o, o < k + 1 → rowAt rows o = opn → o < k := fun o q1 q2 => by
          rcases Nat.eq_or_lt_of_le (Nat.le_of_lt_succ q1) with q | q
          · subst q; exact absurd q2 h1
          · exact q
        rw [if_pos h2]
        rcases List.eq_nil_or_concat bg with hb | ⟨bs, b, hb⟩
        · subst hb
          simp only [List.getLast?_nil]
          refine ⟨.nil _, fun ha => by simp at ha, fun _ => ?_, fun y d hd => ?_, fun y o q1 q2 => i5 y o (hno o q1 q2) q2, fun y d hd => ?_, fun y o q1 q2 q3 => by
            have := i7 y o (hno o q1 q2) q2 q3
            exact this⟩
          · by_cases ha : al = []
            · obtain ⟨z1, z2⟩ := i2 ha
              exact ⟨k, by omega, h2, by simp at z1; omega, z2⟩
            · obtain ⟨c, c1, c2⟩ := i3 ha
              exact ⟨c, by omega, c2⟩
          · obtain ⟨o, o1, o2⟩ := i4 y d hd
            exact ⟨o, by omega, o2⟩
          · obtain ⟨l, h, q1, q2⟩ := i6 y d hd
            exact ⟨l, h, by omega, q2⟩
        · rw [List.concat_eq_append] at hb
          rw [hb] at i1
          obtain ⟨t1, t2, t3, t4, t5⟩ := i1.top
          obtain ⟨b1, x, hx⟩ := S.op b (by omega) t3
          have hg : bg.getLast? = some b := by rw [hb]; simp
          simp only [hg]
          rw [hx]
          have hlb : lev (rowAt rows) allK b = lev (rowAt rows) allK (b - 1) := by
            have := lev_all (rowAt rows) (b - 1)
            rw [show b - 1 + 1 = b by omega, del_1000 (by rw [hx])] at this
            omega
          have hP : IsP (rowAt rows) rows.length (b - 1) (k + 1) := by
            refine ⟨by omega, by omega, by rw [hx], by rw [show b - 1 + 1 = b by omega]; exact t3, by rw [Nat.add_sub_cancel]; exact h2, by omega, fun j q1 q2 => ?_⟩
            have := t5 j (by omega) (by omega)
            omega
          have hdl : bg.dropLast = bs := by rw [hb]; simp
          refine ⟨?_, fun ha => ?_, fun ha => ?_, fun y d hd => ?_, fun y o q1 q2 => i5 y o (hno o q1 q2) q2, fun y d hd => ?_, fun y o q1 q2 q3 => ?_⟩
          · show Stk _ bg.dropLast _
            rw [hdl]
            refine t1.up (by omega) (by omega) fun j q1 q2 => ?_
            rcases Nat.eq_or_lt_of_le q1 with a | a
            · subst a; exact Int.le_refl _
            · rcases Nat.lt_or_ge k j with c | c
              · have : j = k + 1 := by omega
                subst this; omega
              · have := t5 j (by omega) c; omega
          · obtain ⟨z1, z2⟩ := i2 ha
            rw [hb] at z1
            simp only [List.length_append, List.length_cons, List.length_nil] at z1
            refine ⟨?_, fun j hj => ?_⟩
            · show _ = ((bg.dropLast).length : Int)
              rw [hdl]; omega
            · rcases Nat.lt_or_ge k j with a | a
              · have : j = k + 1 := by omega
                subst this; omega
              · exact z2 j a
          · obtain ⟨c, c1, c2⟩ := i3 ha
            exact ⟨c, by omega, c2⟩
          · obtain ⟨o, o1, o2⟩ := i4 y d hd
            exact ⟨o, by omega, o2⟩
          · replace hd : getD (putD pd x _) y = some d := hd
            rw [getD_putD] at hd
            by_cases e : x = y
            · rw [if_pos e] at hd
              subst e
              replace hd := Option.some.inj hd
              refine ⟨b - 1, k + 1, Nat.le_refl _, hP, hx, ?_⟩
              rw [← hd]
              have w1 : ((b - 1 : Nat) : Int) = (b : Int) - 1 := by omega
              have w2 : ((k + 1 : Nat) : Int) = (k : Int) + 1 := by omega
              rw [w1, w2]
            · rw [if_neg e] at hd
              obtain ⟨l, h, w1, w2⟩ := i6 y d hd
              exact ⟨l, h, by omega, w2⟩
          · show o ∈ bg.dropLast ∨ getD (putD pd x _) y ≠ none
            rw [hdl, getD_putD]
            by_cases e : x = y
            · rw [if_pos e]; exact .inr (Option.some_ne_none _)
            · rw [if_neg e]
              rcases i7 y o (hno o q1 q2) q2 q3 with a | a
              · rw [hb] at a
                rcases List.mem_append.mp a with a | a
                · exact .inl a
                · have : o = b := by simpa using a
                  subst this
                  rw [hx] at q3
                  injection q3 with _ q4
                  injection q4 with q4
                  exact absurd q4 e
              · exact .inr a
      · have hl : lev (rowAt rows) allK (k + 1) = lev (rowAt rows) allK k := by rw [lev_all, del_else h1 h2]; omega
        have hno : ∀ o, o < k + 1 → rowAt rows o = opn → o < k := fun o q1 q2 => by
          rcases Nat.eq_or_lt_of_le (Nat.le_of_lt_succ q1) with q | q
          · subst q; exact absurd q2 h1
          · exact q
        rw [if_neg h2]
        refine ⟨i1.up (by omega) hl fun j q1 q2 => ?_, fun ha => ?_, fun ha => ?_, fun y d hd => ?_, fun y o q1 q2 => i5 y o (hno o q1 q2) q2, fun y d hd => ?_, fun y o q1 q2 => i7 y o (hno o q1 q2) q2⟩
        · rcases Nat.eq_or_lt_of_le q1 with a | a
          · subst a; exact Int.le_refl _
          · have : j = k + 1 := by omega
            subst this; omega
        · obtain ⟨z1, z2⟩ := i2 ha
          refine ⟨by rw [hl]; exact z1, fun j hj => ?_⟩
          rcases Nat.lt_or_ge k j with a | a
          · have : j = k + 1 := by omega
            subst this
            have := z2 k (by omega); omega
          · exact z2 j a
        · obtain ⟨c, c1, c2⟩ := i3 ha
          exact ⟨c, by omega, c2⟩
        · obtain ⟨o, o1, o2⟩ := i4 y d hd
          exact ⟨o, by omega, o2⟩
        · obtain ⟨l, h, q1, q2⟩ := i6 y d hd
          exact ⟨l, h, by omega, q2⟩
end
end

/- part MLaw4 -/
section
/-! The plain law: what is drawn is well shaped. -/
theorem rowAt_left {a b : List Row} {j : Nat} (h : j < a.length) : rowAt (a ++ b) j = rowAt a j := by
  unfold rowAt; rw [List.getD_eq_getElem?_getD, List.getD_eq_getElem?_getD, List.getElem?_append_left h]
theorem rowAt_right (a b : List Row) (i : Nat) : rowAt (a ++ b) (a.length + i) = rowAt b i := by
  unfold rowAt; rw [List.getD_eq_getElem?_getD, List.getD_eq_getElem?_getD, List.getElem?_append_right (by omega), Nat.add_sub_cancel_left]
theorem nm_inj {i j : Nat} (hi : i < 4) (hj : j < 4) (h : nm i = nm j) : i = j := by
  have hi' : i = 0 ∨ i = 1 ∨ i = 2 ∨ i = 3 := by omega
  have hj' : j = 0 ∨ j = 1 ∨ j = 2 ∨ j = 3 := by omega
  rcases hi' with rfl | rfl | rfl | rfl <;> rcases hj' with rfl | rfl | rfl | rfl <;> first | rfl | (exfalso; revert h; decide)
theorem ok_name (i : Nat) : rowOk (1000, .s (nm i)) = true := by
  match i with
  | 0 => decide +kernel
  | 1 => decide +kernel
  | 2 => decide +kernel
  | _ + 3 => show rowOk (1000, .s (Str.ofString "LD")) = true; decide +kernel
theorem ok_num (z : Int) : rowOk (1071, .i z) = true := rfl
structure BlF (r : List Row) (m : Nat) : Prop where
  pos : 1 ≤ r.length
  hd : rowAt r 0 = (1001, .s (Str.ofString "APP"))
  m4 : m ≤ 4
  nx : ∀ j, j < r.length → (rowAt r j).1 = 1000 → j + 1 < r.length ∧ (rowAt r (j + 1)).1 ≠ 1000
  op : ∀ j, j < r.length → rowAt r j = opn → 1 ≤ j ∧ ∃ i, i < m ∧ rowAt r (j - 1) = (1000, .s (nm i))
  un : ∀ i j x, i < r.length → j < r.length → rowAt r i = (1000, .s x) → rowAt r j = (1000, .s x) → rowAt r (i + 1) = opn → rowAt r (j + 1) = opn → i = j
  nam : ∀ j, j < r.length → (rowAt r j).1 = 1000 → ∃ i, i < 4 ∧ rowAt r j = (1000, .s (nm i))
  cod : ∀ j, 1 ≤ j → j < r.length → (rowAt r j).1 = 1000 ∨ rowAt r j = opn ∨ rowAt r j = clo ∨ (rowAt r j).1 = 1071
  ok : ∀ q ∈ r, rowOk q = true
theorem BlF.add1 {r : List Row} {m : Nat} {q : Row} (F : BlF r m) (hq : q.1 = 1071 ∨ q = clo) (hok : rowOk q = true) : BlF (r ++ [q]) m := by
  have q1 : q.1 ≠ 1000 := by rcases hq with h | h <;> rw [h] <;> decide
  have q2 : q ≠ opn := by
    rcases hq with h | h
    · rintro rfl; exact absurd h (by decide)
    · rw [h]; exact fun z => opn_ne_clo z.symm
  have hp := F.pos
  have e0 : rowAt (r ++ [q]) r.length = q := rowAt_right r [q] 0
  have el : ∀ j, j < r.length → rowAt (r ++ [q]) j = rowAt r j := fun j h => rowAt_left h
  have hl : (r ++ [q]).length = r.length + 1 := by simp
  have sp : ∀ j, j < r.length + 1 → j < r.length ∨ j = r.length := fun j h => by omega
  refine ⟨by omega, ?_, F.m4, ?_, ?_, ?_, ?_, ?_, ?_⟩
  · rw [el 0 (by omega)]; exact F.hd
  · intro j hj h1
    rw [hl] at hj ⊢
    rcases sp j hj with h | rfl
    · rw [el j h] at h1
      have := F.nx j h h1
      rw [el _ this.1]
      exact ⟨by omega, this.2⟩
    · rw [e0] at h1; exact absurd h1 q1
  · intro j hj h1
    rw [hl] at hj
    rcases sp j hj with h | rfl
    · rw [el j h] at h1
      have := F.op j h h1
      rw [el (j - 1) (by omega)]
      exact this
    · rw [e0] at h1; exact absurd h1 q2
  · intro i j x hi hj h1 h2 h3 h4
    rw [hl] at hi hj
    rcases sp i hi with a | rfl
    · rcases sp j hj with b | rfl
      · rw [el i a] at h1
        rw [el j b] at h2
        rw [el (i + 1) (F.nx i a (by rw [h1])).1] at h3
        rw [el (j + 1) (F.nx j b (by rw [h2])).1] at h4
        exact F.un i j x a b h1 h2 h3 h4
      · rw [e0] at h2; rw [h2] at q1; exact absurd rfl q1
    · rw [e0] at h1; rw [h1] at q1; exact absurd rfl q1
  · intro j hj h1
    rw [hl] at hj
    rcases sp j hj with h | rfl
    · rw [el j h] at h1 ⊢; exact F.nam j h h1
    · rw [e0] at h1; exact absurd h1 q1
  · intro j h0 hj
    rw [hl] at hj
    rcases sp j hj with h | rfl
    · rw [el j h]; exact F.cod j h0 h
    · rw [e0]
      rcases hq with h | h
      · exact .inr (.inr (.inr h))
      · exact .inr (.inr (.inl h))
  · intro p hp
    rcases List.mem_append.mp hp with h | h
    · exact F.ok p h
    · have : p = q := by simpa using h
      rw [this]; exact hok
theorem BlF.add2 {r : List Row} {m m' i : Nat} {q : Row} (F : BlF r m) (hi : i < 4) (hq : (q = opn ∧ i = m ∧ m' = m + 1) ∨ (q.1 = 1071 ∧ m' = m)) (hok : rowOk q = true) : BlF (r ++ [(1000, .s (nm i)), q]) m' := by
  have q1 : q.1 ≠ 1000 := by rcases hq with h | h <;> rw [h.1] <;> decide
  have hp := F.pos
  have m4 := F.m4
  have e0 : rowAt (r ++ [(1000, .s (nm i)), q]) r.length = (1000, .s (nm i)) := rowAt_right r [_, q] 0
  have e1 : rowAt (r ++ [(1000, .s (nm i)), q]) (r.length + 1) = q := rowAt_right r [_, q] 1
  have el : ∀ j, j < r.length → rowAt (r ++ [(1000, .s (nm i)), q]) j = rowAt r j := fun j h => rowAt_left h
  have hl : (r ++ [(1000, Cell.s (nm i)), q]).length = r.length + 2 := by simp
  have sp : ∀ j, j < r.length + 2 → j < r.length ∨ j = r.length ∨ j = r.length + 1 := fun j h => by omega
  have hmm : m ≤ m' := by omega
  have old : ∀ j x, j < r.length → rowAt r j = (1000, .s x) → rowAt r (j + 1) = opn → q = opn → x ≠ nm i := by
    intro j x hj h1 h2 h3
    have h4 := (F.nx j hj (by rw [h1])).1
    obtain ⟨_, k, k1, k2⟩ := F.op (j + 1) h4 h2
    rw [Nat.add_sub_cancel, h1] at k2
    rcases hq with h | h
    · intro e
      injection k2 with _ k3
      injection k3 with k3
      rw [e] at k3
      have := nm_inj hi (by omega) k3
      omega
    · rw [h3] at h; exact absurd h.1 (by decide)
  refine ⟨by omega, ?_, by omega, ?_, ?_, ?_, ?_, ?_, ?_⟩
  · rw [el 0 (by omega)]; exact F.hd
  · intro j hj h1
    rw [hl] at hj ⊢
    rcases sp j hj with h | rfl | rfl
    · rw [el j h] at h1
      have := F.nx j h h1
      rw [el _ this.1]
      exact ⟨by omega, this.2⟩
    · rw [e1]; exact ⟨by omega, q1⟩
    · rw [e1] at h1; exact absurd h1 q1
  · intro j hj h1
    rw [hl] at hj
    rcases sp j hj with h | rfl | rfl
    · rw [el j h] at h1
      obtain ⟨z, k, k1, k2⟩ := F.op j h h1
      rw [el (j - 1) (by omega)]
      exact ⟨z, k, by omega, k2⟩
    · rw [e0] at h1; exact absurd (show (1000 : Int) = 1002 from congrArg Prod.fst h1) (by decide)
    · rw [e1] at h1
      rw [Nat.add_sub_cancel, e0]
      rcases hq with h | h
      · exact ⟨by omega, i, by omega, rfl⟩
      · rw [h1] at h; exact absurd h.1 (by decide)
  · intro a b x ha hb h1 h2 h3 h4
    rw [hl] at ha hb
    rcases sp a ha with u | rfl | rfl
    · rw [el a u] at h1
      rw [el (a + 1) (F.nx a u (by rw [h1])).1] at h3
      rcases sp b hb with v | rfl | rfl
      · rw [el b v] at h2
        rw [el (b + 1) (F.nx b v (by rw [h2])).1] at h4
        exact F.un a b x u v h1 h2 h3 h4
      · rw [e0] at h2
        rw [e1] at h4
        injection h2 with _ h5
        injection h5 with h5
        exact absurd h5.symm (old a x u h1 h3 h4)
      · rw [e1] at h2; rw [h2] at q1; exact absurd rfl q1
    · rcases sp b hb with v | rfl | rfl
      · rw [el b v] at h2
        rw [el (b + 1) (F.nx b v (by rw [h2])).1] at h4
        rw [e0] at h1
        rw [e1] at h3
        injection h1 with _ h5
        injection h5 with h5
        exact absurd h5.symm (old b x v h2 h4 h3)
      · rfl
      · rw [e1] at h2; rw [h2] at q1; exact absurd rfl q1
    · rw [e1] at h1; rw [h1] at q1; exact absurd rfl q1
  · intro j hj h1
    rw [hl] at hj
    rcases sp j hj with h | rfl | rfl
    · rw [el j h] at h1 ⊢; exact F.nam j h h1
    · rw [e0]; exact ⟨i, hi, rfl⟩
    · rw [e1] at h1; exact absurd h1 q1
  · intro j h0 hj
    rw [hl] at hj
    rcases sp j hj with h | rfl | rfl
    · rw [el j h]; exact F.cod j h0 h
    · rw [e0]; exact .inl rfl
    · rw [e1]
      rcases hq with h | h
      · exact .inr (.inl h.1)
      · exact .inr (.inr (.inr h.1))
  · intro p hp
    rcases List.mem_append.mp hp with h | h
    · exact F.ok p h
    · simp only [List.mem_cons, List.not_mem_nil, or_false] at h
      rcases h with rfl | rfl
      · exact ok_name i
      · exact hok
theorem blf_base : BlF [(1001, .s (Str.ofString "APP"))] 0 := by
  refine ⟨Nat.le_refl _, rfl, by omega, ?_, ?_, ?_, ?_, ?_, ?_⟩
  · intro j hj h
    have : j = 0 := by simpa using hj
    subst this; exact absurd h (by decide)
  · intro j hj h
    have : j = 0 := by simpa using hj
    subst this; exact absurd (congrArg Prod.fst h) (by decide)
  · intro i j x hi hj _ _ _ _
    have a : i = 0 := by simpa using hi
    have b : j = 0 := by simpa using hj
    rw [a, b]
  · intro j hj h
    have : j = 0 := by simpa using hj
    subst this; exact absurd h (by decide)
  · intro j h0 hj
    have : j = 0 := by simpa using hj
    omega
  · intro q hq
    have : q = (1001, .s (Str.ofString "APP")) := by simpa using hq
    rw [this]; decide +kernel
theorem blf_init : BlF drInit.rows drInit.many := blf_base.add2 (i := 0) (q := opn) (m' := 1) (by omega) (.inl ⟨rfl, rfl, rfl⟩) ok_open
theorem blf_step {d : Dr} (F : BlF d.rows d.many) (n : Int) : BlF (drStep d n).rows (drStep d n).many := by
  unfold drStep
  split
  · rename_i h
    exact F.add2 h.2 (.inl ⟨rfl, rfl, rfl⟩) ok_open
  · split
    · exact F.add1 (.inr rfl) ok_close
    · split
      · have a := Int.fmod_nonneg_of_pos ((n.fdiv 6).fdiv 2) (b := 4) (by decide)
        have b := Int.fmod_lt_of_pos ((n.fdiv 6).fdiv 2) (b := 4) (by decide)
        exact F.add2 (by omega) (.inr ⟨rfl, rfl⟩) (ok_num _)
      · exact F.add1 (.inl rfl) (ok_num _)
theorem blf_fold (ns : List Int) : ∀ {d : Dr}, BlF d.rows d.many → BlF (ns.foldl drStep d).rows (ns.foldl drStep d).many := by
  induction ns with
  | nil => intro d h; exact h
  | cons n r ih => intro d h; exact ih (blf_step h n)
theorem blf_rep {r : List Row} {m : Nat} (F : BlF r m) : ∀ k, BlF (r ++ List.replicate k clo) m := by
  intro k
  induction k with
  | zero => rw [List.replicate_zero, List.append_nil]; exact F
  | succ k ih => rw [List.replicate_succ', ← List.append_assoc]; exact ih.add1 (.inr rfl) ok_close
theorem blf_drawn (ns : List Int) : ∃ m, BlF (drawn ns) m := by
  unfold drawn drFold
  have F := blf_fold (ns.take 10) blf_init
  split
  · exact ⟨_, blf_rep F _⟩
  · exact ⟨_, F⟩
theorem BlF.shaped {r : List Row} {m : Nat} (F : BlF r m) : Shaped (rowAt r) r.length := by
  refine ⟨F.nx, fun j hj h => ?_, F.un, fun j hj h => ?_⟩
  · obtain ⟨a, i, _, b⟩ := F.op j hj h
    exact ⟨a, _, b⟩
  · rcases Nat.eq_zero_or_pos j with rfl | h0
    · rw [F.hd] at h; exact absurd h (by decide)
    · rcases F.cod j h0 hj with a | a | a | a
      · rw [a] at h; exact absurd h (by decide)
      · exact .inl a
      · exact .inr a
      · rw [a] at h; exact absurd h (by decide)
theorem BlF.well {r : List Row} {m : Nat} (F : BlF r m) : WellOpened r := by
  intro k hk
  rcases Nat.lt_or_ge k r.length with h | h
  · obtain ⟨a, i, _, b⟩ := F.op k h hk
    exact ⟨a, _, _, b⟩
  · unfold rowAt at hk
    rw [List.getD_eq_getElem?_getD, List.getElem?_eq_none h] at hk
    exact absurd (congrArg Prod.fst hk) (by decide)
theorem drawn_len (ns : List Int) : (drawn ns).length ≤ 200 := by
  have z := init_bounds (ns.take 10)
  have l : (ns.take 10).length ≤ 10 := List.length_take_le ..
  unfold drawn drFold
  split
  · simp only [List.length_append, List.length_replicate]; omega
  · omega
end

/- part MLaw5 -/
section
/-! The plain law: one turn; what stays; the check. -/
def ivl (P : Pr) (x : Str) : Option (Nat × Nat) := match getD P.pairs x with
  | some (.tuple [.int l, .int h]) => some (l.toNat, h.toNat)
  | _ => none
def Dof (P : Pr) (xs : List Str) : List (Nat × Nat) := xs.filterMap (ivl P)
def prOf (rows : List Row) : Pr := prFold rows rows.length
theorem prOf_inv {rows : List Row} {m : Nat} (F : BlF rows m) : PrInv (rowAt rows) rows.length (prOf rows) rows.length := prInv F.shaped _ (Nat.le_refl _)
section
variable {rows : List Row} {m : Nat}
theorem ivl_some (F : BlF rows m) {x : Str} {q : Nat × Nat} (h : ivl (prOf rows) x = some q) : IsP (rowAt rows) rows.length q.1 q.2 ∧ rowAt rows q.1 = (1000, .s x) ∧ getD (prOf rows).pairs x = some (.tuple [.int q.1, .int q.2]) := by
  unfold ivl at h
  cases e : getD (prOf rows).pairs x with
  | none => rw [e] at h; cases h
  | some d =>
    obtain ⟨l, k, _, h2, h3, rfl⟩ := (prOf_inv F).pairs x d e
    rw [e] at h
    have : q = (l, k) := by simpa using h.symm
    subst this
    exact ⟨h2, h3, rfl⟩
theorem ivl_none (F : BlF rows m) {x : Str} (h : ivl (prOf rows) x = none) : getD (prOf rows).pairs x = none := by
  unfold ivl at h
  cases e : getD (prOf rows).pairs x with
  | none => rfl
  | some d =>
    obtain ⟨l, k, _, h2, h3, rfl⟩ := (prOf_inv F).pairs x d e
    rw [e] at h
    simp at h
theorem Dof_isP (F : BlF rows m) (xs : List Str) : ∀ q ∈ Dof (prOf rows) xs, IsP (rowAt rows) rows.length q.1 q.2 := by
  intro q hq
  obtain ⟨x, _, hx⟩ := List.mem_filterMap.mp hq
  exact (ivl_some F hx).1
theorem kept_Dof {P : Pr} {xs : List Str} {j : Nat} : kept (Dof P xs) j = true ↔ ∀ x ∈ xs, ∀ q, ivl P x = some q → ¬ (q.1 ≤ j ∧ j < q.2) := by
  rw [kept_iff]
  unfold Dof
  constructor
  · intro h x hx q hq
    exact h q (List.mem_filterMap.mpr ⟨x, hx, hq⟩)
  · intro h q hq
    obtain ⟨x, hx, e⟩ := List.mem_filterMap.mp hq
    exact h x hx q e
theorem kept_more {P : Pr} {xs ys : List Str} (h : ∀ x, ivl P x ≠ none → (x ∈ xs ↔ x ∈ ys)) : kept (Dof P xs) = kept (Dof P ys) := by
  funext j
  rw [Bool.eq_iff_iff, kept_Dof, kept_Dof]
  constructor
  · intro a x hx q hq
    exact a x ((h x (by rw [hq]; exact Option.some_ne_none _)).mpr hx) q hq
  · intro a x hx q hq
    exact a x ((h x (by rw [hq]; exact Option.some_ne_none _)).mp hx) q hq
theorem getD_key {D : List (Str × Dat)} {x : Str} : getD D x ≠ none ↔ x ∈ D.map Prod.fst := by
  unfold getD
  rw [ne_eq, Option.map_eq_none_iff, List.find?_eq_none]
  simp only [List.mem_map, decide_eq_true_eq]
  constructor
  · intro h
    apply Classical.byContradiction
    intro hc
    exact h fun y hy he => hc ⟨y, hy, he⟩
  · rintro ⟨y, hy, he⟩ h
    exact h y hy he
theorem name_of (F : BlF rows m) {x : Str} (h : ivl (prOf rows) x ≠ none) : ∃ i, i < 4 ∧ x = nm i := by
  cases e : ivl (prOf rows) x with
  | none => exact absurd e h
  | some q =>
    obtain ⟨P, hx, _⟩ := ivl_some F e
    have b1 := P.lt
    have b2 := P.hn
    obtain ⟨i, hi, hr⟩ := F.nam q.1 (by omega) (by rw [hx])
    rw [hx] at hr
    injection hr with _ hr
    injection hr with hr
    exact ⟨i, hi, hr⟩
/-- behind the four turns just what lies in no pair is left -/
theorem kept_all (F : BlF rows m) {xs : List Str} (hx : ∀ i, i < 4 → nm i ∈ xs) : kept (Dof (prOf rows) xs) = kept (Dof (prOf rows) ((prOf rows).pairs.map Prod.fst)) := by
  refine kept_more fun x h => ?_
  obtain ⟨i, hi, rfl⟩ := name_of F h
  refine ⟨fun _ => getD_key.mp fun e => h ?_, fun _ => hx i hi⟩
  unfold ivl
  rw [e]
theorem mem_kix {p : Nat → Bool} {j n : Nat} : j ∈ kix p n ↔ j < n ∧ p j = true := by
  unfold kix
  rw [List.mem_filter, List.mem_range]
inductive Turn (rows : List Row) (xs : List Str) (x : Str) : Prop
  | gone : (getD (prOf rows).opened x = none ∨ ∃ l : Nat, getD (prOf rows).opened x = some (.int l) ∧ l ∉ kix (kept (Dof (prOf rows) xs)) rows.length) →
      scan (krows (rowAt rows) (kept (Dof (prOf rows) xs)) rows.length) x (rk (kept (Dof (prOf rows) xs)) rows.length) = ⟨none, 0, none⟩ →
      kept (Dof (prOf rows) (x :: xs)) = kept (Dof (prOf rows) xs) → Turn rows xs x
  | told (l h : Nat) : getD (prOf rows).opened x = some (.int l) → l ∈ kix (kept (Dof (prOf rows) xs)) rows.length → getD (prOf rows).pairs x = some (.tuple [.int l, .int h]) → l ≤ h → h ≤ rows.length →
      scan (krows (rowAt rows) (kept (Dof (prOf rows) xs)) rows.length) x (rk (kept (Dof (prOf rows) xs)) rows.length) = ⟨some (rk (kept (Dof (prOf rows) xs)) l), 0, some (rk (kept (Dof (prOf rows) xs)) (h - 1))⟩ →
      rk (kept (Dof (prOf rows) xs)) (h - 1) + 1 = rk (kept (Dof (prOf rows) xs)) h →
      kept (Dof (prOf rows) (x :: xs)) = (fun j => kept (Dof (prOf rows) xs) j && !(decide (l ≤ j) && decide (j < h))) → Turn rows xs x
  | never (l : Nat) (v : Int) : getD (prOf rows).opened x = some (.int l) → l ∈ kix (kept (Dof (prOf rows) xs)) rows.length → getD (prOf rows).pairs x = none →
      scan (krows (rowAt rows) (kept (Dof (prOf rows) xs)) rows.length) x (rk (kept (Dof (prOf rows) xs)) rows.length) = ⟨some (rk (kept (Dof (prOf rows) xs)) l), v, none⟩ →
      kept (Dof (prOf rows) (x :: xs)) = kept (Dof (prOf rows) xs) → Turn rows xs x
theorem Dof_none {P : Pr} {xs : List Str} {x : Str} (h : ivl P x = none) : Dof P (x :: xs) = Dof P xs := by unfold Dof; rw [List.filterMap_cons, h]
theorem Dof_some {P : Pr} {xs : List Str} {x : Str} {q : Nat × Nat} (h : ivl P x = some q) : Dof P (x :: xs) = q :: Dof P xs := by unfold Dof; rw [List.filterMap_cons, h]
theorem turn (F : BlF rows m) (xs : List Str) (x : Str) : Turn rows xs x := by
  have I := prOf_inv F
  have S := F.shaped
  have hD := Dof_isP F xs
  cases eo : getD (prOf rows).opened x with
  | none =>
    have hn : ∀ i, i < rows.length → rowAt rows i = (1000, .s x) → rowAt rows (i + 1) = opn → False := fun i hi h1 h2 =>
      I.openedr x (i + 1) (S.nx i hi (by rw [h1])).1 h2 (by rw [Nat.add_sub_cancel]; exact h1) eo
    refine .gone (.inl eo) (scan_none S hD _ (Nat.le_refl _) fun i hi h1 h2 => (hn i hi h1 h2).elim) ?_
    cases ei : ivl (prOf rows) x with
    | none => rw [Dof_none ei]
    | some q =>
      obtain ⟨P, hx, _⟩ := ivl_some F ei
      have b1 := P.lt
      have b2 := P.hn
      exact (hn q.1 (by omega) hx P.op).elim
  | some d =>
    obtain ⟨o, o1, o2, o3, o4, rfl⟩ := I.opened x d eo
    obtain ⟨l, rfl⟩ : ∃ l, o = l + 1 := ⟨o - 1, by omega⟩
    rw [Nat.add_sub_cancel] at o4
    have el : (((l + 1 : Nat) : Int) - 1) = (l : Int) := by omega
    rw [el] at eo
    have hun : ∀ i, i < rows.length → rowAt rows i = (1000, .s x) → rowAt rows (i + 1) = opn → i = l := fun i hi h1 h2 => S.un i l x hi (by omega) h1 o4 h2 o3
    cases hk : kept (Dof (prOf rows) xs) l with
    | false =>
      refine .gone (.inr ⟨l, eo, fun hc => by rw [(mem_kix.mp hc).2] at hk; cases hk⟩) (scan_none S hD _ (Nat.le_refl _) fun i hi h1 h2 => by rw [hun i hi h1 h2]; exact hk) ?_
      cases ei : ivl (prOf rows) x with
      | none => rw [Dof_none ei]
      | some q =>
        obtain ⟨P, hx, _⟩ := ivl_some F ei
        have b1 := P.lt
        have b2 := P.hn
        have := hun q.1 (by omega) hx P.op
        rw [Dof_some ei, show q = (q.1, q.2) from rfl]
        exact kept_same hD P (this ▸ hk)
    | true =>
      have hm : l ∈ kix (kept (Dof (prOf rows) xs)) rows.length := mem_kix.mpr ⟨by omega, hk⟩
      cases ei : ivl (prOf rows) x with
      | none =>
        have en := ivl_none F ei
        obtain ⟨v, hv⟩ := scan_never S hD (by omega) o4 o3 hk fun j h1 h2 => by
          rcases I.either x (l + 1) o1 o3 (by rw [Nat.add_sub_cancel]; exact o4) with a | a
          · have := (I.stk.mem _ a).2.2 j (by omega) h2
            have e := lev_all (rowAt rows) l
            rw [del_1000 (by rw [o4])] at e
            omega
          · exact absurd en a
        exact .never l v eo hm en hv (by rw [Dof_none ei])
      | some q =>
        obtain ⟨P, hx, hp⟩ := ivl_some F ei
        have b1 := P.lt
        have b2 := P.hn
        have := hun q.1 (by omega) hx P.op
        subst this
        refine .told q.1 q.2 eo hm hp (by omega) b2 (scan_found S hD P hx hk) ?_ (by rw [Dof_some ei, kept_cons])
        have := rk_t (kept_end hD P hk)
        rw [show q.2 - 1 + 1 = q.2 by omega] at this
        exact this.symm
/-! The check. -/
def vStep (v : Option Int) (r : Row) : Option Int := match v with
  | none => none
  | some v => if v + del r < 0 then none else some (v + del r)
def vRun (rs : List Row) : Option Int := rs.foldl vStep (some 0)
theorem krows_t {row : Nat → Row} {p : Nat → Bool} {j : Nat} (h : p j = true) : krows row p (j + 1) = krows row p j ++ [row j] := by unfold krows; rw [kix_t h, List.map_append]; rfl
theorem krows_f {row : Nat → Row} {p : Nat → Bool} {j : Nat} (h : p j = false) : krows row p (j + 1) = krows row p j := by unfold krows; rw [kix_f h]
theorem vRun_snoc (rs : List Row) (r : Row) : vRun (rs ++ [r]) = vStep (vRun rs) r := by unfold vRun; rw [List.foldl_append]; rfl
theorem vRun_lev {row : Nat → Row} {n : Nat} {D : List (Nat × Nat)} (hD : ∀ q ∈ D, IsP row n q.1 q.2) : ∀ j, (∀ i, i ≤ j → 0 ≤ lev row allK i) → vRun (krows row (kept D) j) = some (lev row (kept D) j) := by
  intro j
  induction j with
  | zero => intro _; rfl
  | succ j ih =>
    intro h
    have e := ih fun i hi => h i (by omega)
    cases hk : kept D j with
    | false => rw [krows_f hk, e, lev_succ, hk]; simp
    | true =>
      rw [krows_t hk, vRun_snoc, e]
      have a := lev_kept hD (ok_kept1 hk)
      have b := h (j + 1) (Nat.le_refl _)
      have c : lev row (kept D) (j + 1) = lev row (kept D) j + del (row j) := by rw [lev_succ, hk]; simp
      show (if _ + del (row j) < 0 then none else some (_ + del (row j))) = _
      rw [← c, if_neg (by omega)]
theorem vRun_stay {row : Nat → Row} {p : Nat → Bool} {j : Nat} (h : vRun (krows row p j) = none) : ∀ d, vRun (krows row p (j + d)) = none := by
  intro d
  induction d with
  | zero => exact h
  | succ d ih =>
    rw [← Nat.add_assoc]
    cases hk : p (j + d) with
    | false => rw [krows_f hk]; exact ih
    | true => rw [krows_t hk, vRun_snoc, ih]; rfl
theorem check_law (F : BlF rows m) (xs : List Str) : vRun (krows (rowAt rows) (kept (Dof (prOf rows) xs)) rows.length) = some 0 ↔ (prOf rows).alone ++ (prOf rows).begun = [] := by
  have I := prOf_inv F
  have hD := Dof_isP F xs
  by_cases ha : (prOf rows).alone = []
  · obtain ⟨h1, h2⟩ := I.fine ha
    rw [vRun_lev hD _ h2, lev_kept hD (j := rows.length) (fun q hq hc => by have := (hD q hq).hn; omega), h1, ha, List.nil_append]
    constructor
    · intro h
      have h := Option.some.inj h
      exact List.eq_nil_of_length_eq_zero (by omega)
    · intro h; rw [h]; rfl
  · obtain ⟨c, c1, c2, c3, c4⟩ := I.bad ha
    have hk : kept (Dof (prOf rows) xs) c = true := by
      rw [kept_iff]
      intro q hq hc
      have P := hD q hq
      have z1 := P.en
      have z2 := c4 q.1 hc.1
      rcases Nat.eq_or_lt_of_le (show c + 1 ≤ q.2 by omega) with e | e
      · rw [← e] at z1; omega
      · rcases Nat.eq_or_lt_of_le hc.1 with e2 | e2
        · have := P.nm
          rw [e2, c2] at this
          exact absurd this (by decide)
        · have := P.ins (c + 1) (by omega) e
          omega
    have e1 := vRun_lev hD c fun i hi => c4 i hi
    have e2 : vRun (krows (rowAt rows) (kept (Dof (prOf rows) xs)) (c + 1)) = none := by
      rw [krows_t hk, vRun_snoc, e1]
      have a := lev_kept hD (ok_kept1 hk)
      have b : lev (rowAt rows) (kept (Dof (prOf rows) xs)) (c + 1) = lev (rowAt rows) (kept (Dof (prOf rows) xs)) c + del (rowAt rows c) := by rw [lev_succ, hk]; simp
      show (if _ + del (rowAt rows c) < 0 then none else some _) = _
      rw [← b, if_pos (by omega)]
    have e3 := vRun_stay e2 (rows.length - (c + 1))
    rw [show c + 1 + (rows.length - (c + 1)) = rows.length by omega] at e3
    rw [e3]
    constructor
    · intro h; cases h
    · intro h
      exact absurd (List.append_eq_nil_iff.mp h).1 ha
theorem krows_all (rows : List Row) : krows (rowAt rows) (kept []) rows.length = rows := by
  have e : kept [] = fun _ => true := by funext j; rfl
  unfold krows kix
  rw [e, List.filter_eq_self.mpr (fun _ _ => rfl)]
  refine List.ext_getElem (by simp) fun i h1 h2 => ?_
  simp only [List.getElem_map, List.getElem_range]
  unfold rowAt
  rw [List.getD_eq_getElem?_getD, List.getElem?_eq_getElem h2]
  rfl
end
end

/- part MEq -/
end
theorem fresh_MEq : True ∧ True := by
  w_top off
  first
    | (walk1; done)
    | exact ⟨True.intro, True.intro⟩
section
local macro_rules | `(tactic| walk_at "getAttr ref") => `(tactic| (k_here; k_dflt (refine' get_propR ?k1 ?k2 ?k3 ?k4 ?k5 ?k6 ?k7 ?k8 ?k9 ?_; (case k1 => k_asm); (case k2 => k_asm); (case k3 => k_inst); (case k4 => k_is); (case k5 => k_is); (case k6 => k_is); (case k7 => k_is); (case k8 => k_is); (case k9 => k_is); k_whole; k_enter)))
local macro_rules | `(tactic| walk_at "handedOut") => `(tactic| (refine handed_on (by with_reducible assumption) ?_))
section
/-- a row as a tuple that lies in the base or on the ledger -/
def RowV (h₀ : Heap) (news : List (Addr × Obj)) (b : Addr) (r : Row) : Prop := ReadsVia h₀ news (.ref b) (kqdP (rowDat r))
theorem reads_cell {h : Heap} {l : List (Addr × Obj)} {u : Value} {c : Cell} (hd : DatIn l u c.dat) : ∃ as, Reads h u (kqdP c.dat) as := by
  cases c with
  | s x => cases hd; exact ⟨_, Reads.str _ _⟩
  | i x => cases hd; exact ⟨_, Reads.int _ _⟩
theorem reads_row {h : Heap} {t : Addr} {n : Nat} {c : Int} {tk : Tok} {u : Value} {cell : Cell} {l : List (Addr × Obj)} (ht : h.get? t = some ({ cls := .type "tuple", data := .seq [Value.int c tk, u].toArray n } : Obj)) (hd : DatIn l u cell.dat) : ∃ as, Reads h (.ref t) (kqdP (rowDat (c, cell))) as := by
  obtain ⟨as, ha⟩ := reads_cell (h := h) hd
  have e : kqdP (rowDat (c, cell)) = .tuple [.int c, kqdP cell.dat] := by simp [rowDat, kqdP, kqdPs]
  rw [e]
  exact ⟨_, Reads.tuple ht rfl rfl (ReadsAll.cons (Reads.int c tk) (ReadsAll.cons ha ReadsAll.nil))⟩
theorem RowV.new {h₀ : Heap} {news : List (Addr × Obj)} {t : Addr} {n : Nat} {c : Int} {tk : Tok} {u : Value} {cell : Cell} {l : List (Addr × Obj)} (ht : (t, ({ cls := .type "tuple", data := .seq [Value.int c tk, u].toArray n } : Obj)) ∈ news) (hd : DatIn l u cell.dat) : RowV h₀ news t (c, cell) :=
  fun _ _ hn => reads_row (hn _ ht) hd
theorem RowV.old {K : Frag} {h₀ : Heap} {news : List (Addr × Obj)} {t : Addr} {n : Nat} {c : Int} {tk : Tok} {u : Value} {cell : Cell} {l : List (Addr × Obj)} (X : K.In h₀) (ht : K.lookup t = some ({ cls := .type "tuple", data := .seq [Value.int c tk, u].toArray n } : Obj)) (hd : DatIn l u cell.dat) : RowV h₀ news t (c, cell) :=
  fun _ hk _ => reads_row (hk _ _ (X _ _ ht)) hd
theorem RowV.up {h₀ g : Heap} {news news' : List (Addr × Obj)} {b : Addr} {r : Row} (h : RowV h₀ news b r) (hk : ∀ b o, h₀.get? b = some o → g.get? b = some o) (hs : ∀ p ∈ news, p ∈ news') : RowV g news' b r :=
  fun h' hk' hn' => h h' (fun b o e => hk' b o (hk b o e)) fun p hp => hn' p (hs p hp)
theorem RowV.isTuple {M : Model} {h₀ h : Heap} {L : Addr} {m : Str → Option Value} {news : List (Addr × Obj)} {b : Addr} {r : Row} (hb : RowV h₀ news b r) (F : Fr h₀ L h m) (N : News h₀ L h news) : Looks M h (typeOf (.ref b)) (.type "tuple") := by
  obtain ⟨as, ra⟩ := ReadsVia.at hb F N
  have e : kqdP (rowDat r) = .tuple [.int r.1, kqdP r.2.dat] := by simp [rowDat, kqdP, kqdPs]
  rw [e] at ra
  cases ra with
  | tuple ho hc _ _ =>
    have := (Looks.ld (M := M) (part := none) ho).andThen (Looks.now (M := M))
    rw [← hc]
    exact (Looks.ld ho).andThen .now
theorem dxf_eq {prog : Program} {w : World} {A : Around} {E : Value → Shared → Prop} {s : Shared} {L : Addr} {h₀ : Heap} {m : Str → Option Value} {news l fz : List (Addr × Obj)} {Q : Value → Shared → Prop} {c : Int} {tk : Tok} {v : Value} {cell : Cell} {r2 : Row} {t b : Addr} {n : Nat} (F : Fr h₀ L s.heap m) (N : News h₀ L s.heap news)
    (ht : (t, ({ cls := .type "tuple", data := .seq [Value.int c tk, v].toArray n } : Obj)) ∈ news) (hd : DatIn l v cell.dat) (hb : RowV h₀ fz b r2) (hfz : ∀ p ∈ fz, p ∈ news) (ok1 : rowOk (c, cell) = true) (ok2 : rowOk r2 = true) (hu : A.units + 64 < cLine)
    (h : Q (.bool (decide ((c, cell) = r2))) s) : wpAny (model prog w) A (compareOp .Eq (.ref t) (.ref b)) Q E s := by
  obtain ⟨as, ra⟩ := reads_row (h := s.heap) (N _ ht).1 hd
  obtain ⟨bs, rb⟩ := ReadsVia.at (hb.up (fun _ _ e => e) hfz) F N
  have la := kqd_lay 8 _ ok1
  have lb := kqd_lay 8 _ ok2
  refine eq_dataH ra rb ?_ ?_ hu ?_
  · unfold SeqAt.shaped; rw [la.1, Bool.true_and]; exact decide_eq_true (Nat.le_trans la.2 (by decide))
  · unfold SeqAt.shaped; rw [lb.1, Bool.true_and]; exact decide_eq_true (Nat.le_trans lb.2 (by decide))
  by_cases e : (c, cell) = r2
  · subst e
    rw [(dat_eqv ok1 ok1).1 rfl]
    simpa using h
  · rw [(dat_eqv ok1 ok2).2 fun z => e (rowDat_inj z)]
    simpa [e] using h
local macro_rules | `(tactic| walk_at "compareOp Eq ref ref") => `(tactic| (k_here; k_dflt (refine' dxf_eq ?F ?N ?t ?hd ?hb ?s ?o1 ?o2 ?u ?_; (case F => k_asm); (case N => k_asm); (case t => exact List.Mem.head _); (case hd => with_reducible assumption); (case hb => with_reducible assumption); (case o1 => with_reducible assumption); (case o2 => with_reducible assumption); (case s => (intro p hp; repeat (first | exact hp | exact List.mem_append_right _ hp | refine List.Mem.tail _ ?_))); (case u => k_units); k_whole)))
set_option pp.deepTerms false
set_option pp.deepTerms.threshold 4
set_option maxHeartbeats 800000 in
theorem dxfeq_spec {w : World} {A A₀ : Around} {s : Shared} {base h₀ : Heap} {outer : List Env} {env : Env} {L : Addr} {m mg mb : Str → Option Value} {p₀ : Program} {loose : List Str} {news : List (Addr × Obj)} {E : Value → Shared → Prop} {Q : Value → Shared → Prop} {c : Int} {tk : Tok} {x dx b : Addr} {v : Value} {cell : Cell} {r2 : Row} {l : List (Addr × Obj)} (hv : handedIn v = true) (cx : Cx w A A₀ base h₀ outer env L mg mb p₀ loose) (F : Fr h₀ L s.heap m) (N : News h₀ L s.heap news) (hr : A.depth + 20 < recursionLimit) (hu : A.units + 300 < cLine)
    (h1 : (x, tagObj dx c tk v) ∈ news) (h2 : (dx, dictOf [] 0) ∈ news) (hd : DatIn l v cell.dat) (hb : RowV h₀ news b r2) (ok1 : rowOk (c, cell) = true) (ok2 : rowOk r2 = true)
    (h : ∀ h' tk', Fr h₀ L h' m → News h₀ L h' news → Q (.bool (decide ((c, cell) = r2))) { s with heap := h', toks := tk' }) :
    wpAny (model Challenge.rw_fy0015_01.row.toRowW.1 w) A (call (.ref 88) [.ref x, .ref b]) Q E s := by
  obtain ⟨B, X₀, T, hh, hA, hf, hk⟩ := cx
  revert X₀
  k_fill
  intro X₀
  obtain ⟨_, _, _, _, _⟩ := A
  obtain ⟨⟨_, _, _, _, _⟩, _, _, _, _, _, _, _, _⟩ := env
  dsimp only at hA hf hk hh hr hu
  subst hA hf hk hh
  refine wpAny_call ?_
  k_enter
  rename_i g1 L1 h1' FG1 F1 N1 B1 X1 T1 l1 hlt1
  have hb1 : RowV g1 news b r2 := hb.up FG1.keep fun _ hp => hp
  k_steps
  first
    | exact h _ _ (by assumption) (by assumption)
    | exact h _ _ (by assumption) (news_sub (l := _ :: news) (by assumption) (fun p hp => List.Mem.tail _ hp))
end

/- part MMake -/
section
/-! Making an object of a list subclass (the library has this for object alone). -/
namespace LF
theorem nsplit : splitId "list.__new__" = some ("list", "__new__") := by decide +kernel
theorem nkind : builtinKind "list.__new__" = some .builtinFn := by decide +kernel
theorem nrow : Manifest.signature? "list.__new__" = some ⟨.any, "list", "list", .cls, [⟨"args", .varPos, false⟩, ⟨"kwargs", .varKw, false⟩]⟩ := by kernel_rfl
theorem nquiet : ("list.__new__" : String).startsWith "lifetime." = false := by decide +kernel
theorem nargs (a b : Value) : Bind.checkArgs "list.__new__" ⟨.any, "list", "list", .cls, [⟨"args", .varPos, false⟩, ⟨"kwargs", .varKw, false⟩]⟩ ⟨[a, b], []⟩ = pure () := by kernel_rfl
end LF
def makesInL (K : Frag) (C : Addr) : Bool := match K.lookup C with
  | some ⟨_, _, .cls cd, sl⟩ => !cd.abstract && !cd.hasDel && (sl.toList[4]?).join == some (.builtin "list.__new__") && !cd.mro.isEmpty && cd.mro.contains (.ref C) && cd.mro.contains (.type "list") &&
      specialIn K (.ref C) "__call__" == some (some (.builtin "type.__call__")) && instIn K (.ref C) (.type "type") == some true
  | _ => false
structure MakesL (M : Model) (h : Heap) (C : Addr) : Prop where
  obj : ∃ oc od cd sl, h.get? C = some ⟨oc, od, .cls cd, sl⟩ ∧ cd.abstract = false ∧ cd.hasDel = false ∧ cd.mro.isEmpty = false
  made : Looks M h (Bind.madeBy (.ref C)) (some "list.__new__")
  base : Looks M h (Bind.staticBase (.ref C)) (.ref C)
  self : Looks M h (isSubtype (.ref C) (.ref C)) true
  top : Looks M h (isSubtype (.ref C) (.type "list")) true
  call : Looks M h (specialOf (.ref C) "__call__") (some (.builtin "type.__call__"))
  typ : Looks M h (isInstance (.ref C) (.type "type")) true
theorem makesL_of {K : Frag} {M : Model} {h : Heap} (X : K.In h) {C : Addr} (e : makesInL K C = true) : MakesL M h C := by
  unfold makesInL at e
  split at e
  · rename_i oc od cd sl ho
    simp only [Bool.and_eq_true, Bool.not_eq_true', beq_iff_eq] at e
    obtain ⟨⟨⟨⟨⟨⟨⟨e1, e2⟩, e3⟩, e4⟩, e5⟩, e6⟩, e7⟩, e8⟩ := e
    have hc : clsIn K C = some cd := by unfold clsIn; rw [ho]
    have hm : Looks M h (mroOf (.ref C)) cd.mro := (looks_clsIn X hc).andThen .now
    obtain ⟨c, l, hl⟩ : ∃ c l, cd.mro = c :: l := by cases q : cd.mro with | nil => rw [q] at e4; cases e4 | cons c l => exact ⟨c, l, rfl⟩
    have made : Looks M h (Bind.madeBy (.ref C)) (some "list.__new__") := by
      intro A Q E s k q
      unfold Bind.madeBy
      refine wpAny_bind (hm A _ E s k ?_)
      rw [hl, List.forIn_cons]
      refine wpAny_bind (wpAny_bind (wpAny_bind (wpAny_bind (wpAny_loadPart (k _ _ (X _ _ ho)) (wpAny_pure ?_)))))
      dsimp only
      rw [← Array.getElem?_toList, e3]
      exact wpAny_pure (wpAny_pure (wpAny_pure q))
    refine ⟨⟨oc, od, cd, sl, X _ _ ho, e1, e2, e4⟩, made, ?_, looks_mroIn X ?_, looks_mroIn X ?_, looks_specialIn X e7, looks_instIn X e8⟩
    · intro A Q E s k q
      unfold Bind.staticBase
      refine wpAny_bind (hm A _ E s k ?_)
      rw [hl, List.forIn_cons]
      exact wpAny_bind (wpAny_bind (wpAny_bind (made A _ E s k (wpAny_pure (wpAny_pure (wpAny_pure q))))))
    · unfold mroIn; rw [hc, Option.bind_some, if_neg (by rw [e4]; decide), e5]
    · unfold mroIn; rw [hc, Option.bind_some, if_neg (by rw [e4]; decide), e6]
  · cases e
abbrev lstObj (C dx : Addr) (xs : Array Value) (n : Nat := 0) : Obj := { cls := .ref C, dict := some dx, data := .seq xs n }
section
variable {prog : Program} {w : World} {A : Around} {K : Frag} {C : Addr} {R : Result → Shared → Prop} {h : Heap} {g : Array GenState} {d : Drawn} {t : Nat} {os : OsState}
theorem new_KL {a : Value} (Y : MakesL (model prog w) h C)
    (hq : R (.ok (.ret (.ref (h.objs.size + 1)))) ⟨(h.push emptyDict).push (lstObj C h.objs.size #[]), g, d, t, os⟩) :
    codeAny (model prog w) A (.call (.builtin "list.__new__") ⟨[.ref C, a], []⟩) R ⟨h, g, d, t, os⟩ := by
  obtain ⟨⟨oc, od, cd, sl, hC, e1, e2, e4⟩, made, base, self, top, call, typ⟩ := Y
  refine codeAny_call_builtin_code (Code.quiet_builtin _ LF.nquiet) ?_
  simp only [checkBuiltinCall, LF.nkind, LF.nsplit, LF.nrow]
  rw [LF.nargs]
  repeat (first | simp only [bne_self_eq_false, Bool.false_eq_true, if_false] | lk)
  refine codeAny_builtin_stack F.entry_list_new rfl fun p st => ?_
  rw [Around.under_plainId F.plain_list_new _]
  have hown := owner_list_new
  simp only [hown]
  have hC' := Heap.get?_push_of_some (lstObj C (h.push emptyDict).objs.size.pred #[]) (Heap.get?_push_of_some emptyDict hC)
  repeat (first | simp only [bne_self_eq_false, Bool.false_eq_true, if_false] | lk)
  refine wpAny_load (Heap.get?_push_of_some _ (Heap.get?_push_of_some _ hC)) (wpAny_pure ?_)
  rw [e2]
  refine wpAny_pure (wpAny_pure ?_)
  show R _ _
  rw [Heap.size_push]
  exact hq
theorem make_coreL {a : Value} {init : Value} (Y : MakesL (model prog w) h C) (hi : Looks (model prog w) h (typeLookup (.ref C) "__init__") (some init))
    (hb : ∀ self, Looks (model prog w) h (bindSpecial init self) (init, [self]))
    (hq : codeAny (model prog w) (A.under (.builtin "type.__call__" ⟨[.ref C, a], []⟩)) (.call init ⟨[.ref (h.objs.size + 1), a], []⟩) (InitBack (h.objs.size + 1) R) ⟨(h.push emptyDict).push (lstObj C h.objs.size #[]), g, d, t, os⟩) :
    codeAny (model prog w) A (.call (.ref C) ⟨[a], []⟩) R ⟨h, g, d, t, os⟩ := by
  have Y' := Y
  obtain ⟨⟨oc, od, cd, sl, hC, e1, e2, e4⟩, made, base, self, top, call, typ⟩ := Y
  refine codeAny_of_tree ?_
  show wpAny _ _ (callAny (.ref C) _) _ _ _
  refine nd_load hC ?_
  show wpAny _ _ (callAny.viaDunder (.ref C) _) _ _ _
  unfold callAny.viaDunder
  refine wpAny_bind (call.at ?_)
  dsimp only
  rw [tc_bind]
  refine wpAny_bind (wpAny_pure (wpAny_bind (wpAny_pure ?_)))
  refine wpAny_pure (a := Fin.again (.call (.builtin "type.__call__") ⟨[.ref C, a], []⟩)) (And.intro rfl ?_)
  refine codeAny_call_builtin_at (Code.quiet_builtin _ (by decide +kernel)) entry_typeCall (check_slot tc_kind tc_split typ (tc_args _ _ _) ?_)
  unfold Builtin.«type.__call__»
  have hm : Looks (model prog w) h (mroOf (.ref C)) cd.mro := ((Looks.ld (part := none) hC).andThen .now).andThen .now
  repeat (first | simp only [e4, Bool.false_eq_true, if_false] | with_reducible refine wpAny_call ?_ | lk)
  refine new_KL Y' ?_
  have k : ∀ b o, h.get? b = some o → ((h.push emptyDict).push (lstObj C h.objs.size #[])).get? b = some o := fun b o e => Heap.get?_push_of_some _ (Heap.get?_push_of_some _ e)
  have hx : ((h.push emptyDict).push (lstObj C h.objs.size #[])).get? (h.objs.size + 1) = some (lstObj C h.objs.size #[]) := by heap_get
  have t1 : Looks (model prog w) ((h.push emptyDict).push (lstObj C h.objs.size #[])) (typeOf (.ref (h.objs.size + 1))) (.ref C) := (Looks.ld hx).andThen .now
  have s1 := self.keeps k
  have i1 := hi.keeps k
  have b1 := (hb (.ref (h.objs.size + 1))).keeps k
  unfold isInstance callSpecial? specialOf
  repeat (first | with_reducible refine wpAny_call ?_ | lk)
  refine codeAny_mono hq fun r s' z => ?_
  rcases r with e | (v | _ | _ | _) <;> first | exact z | exact z.elim | skip
  obtain ⟨rfl, z⟩ := z
  exact wpAny_pure (wpAny_pure z)
end
end

/- part MInit -/
section
namespace LF
theorem ikind : builtinKind "list.__init__" = some .slot := by decide +kernel
theorem isplit : splitId "list.__init__" = some ("list", "__init__") := by decide +kernel
theorem iplain : plainId "list.__init__" = true := by decide +kernel
theorem ientry : entryFor table "list.__init__" = some Builtin.«list.__init__» := entryFor_of_tree (by kernel_rfl)
theorem iargs (a b : Value) : argsOk "list.__init__" ⟨[a, b], []⟩ := by unfold argsOk; kernel_rfl
end LF
abbrev finOf {prog : Program} {w : World} (A : Around) (R : Result → Shared → Prop) (fin : Fin) (s' : Shared) : Prop := match fin with | .done f => R (.ok f) s' | .again c' => c'.quiet = true ∧ codeAny (model prog w) A c' R s'
section
variable {prog : Program} {w : World} {A : Around} {E : Value → Shared → Prop} {s : Shared} {L : Addr} {h₀ : Heap} {m : Str → Option Value} {news : List (Addr × Obj)} {Q : Value → Shared → Prop} {K : Frag} {C : Addr} {R : Result → Shared → Prop}
theorem mapSeq_lst {C dx : Addr} {xs : Array Value} {n : Nat} (f : Array Value → Array Value) : ∃ n', Obj.mapSeq f (lstObj C dx xs n) = lstObj C dx (f xs) n' := ⟨_, rfl⟩
theorem subL_make {a : Value} (F : Fr h₀ L s.heap m) (N : News h₀ L s.heap news) (X : K.In s.heap) (hm : makesInL K C = true) (hi : findIn K (.ref C) "__init__" = some (some (.builtin "list.__init__")))
    (h : ∀ x dx h' n, Fr h₀ L h' m → News h₀ L h' ((x, lstObj C dx #[] n) :: (dx, emptyDict) :: news) → TopLe news dx → @LT.lt Nat _ dx x →
      wpAny (model prog w) (A.under (.builtin "type.__call__" ⟨[.ref C, a], []⟩)).in1 (Builtin.List.listExtendWith (.ref x) a .none)
        (fun fin s' => match fin with | .done f => InitBack x R (.ok f) s' | .again c' => c'.quiet = true ∧ codeAny (model prog w) (A.under (.builtin "type.__call__" ⟨[.ref C, a], []⟩)) c' (InitBack x R) s')
        (fun e s' => InitBack x R (.error e) s') { s with heap := h' }) :
    codeAny (model prog w) A (.call (.ref C) ⟨[a], []⟩) R s := by
  obtain ⟨hh, g, d, t, os⟩ := s
  have Y := makesL_of (M := model prog w) X hm
  have N' := (N.push F emptyDict).push (F.push _) (lstObj C hh.objs.size #[])
  have F' := (F.push emptyDict).push (lstObj C hh.objs.size #[])
  rw [Heap.size_push] at N'
  have hdx : TopLe news hh.objs.size := topLe_news N
  refine make_coreL Y (looks_findIn X hi) (fun self => Looks.of_pure (PySem.F.slot_list_init.bind self)) ?_
  have hx := (N' _ (.head _)).1
  have t1 : Looks (model prog w) ((hh.push emptyDict).push (lstObj C hh.objs.size #[])) (typeOf (.ref (hh.objs.size + 1))) (.ref C) := (Looks.ld hx).andThen .now
  have t2 : Looks (model prog w) ((hh.push emptyDict).push (lstObj C hh.objs.size #[])) (isInstance (.ref (hh.objs.size + 1)) (.type "list")) true := t1.andThen (Y.top.keeps fun b o e => Heap.get?_push_of_some _ (Heap.get?_push_of_some _ e))
  refine codeAny_call_builtin LF.iplain LF.ientry (@check_slot (model prog w) _ _ _ "list.__init__" "list" "__init__" (.ref (hh.objs.size + 1)) [a] [] _ LF.ikind LF.isplit t2 (LF.iargs _ _) ?_)
  show wpAny _ _ (do let old ← Builtin.List.listItems (.ref (hh.objs.size + 1)); Builtin.List.listUpdate (.ref (hh.objs.size + 1)) (fun _ => #[]); letGo old.toList.reverse; Builtin.List.listExtendWith (.ref (hh.objs.size + 1)) a .none) _ _ _
  refine wpAny_bind ?_
  unfold Builtin.List.listItems
  refine wpAny_bind (wpAny_seqItems hx rfl (wpAny_pure ?_))
  show wpAny _ _ (updateSeq (hh.objs.size + 1) (fun _ => #[]) >>= fun _ => letGo (#[] : Array Value).toList.reverse >>= fun _ => Builtin.List.listExtendWith (.ref (hh.objs.size + 1)) a .none) _ _ _
  refine wpAny_bind (wpAny_updateSeq hx rfl ?_)
  refine wpAny_bind (wpAny_letGo ?_)
  obtain ⟨n', e⟩ := mapSeq_lst (C := C) (dx := hh.objs.size) (xs := #[]) (n := 0) (fun _ => #[])
  have ne : ∀ p ∈ (hh.objs.size, emptyDict) :: news, p.1 ≠ hh.objs.size + 1 := by
    intro p hp
    rcases List.mem_cons.mp hp with rfl | hp
    · exact fun z => Nat.lt_irrefl _ (Nat.lt_of_lt_of_eq (Nat.lt_succ_self _) z.symm)
    · exact Nat.ne_of_lt (Nat.lt_succ_of_lt (hdx.lt p hp))
  obtain ⟨F2, N2⟩ := news_upd (pre := []) (f := Obj.mapSeq (fun _ => (#[] : Array Value))) F' N' (fun _ q => by cases q) ne e rfl
  exact h _ hh.objs.size _ n' F2 N2 hdx (Nat.lt_succ_self _)
end
end

/- part MExt -/
end
end
theorem fresh_MExt : True ∧ True := by
  w_top off
  first
    | (walk1; done)
    | exact ⟨True.intro, True.intro⟩
section
section
variable {prog : Program} {w : World} {A : Around} {R : Result → Shared → Prop}
/-- the loop of list.extend: J i holds before the i-th draw -/
theorem ext_loop {S : Addr} {it res : Value} {n : Nat} (J : Nat → Shared → Prop)
    (step : ∀ i s, i < n → J i s → wpAny (model prog w) A.in1 (pyNext it) (fun r s' => ∃ v, r = some v ∧ wpAny (model prog w) A.in1 (updateSeq S (·.push v)) (fun _ s'' => J (i + 1) s'') (fun e s'' => R (.error e) s'') s') (fun e s' => R (.error e) s') s)
    (done : ∀ s, J n s → wpAny (model prog w) A.in1 (pyNext it) (fun r s' => r = none ∧ R (.ok (.ret res)) s') (fun e s' => R (.error e) s') s) :
    ∀ k i s, n - i = k → i ≤ n → J i s → codeAny (model prog w) A (.builtin "list.extend.loop" ⟨[.ref S, it, res], []⟩) R s := by
  intro k
  induction k with
  | zero =>
    intro i s hk hi hJ
    have hin : i = n := by omega
    subst hin
    refine codeAny_builtin PySem.F.entry_extend_loop ?_
    rw [Around.under_plainId PySem.F.plain_extend_loop _]
    show wpAny _ A.in1 (pyNext it >>= _) _ _ s
    refine wpAny_bind (wpAny_mono (done s hJ) (fun r s' hr => ?_) fun _ _ z => z)
    obtain ⟨rfl, hr⟩ := hr
    exact wpAny_pure hr
  | succ k ih =>
    intro i s hk hi hJ
    refine codeAny_builtin PySem.F.entry_extend_loop ?_
    rw [Around.under_plainId PySem.F.plain_extend_loop _]
    show wpAny _ A.in1 (pyNext it >>= _) _ _ s
    refine wpAny_bind (wpAny_mono (step i s (by omega) hJ) (fun r s' hr => ?_) fun _ _ z => z)
    obtain ⟨v, rfl, hr⟩ := hr
    show wpAny _ A.in1 (updateSeq S (·.push v) >>= _) _ _ _
    refine wpAny_bind (wpAny_mono hr (fun _ s'' hJ' => ?_) fun _ _ z => z)
    exact wpAny_pure ⟨plainId_quiet PySem.F.plain_extend_loop _, ih (i + 1) s'' (by omega) (by omega) hJ'⟩
end
abbrev tagsObj (dx : Addr) (xs : List Value) (n : Nat) : Obj := lstObj 366 dx xs.toArray n
theorem tags_list {w : World} {A A₀ : Around} {s : Shared} {base h₀ : Heap} {outer : List Env} {env : Env} {L : Addr} {m mg mb : Str → Option Value} {p₀ : Program} {loose : List Str} {news : List (Addr × Obj)} {E : Value → Shared → Prop} {Q : Value → Shared → Prop} {l : Addr} {vs : List Value} {n : Nat} (cx : Cx w A A₀ base h₀ outer env L mg mb p₀ loose) (F : Fr h₀ L s.heap m) (N : News h₀ L s.heap news) (hr : A.depth + 20 < recursionLimit) (hu : A.units + 100 < cLine)
    (hl : (l, listOf vs.toArray n) ∈ news) (hz : vs.length ≤ 1000)
    (h : ∀ (x dx : Nat) h' n', Fr h₀ L h' m → News h₀ L h' ((x, tagsObj dx vs n') :: (dx, emptyDict) :: news) → TopLe news dx → dx < x → Q (.ref x) { s with heap := h' }) :
    wpAny (model Challenge.rw_fy0015_01.row.toRowW.1 w) A (call (.ref 366) [.ref l]) Q E s := by
  obtain ⟨B, X₀, T, hh, hA, hf, hk⟩ := cx
  revert X₀
  k_fill
  intro X₀
  obtain ⟨_, _, _, _, _⟩ := A
  obtain ⟨⟨_, _, _, _, _⟩, _, _, _, _, _, _, _, _⟩ := env
  dsimp only at hA hf hk hh hr hu
  subst hA hf hk hh
  refine wpAny_call (subL_make F N (X₀.keeps F.keep) (by kernel_rfl) (by k_is) fun x dx h' n' F' N' l1 l2 => ?_)
  have hx := (N' _ (.head _)).1
  have hll := (N' _ (List.Mem.tail _ (List.Mem.tail _ hl))).1
  have l3 : @LT.lt Nat _ l dx := l1.lt _ hl
  have hne : x ≠ l := Nat.ne_of_gt (Nat.lt_trans l3 l2)
  unfold Builtin.List.listExtendWith
  refine wpAny_bind (wpAny_typeOf ⟨_, hll, rfl⟩ ?_)
  have h1 : (Builtin.List.listSameRef (.ref x) (.ref l) || Value.type "list" == Value.type "list" || Value.type "list" == Value.type "tuple") = true := by simp
  simp only [h1, if_true]
  refine wpAny_bind ?_
  unfold Builtin.List.listItems
  refine wpAny_bind (wpAny_seqItems hll rfl (wpAny_pure ?_))
  refine wpAny_bind ?_
  refine wpAny_bind (wpAny_seqItems hx rfl (wpAny_pure ?_))
  show wpAny _ _ (updateSeq x (· ++ vs.toArray) >>= fun _ => ret .none) _ _ _
  refine wpAny_bind (wpAny_updateSeq (hz := by simp) (_hz' := by simp [sizeLine_eq]; omega) hx rfl ?_)
  obtain ⟨n2, e⟩ := mapSeq_lst (C := 366) (dx := dx) (xs := #[]) (n := n') (· ++ vs.toArray)
  have ne : ∀ p ∈ (dx, emptyDict) :: news, p.1 ≠ x := by
    intro p hp
    rcases List.mem_cons.mp hp with rfl | hp
    · exact Nat.ne_of_lt l2
    · exact Nat.ne_of_lt (Nat.lt_trans (l1.lt p hp) l2)
  obtain ⟨F2, N2⟩ := news_upd (pre := []) (f := Obj.mapSeq (· ++ vs.toArray)) F' N' (fun _ q => by cases q) ne e rfl
  rw [Array.empty_append] at N2
  exact wpAny_pure ⟨rfl, h x dx _ n2 F2 N2 l1 l2⟩
end

/- part MSub -/
theorem fresh_MSub : True ∧ True := by
  w_top off
  first
    | (walk1; done)
    | exact ⟨True.intro, True.intro⟩
section
/-! Built-in list slots reached through an object of a list subclass. -/
section
variable {prog : Program} {w : World} {A : Around} {E : Value → Shared → Prop} {s : Shared} {K : Frag} {C x : Addr} {R : Result → Shared → Prop}
def IsSeq (h : Heap) (x : Addr) (xs : Array Value) : Prop := ∃ o n, h.get? x = some o ∧ o.data = .seq xs n
structure SubAt (M : Model) (h : Heap) (K : Frag) (C x : Addr) : Prop where
  typ : Looks M h (typeOf (.ref x)) (.ref C)
  lst : Looks M h (isInstance (.ref x) (.type "list")) true
theorem subAt_of {M : Model} {h : Heap} {dx : Addr} {xs : Array Value} {n : Nat} (X : K.In h) (hx : h.get? x = some (lstObj C dx xs n)) (hm : mroIn K C (.type "list") = some true) : SubAt M h K C x :=
  have t1 : Looks M h (typeOf (.ref x)) (.ref C) := (Looks.ld hx).andThen .now
  ⟨t1, t1.andThen (looks_mroIn X hm)⟩
theorem sub_call {id n : String} {Bi : Builtin} {rest : List Value} (Y : SubAt (model prog w) s.heap K C x) (hk : builtinKind id = some .slot) (hs : splitId id = some ("list", n)) (he : entryFor table id = some Bi) (hp : plainId id = true)
    (ha : argsOk id ⟨.ref x :: rest, []⟩)
    (h : wpAny (model prog w) A.in1 (Bi ⟨.ref x :: rest, []⟩) (fun fin s' => match fin with | .done f => R (.ok f) s' | .again c' => c'.quiet = true ∧ codeAny (model prog w) A c' R s') (fun e s' => R (.error e) s') s) :
    codeAny (model prog w) A (.call (.builtin id) ⟨.ref x :: rest, []⟩) R s :=
  codeAny_call_builtin hp he (@check_slot (model prog w) _ _ _ id "list" n (.ref x) rest [] _ hk hs Y.lst ha h)
theorem sub_special {name : Str} {id : String} {args : List Value} {Q : Option Value → Shared → Prop} (X : K.In s.heap) (Y : SubAt (model prog w) s.heap K C x)
    (hf : findIn K (.ref C) name = some (some (.builtin id))) (hb : bindSpecial (.builtin id) (.ref x) = pure (.builtin id, [.ref x])) (h : wpAny (model prog w) A (call (.builtin id) (.ref x :: args)) (fun v => Q (some v)) E s) :
    wpAny (model prog w) A (callSpecial? (.ref x) name args) Q E s := by
  refine wpAny_bind (wpAny_bind (Y.typ.here ((looks_findIn X hf).here (wpAny_holding ?_))))
  rw [hb]
  exact wpAny_bind (wpAny_pure (wpAny_bind (wpAny_mono h (fun _ _ z => wpAny_pure z) fun _ _ z => z)))
theorem sub_iter {refuse : Sem Value} {name : Str} {id : String} {Q : Option Value → Shared → Prop} (X : K.In s.heap) (Y : SubAt (model prog w) s.heap K C x)
    (hf : findIn K (.ref C) name = some (some (.builtin id))) (hb : bindSpecial (.builtin id) (.ref x) = pure (.builtin id, [.ref x])) (hc : wpAny (model prog w) A (call (.builtin id) [.ref x]) (fun v => Q (some v)) E s) :
    wpAny (model prog w) A (callSpecialIfBoundUnlessNone? (.ref x) name refuse) Q E s := by
  simp only [callSpecialIfBoundUnlessNone?, bindSpecialIfBound?]
  refine wpAny_holding (wpAny_bind (wpAny_bind (wpAny_bind (Y.typ.here ((looks_findIn X hf).here ?_)))))
  simp only [hb]
  refine wpAny_bind (wpAny_askSetting (wpAny_ite ?_))
  have fin : wpAny (model prog w) A (if (Value.builtin id == Value.none) = true then (refuse >>= fun v => pure (some v)) else (call (.builtin id) [.ref x] >>= fun v => pure (some v))) Q E s := by
    simp only [builtin_beq_none, Bool.false_eq_true, if_false]
    exact wpAny_bind (wpAny_mono hc (fun v s' h' => wpAny_pure h') fun _ _ h' => h')
  split
  · exact wpAny_bind (wpAny_pure (wpAny_pure fin))
  · exact wpAny_tryCatch (wpAny_bind (wpAny_pure (wpAny_pure fin)))
abbrev listIter (l : Addr) (i : Nat) : Obj := { cls := .type "list_iterator", data := .fields #[.ref l, .int i 0] }
theorem sub_pyIter {Q : Value → Shared → Prop} (X : K.In s.heap) (Y : SubAt (model prog w) s.heap K C x) (hf : findIn K (.ref C) "__iter__" = some (some (.builtin "list.__iter__")))
    (hQ : Q (.ref s.heap.objs.size) { s with heap := s.heap.push (listIter x 0) }) : wpAny (model prog w) A (pyIter (.ref x)) Q E s := by
  unfold pyIter
  refine wpAny_bind (wpAny_bind (Y.typ.here ((looks_findIn X hf).here ?_)))
  refine wpAny_bind (sub_iter X Y hf (PySem.slot_list_iter.bind _) (wpAny_call (sub_call Y (n := "__iter__") (by decide +kernel) (by decide +kernel) PySem.entry_list_iter (by decide +kernel) (PySem.args_list_iter _) ?_)))
  show wpAny _ _ (do ret (← newFields "list_iterator" [.ref x, rawInt 0])) _ _ s
  refine wpAny_bind (wpAny_newObj_type (wpAny_pure ?_))
  show wpAny _ _ (specialOf _ _ >>= _) _ _ _
  exact wpAny_bind (wpAny_specialOf (T := "list_iterator") ⟨_, Heap.get?_push_size _ rfl, rfl⟩ PySem.slot_listiter_next.lookup (wpAny_pure hQ))
theorem next_item {it l : Addr} {i : Nat} {items : Array Value} {x : Value} {Q : Option Value → Shared → Prop} (hit : s.heap.IsListIter it l i)
    (hl : IsSeq s.heap l items) (hx : items[i]? = some x)
    (hQ : ∀ h', h'.IsListIter it l (i + 1) → Heap.SameBut it s.heap h' → Q (some x) { s with heap := h' }) :
    wpAny (model prog w) A (pyNext (.ref it)) Q E s := by
  obtain ⟨o, ho, hc, hd⟩ := id hit
  obtain ⟨ol, nl, hol, hdl⟩ := hl
  unfold pyNext
  refine wpAny_bind (wpAny_attempt (wpAny_callSpecial?_slot (name := Str.ofString "__next__") hit.typeIs PySem.slot_listiter_next
    (wpAny_call_entry PySem.slot_listiter_next hit.typeIs PySem.entry_listiter_next ?_ (PySem.args_listiter_next _))))
  show wpAny _ _ (field (.ref it) 0 >>= _) _ _ s
  refine wpAny_bind (wpAny_field ho hd (x := .ref l) rfl ?_)
  show wpAny _ _ (if (Value.ref l == Value.none) = true then _ else _) _ _ s
  rw [if_neg (show ¬ ((Value.ref l == Value.none) = true) from Bool.false_ne_true)]
  show wpAny _ _ (field (.ref it) 1 >>= _) _ _ s
  refine wpAny_bind (wpAny_field ho hd (x := .int i 0) rfl ?_)
  show wpAny _ _ (seqItems? (.ref l) >>= _) _ _ s
  refine wpAny_bind (wpAny_seqItems hol hdl ?_)
  simp only [Int.toNat_natCast, hx]
  refine wpAny_bind (wpAny_setField ho hd (by simp) (wpAny_pure ⟨x, rfl, wpAny_pure (hQ _ ?_ (Heap.SameBut.update ..))⟩))
  exact ⟨_, Heap.get?_update_self _ ho (Obj.isFreed_of_fields (Obj.data_mapFields hd _)), (Obj.cls_mapFields ..).trans hc, by
    rw [Obj.data_mapFields hd]; simp [rawInt]⟩
theorem next_end {it l : Addr} {i : Nat} {items : Array Value} {Q : Option Value → Shared → Prop} (hh : A.handled = none)
    (hit : s.heap.IsListIter it l i) (hl : IsSeq s.heap l items) (hx : items[i]? = none)
    (hQ : ∀ h', Heap.ExtBut it s.heap h' → Q none { s with heap := h' }) : wpAny (model prog w) A (pyNext (.ref it)) Q E s := by
  obtain ⟨o, ho, hc, hd⟩ := id hit
  obtain ⟨ol, nl, hol, hdl⟩ := hl
  unfold pyNext
  refine wpAny_bind (wpAny_attempt (wpAny_callSpecial?_slot (name := Str.ofString "__next__") hit.typeIs PySem.slot_listiter_next
    (wpAny_call_entry PySem.slot_listiter_next hit.typeIs PySem.entry_listiter_next ?_ (PySem.args_listiter_next _))))
  show wpAny _ _ (field (.ref it) 0 >>= _) _ _ s
  refine wpAny_bind (wpAny_field ho hd (x := .ref l) rfl ?_)
  show wpAny _ _ (if (Value.ref l == Value.none) = true then _ else _) _ _ s
  rw [if_neg (show ¬ ((Value.ref l == Value.none) = true) from Bool.false_ne_true)]
  show wpAny _ _ (field (.ref it) 1 >>= _) _ _ s
  refine wpAny_bind (wpAny_field ho hd (x := .int i 0) rfl ?_)
  show wpAny _ _ (seqItems? (.ref l) >>= _) _ _ s
  refine wpAny_bind (wpAny_seqItems hol hdl ?_)
  simp only [Int.toNat_natCast, hx]
  refine wpAny_bind (wpAny_rule (wpAny_bind (wpAny_setField ho hd (by simp) ?_)))
  show wpAny _ _ (newExc (.type "StopIteration") [] >>= _) _ _ _
  refine wpAny_bind ?_
  simp only [newExc, newTuple]
  refine wpAny_bind (wpAny_newObj_type ?_ (by size_fits))
  refine wpAny_bind (m := firstArgMember _ _) (wpAny_of_eq (a := Value.none) (by first | rfl | (simp only [firstArgMember]; rfl)) ?_)
  refine wpAny_newObj_type ?_ (by size_fits)
  simp only [raiseNew]
  refine wpAny_bind (wpAny_handled ?_)
  rw [show A.in1.handled = none from hh]
  refine wpAny_bind (wpAny_pure (wpAny_throw ?_))
  refine wpAny_bind (wpAny_isInstance (T := "StopIteration") (b := true) ⟨_, Heap.get?_push_size _ rfl, rfl⟩ PySem.isSubtype_stop ?_)
  exact wpAny_pure (hQ _ (((Heap.SameBut.update ..).extBut.push _).push _))
end
end

/- part MTag2 -/
theorem fresh_MTag2 : True ∧ True := by
  w_top off
  first
    | (walk1; done)
    | exact ⟨True.intro, True.intro⟩
section
section
variable {prog : Program} {w : World} {A : Around} {E : Value → Shared → Prop} {s : Shared} {K : Frag} {C x : Addr} {R : Result → Shared → Prop} {L : Addr} {h₀ : Heap} {m : Str → Option Value} {news : List (Addr × Obj)}
theorem ext_off {h h' : Heap} {I : Addr} {o : Obj} {nx : List (Addr × Obj)} (F : Fr h₀ L h m) (N : News h₀ L h ((I, o) :: nx)) (off : ∀ p ∈ nx, p.1 ≠ I) (hs : Heap.ExtBut I h h') : Fr h₀ L h' m ∧ News h₀ L h' nx := by
  have hI := N (I, o) List.mem_cons_self
  refine ⟨⟨F.ns.at' fun o e => hs _ o (Ne.symm hI.2.1) e, fun b o e => hs b o (fun q => by rw [q, hI.2.2] at e; cases e) (F.keep b o e), F.above⟩, fun p hp => ⟨hs _ _ (off p hp) (N p (List.mem_cons_of_mem _ hp)).1, (N p (List.mem_cons_of_mem _ hp)).2⟩⟩
theorem sub_len {xs : Array Value} {Q : Value → Shared → Prop} (X : K.In s.heap) (Y : SubAt (model prog w) s.heap K C x) (hx : IsSeq s.heap x xs) (hf : findIn K (.ref C) "__len__" = some (some (.builtin "list.__len__"))) (hfit : (xs.size : Int) < 2 ^ 63)
    (h : Q (.int xs.size (s.toks + 1)) { s with toks := s.toks + 1 + 1 }) : wpAny (model prog w) A (call (.builtin "len") [.ref x]) Q E s := by
  obtain ⟨o, n, ho, hd⟩ := hx
  refine Calls.call_function_entry PySem.kind_len PySem.plain_len PySem.entry_len (PySem.args_len1 _) ?_
  unfold Builtin.«len»
  refine wpAny_bind (m := oneArg "len" _) (wpAny_pure ?_)
  refine wpAny_bind (m := callSpecial? (.ref x) (Str.ofString "__len__")) (sub_special X Y hf (PySem.slot_list_len.bind _) (wpAny_call (sub_call Y (n := "__len__") (by decide +kernel) (by decide +kernel) PySem.entry_list_len (by decide +kernel) (PySem.args_list_len _) ?_)))
  show wpAny _ _ (do retInt (← seqSize x)) _ _ s
  unfold seqSize
  refine wpAny_bind (wpAny_bind (wpAny_load ho ?_))
  rw [hd]
  refine wpAny_pure (wpAny_bind (wpAny_mkInt (wpAny_pure ?_)))
  refine wpAny_bind (wpAny_holding (wpAny_pure ?_))
  refine wpAny_bind (wpAny_letGo ?_)
  have h1 : ¬ (((xs.size : Nat) : Int) < 0) := by omega
  have h2 : ¬ (((xs.size : Nat) : Int) ≥ 2 ^ 63) := by omega
  simp only [h1, h2, if_false]
  exact wpAny_bind (wpAny_mkInt (wpAny_pure ⟨_, rfl, h⟩))
theorem sub_hint {xs : Array Value} {Q : Bool → Shared → Prop} (X : K.In s.heap) (Y : SubAt (model prog w) s.heap K C x) (hx : IsSeq s.heap x xs) (hf : findIn K (.ref C) "__len__" = some (some (.builtin "list.__len__"))) (hfit : (xs.size : Int) < 2 ^ 63) (hne : xs.size ≠ 0)
    (h : Q true { s with toks := s.toks + 1 + 1 }) : wpAny (model prog w) A (Builtin.List.listLengthHint (.ref x)) Q E s := by
  have hs : splitId "list.__len__" = some ("list", "__len__") := by decide +kernel
  unfold Builtin.List.listLengthHint
  refine wpAny_bind (wpAny_bind (Y.typ.here ((looks_findIn X hf).here ?_)))
  dsimp only
  rw [hs]
  dsimp only
  refine wpAny_bind (Y.lst.here ?_)
  simp only [Bool.not_true, Bool.false_eq_true, if_false]
  refine wpAny_ite_split (fun _ => ?_) (fun q => absurd (by decide +kernel) q)
  refine wpAny_bind (Y.typ.here ?_)
  refine wpAny_bind (sub_len X Y hx hf hfit ?_)
  refine wpAny_bind (m := asInt? _) (wpAny_pure ?_)
  have e : (((xs.size : Nat) : Int) != 0) = true := by rw [bne_iff_ne]; omega
  show wpAny _ _ (pure (((xs.size : Nat) : Int) != 0)) _ _ _
  rw [e]
  exact wpAny_pure h
abbrev seqJ (h₀ : Heap) (L it l x dx : Addr) (m : Str → Option Value) (news : List (Addr × Obj)) (vs : List Value) (s : Shared) (i : Nat) (s' : Shared) : Prop :=
  ∃ h' tk oi nn, s' = { s with heap := h', toks := tk } ∧ Fr h₀ L h' m ∧ News h₀ L h' ((it, oi) :: (x, lstObj 366 dx (vs.take i).toArray nn) :: (dx, emptyDict) :: news) ∧ oi.cls = .type "list_iterator" ∧ oi.data = .fields #[.ref l, .int i 0]
end
theorem lst366 {w : World} : mroIn (hd.heap_39 w.params) 366 (.type "list") = some true := by kernel_rfl
theorem tags_tags {w : World} {A A₀ : Around} {s : Shared} {base h₀ : Heap} {outer : List Env} {env : Env} {L : Addr} {m mg mb : Str → Option Value} {p₀ : Program} {loose : List Str} {news : List (Addr × Obj)} {E : Value → Shared → Prop} {Q : Value → Shared → Prop} {l dl : Addr} {vs : List Value} {n : Nat} (cx : Cx w A A₀ base h₀ outer env L mg mb p₀ loose) (F : Fr h₀ L s.heap m) (N : News h₀ L s.heap news) (hr : A.depth + 20 < recursionLimit) (hu : A.units + 100 < cLine)
    (hl : (l, tagsObj dl vs n) ∈ news) (hz : vs.length ≤ 1000) (hne : vs ≠ [])
    (h : ∀ (x dx : Nat) h' tk n', Fr h₀ L h' m → News h₀ L h' ((x, tagsObj dx vs n') :: (dx, emptyDict) :: news) → TopLe news dx → dx < x → Q (.ref x) { s with heap := h', toks := tk }) :
    wpAny (model Challenge.rw_fy0015_01.row.toRowW.1 w) A (call (.ref 366) [.ref l]) Q E s := by
  obtain ⟨B, X₀, T, hh, hA, hf, hk⟩ := cx
  revert X₀
  k_fill
  intro X₀
  obtain ⟨_, _, _, _, _⟩ := A
  obtain ⟨⟨_, _, _, _, _⟩, _, _, _, _, _, _, _, _⟩ := env
  dsimp only at hA hf hk hh hr hu
  subst hA hf hk hh
  refine wpAny_call (subL_make F N (X₀.keeps F.keep) (by kernel_rfl) (by k_is) fun x dx h' n' F' N' l1 l2 => ?_)
  have X' := X₀.keeps F'.keep
  have hll := (N' _ (List.Mem.tail _ (List.Mem.tail _ hl))).1
  have l3 : @LT.lt Nat _ l dx := l1.lt _ hl
  have hnel : x ≠ l := Nat.ne_of_gt (Nat.lt_trans l3 l2)
  have hvl : vs.length ≠ 0 := fun z => hne (List.eq_nil_of_length_eq_zero z)
  unfold Builtin.List.listExtendWith
  have Y1 : SubAt (model Challenge.rw_fy0015_01.row.toRowW.1 w) h' (hd.heap_39 w.params) 366 l := subAt_of X' hll lst366
  refine wpAny_bind (Y1.typ.here ?_)
  have h1 : (Builtin.List.listSameRef (.ref x) (.ref l) || Value.ref 366 == Value.type "list" || Value.ref 366 == Value.type "tuple") = false := by
    simp [Builtin.List.listSameRef, hnel]
  simp only [h1, Bool.false_eq_true, if_false]
  refine wpAny_bind (sub_pyIter X' Y1 (by k_is) ?_)
  have F2 := F'.push (listIter l 0)
  have N2 := N'.push F' (listIter l 0)
  dsimp only at F2 N2 ⊢
  have X2 := X₀.keeps F2.keep
  have hll2 := (N2 _ (List.Mem.tail _ (List.Mem.tail _ (List.Mem.tail _ hl)))).1
  have Y2 : SubAt (model Challenge.rw_fy0015_01.row.toRowW.1 w) (h'.push (listIter l 0)) (hd.heap_39 w.params) 366 l := subAt_of X2 hll2 lst366
  refine wpAny_bind (wpAny_holding (sub_hint X2 Y2 ⟨_, _, hll2, rfl⟩ (by k_is) (by simp; omega) (by simpa using hvl) ?_))
  show wpAny _ _ (rule "list.extend.makes-room" >>= fun _ => Builtin.List.listTouch (.ref x) >>= fun _ => again (.builtin "list.extend.loop" ⟨[.ref x, .ref h'.objs.size, .none], []⟩)) _ _ _
  refine wpAny_bind (wpAny_rule (wpAny_bind ?_))
  show wpAny _ _ (updateSeq x (·.push .none) >>= fun _ => updateSeq x (·.pop)) _ _ _
  have dlt : dx < h'.objs.size := Heap.lt_size (N' (dx, emptyDict) (List.Mem.tail _ (List.Mem.head _))).1
  have xlt : x < h'.objs.size := Heap.lt_size (N' _ (List.Mem.head _)).1
  have offx : ∀ p ∈ (dx, emptyDict) :: news, p.1 ≠ x := by
    intro p hp
    rcases List.mem_cons.mp hp with rfl | hp
    · exact Nat.ne_of_lt l2
    · exact Nat.ne_of_lt (Nat.lt_trans (l1.lt p hp) l2)
  have offi : ∀ (o : Obj), ∀ p ∈ (x, o) :: (dx, emptyDict) :: news, p.1 ≠ h'.objs.size := by
    intro o p hp
    rcases List.mem_cons.mp hp with rfl | hp
    · exact Nat.ne_of_lt xlt
    · rcases List.mem_cons.mp hp with rfl | hp
      · exact Nat.ne_of_lt dlt
      · exact Nat.ne_of_lt (Nat.lt_trans (l1.lt p hp) dlt)
  have offh : ∀ (o : Obj), ∀ p ∈ [(h'.objs.size, o)], p.1 ≠ x := by
    intro o p hp
    rcases List.mem_cons.mp hp with rfl | hp
    · exact Nat.ne_of_gt xlt
    · cases hp
  have hx2 := (N2 (x, _) (List.Mem.tail _ (List.Mem.head _))).1
  refine wpAny_bind (wpAny_updateSeq (hz := by simp) (_hz' := by simp [sizeLine_eq]) hx2 rfl ?_)
  obtain ⟨n3, e3⟩ := mapSeq_lst (C := 366) (dx := dx) (xs := #[]) (n := n') (·.push .none)
  obtain ⟨F3, N3⟩ := news_upd (pre := [(h'.objs.size, listIter l 0)]) (f := Obj.mapSeq (·.push .none)) F2 N2 (offh _) offx e3 rfl
  have hx3 := (N3 (x, _) (List.Mem.tail _ (List.Mem.head _))).1
  refine wpAny_updateSeq (hz := by simp [sizeLine_eq]) (_hz' := by simp) hx3 rfl ?_
  obtain ⟨n4, e4⟩ := mapSeq_lst (C := 366) (dx := dx) (xs := (#[] : Array Value).push .none) (n := n3) (·.pop)
  obtain ⟨F4, N4⟩ := news_upd (pre := [(h'.objs.size, listIter l 0)]) (f := Obj.mapSeq (·.pop)) F3 N3 (offh _) offx e4 rfl
  refine wpAny_pure ⟨plainId_quiet PySem.F.plain_extend_loop _, ext_loop (n := vs.length) (seqJ h₀ L h'.objs.size l x dx m news vs s) ?_ ?_ _ 0 _ rfl (Nat.zero_le _) ⟨_, _, _, n4, rfl, F4, N4, rfl, rfl⟩⟩
  · rintro i s' hi ⟨h5, tk, oi, nn, rfl, F5, N5, c5, d5⟩
    have hit : h5.IsListIter h'.objs.size l i := ⟨oi, (N5 _ (List.Mem.head _)).1, c5, d5⟩
    have hl5 := (N5 _ (List.Mem.tail _ (List.Mem.tail _ (List.Mem.tail _ hl)))).1
    have hI := N5 _ (List.Mem.head _)
    refine next_item hit ⟨_, _, hl5, rfl⟩ (x := vs[i]) (by simp [hi]) fun h6 hit6 hs6 => ?_
    obtain ⟨oi6, ho6, c6, d6⟩ := hit6
    have F6 := F5.change hs6 hI.2.1 hI.2.2
    have N6 := News.setIn (own := []) N5 (fun _ q => by cases q) (offi _) hs6 ho6
    have hx6 := (N6 (x, _) (List.Mem.tail _ (List.Mem.head _))).1
    refine ⟨_, rfl, wpAny_updateSeq (hz := by simp [sizeLine_eq]; omega) (_hz' := by simp [sizeLine_eq]; omega) hx6 rfl ?_⟩
    obtain ⟨n7, e7⟩ := mapSeq_lst (C := 366) (dx := dx) (xs := (vs.take i).toArray) (n := nn) (·.push vs[i])
    obtain ⟨F7, N7⟩ := news_upd (pre := [(h'.objs.size, oi6)]) (f := Obj.mapSeq (·.push vs[i])) F6 N6 (offh _) offx e7 rfl
    have et : (vs.take i).toArray.push vs[i] = (vs.take (i + 1)).toArray := by rw [List.take_succ_eq_append_getElem hi]; simp
    rw [et] at N7
    exact ⟨_, _, _, n7, rfl, F7, N7, c6, d6⟩
  · rintro s' ⟨h5, tk, oi, nn, rfl, F5, N5, c5, d5⟩
    have hit : h5.IsListIter h'.objs.size l vs.length := ⟨oi, (N5 _ (List.Mem.head _)).1, c5, d5⟩
    have hl5 := (N5 _ (List.Mem.tail _ (List.Mem.tail _ (List.Mem.tail _ hl)))).1
    refine next_end rfl hit ⟨_, _, hl5, rfl⟩ (by simp) fun h6 hs6 => ?_
    obtain ⟨F6, N6⟩ := ext_off F5 N5 (offi _) hs6
    rw [List.take_length] at N6
    exact ⟨rfl, rfl, h x dx h6 _ nn F6 N6 l1 l2⟩
end

/- part MItem -/
theorem fresh_MItem : True ∧ True := by
  w_top off
  first
    | (walk1; done)
    | exact ⟨True.intro, True.intro⟩
section
section
variable {prog : Program} {w : World} {A : Around} {E : Value → Shared → Prop} {s : Shared} {K : Frag} {C x : Addr} {R : Result → Shared → Prop} {L : Addr} {h₀ : Heap} {m : Str → Option Value} {news : List (Addr × Obj)}
theorem check_meth {M : Model} {A : Around} {E : Value → Shared → Prop} {s : Shared} {i owner n : String} {self : Value} {rest : List Value} {kw : List (Str × Value)} {Q : Unit → Shared → Prop}
    (hk : builtinKind i = some .method) (hs : splitId i = some (owner, n)) (hi : Looks M s.heap (isInstance self (.type owner)) true) (ha : argsOk i ⟨self :: rest, kw⟩) (q : Q () s) :
    wpAny M A (checkBuiltinCall i ⟨self :: rest, kw⟩) Q E s := by
  simp only [checkBuiltinCall, hk, hs]
  refine wpAny_bind (hi.here ?_)
  simp only [Bool.not_true, Bool.false_eq_true, if_false]
  cases hsig : Manifest.signature? i with
  | none => exact wpAny_pure q
  | some sig =>
    simp only [argsOk, hsig] at ha
    have h2 : Bind.checkArgs i sig ⟨self :: rest, kw⟩ = pure () := ha
    show wpAny M A (Bind.checkArgs i sig ⟨self :: rest, kw⟩) Q E s
    rw [h2]; exact wpAny_pure q
theorem sub_callM {id n : String} {Bi : Builtin} {rest : List Value} (Y : SubAt (model prog w) s.heap K C x) (hk : builtinKind id = some .method) (hs : splitId id = some ("list", n)) (he : entryFor table id = some Bi) (hp : plainId id = true)
    (ha : argsOk id ⟨.ref x :: rest, []⟩)
    (h : wpAny (model prog w) A.in1 (Bi ⟨.ref x :: rest, []⟩) (fun fin s' => match fin with | .done f => R (.ok f) s' | .again c' => c'.quiet = true ∧ codeAny (model prog w) A c' R s') (fun e s' => R (.error e) s') s) :
    codeAny (model prog w) A (.call (.builtin id) ⟨.ref x :: rest, []⟩) R s :=
  codeAny_call_builtin hp he (@check_meth (model prog w) _ _ _ id "list" n (.ref x) rest [] _ hk hs Y.lst ha h)
theorem sub_nodeque {o k : Value} {name : Str} {Q : Value → Shared → Prop} (X : K.In s.heap) (ht : Looks (model prog w) s.heap (typeOf o) (.ref C)) (hd : mroIn K C (.type "collections.deque") = some false) (h : Q k s) :
    wpAny (model prog w) A (sequenceKey o k name) Q E s := by
  unfold sequenceKey
  refine wpAny_bind (ht.here ?_)
  dsimp only
  refine wpAny_bind (m := seqItemTypes.anyM _) ?_
  unfold seqItemTypes
  simp only [List.anyM]
  refine wpAny_bind ((looks_mroIn X hd).here ?_)
  exact wpAny_pure (wpAny_pure h)
theorem sub_tail {value slice : PySem.Expr} {i : Value} {ops : List Value} {Q : Value → Shared → Prop} (X : K.In s.heap) (Y : SubAt (model prog w) s.heap K C x)
    (hf : findIn K (.ref C) "__getitem__" = some (some (.builtin "list.__getitem__"))) (hg : wpAny (model prog w) A (getItem (.ref x) i) Q E s)
    (hs : subscripted slice false (.ref x) i = operate ops (getItem (.ref x) i)) : wpAny (model prog w) A (subscriptTail value slice (.ref x) i) Q E s := by
  unfold subscriptTail
  refine wpAny_bind ?_
  unfold getitemInPython
  refine wpAny_bind (wpAny_bind (Y.typ.here ((looks_findIn X hf).here ?_)))
  have fin : wpAny (model prog w) A (subscripted slice false (.ref x) i) (fun r s₃ => wpAny (model prog w) A (letTemporaryGo value (.ref x) r >>= fun _ => pure r) Q E s₃) E s := by
    rw [hs]
    exact wpAny_operating (wpAny_mono hg (fun r s₃ h₃ => wpAny_bind (wpAny_letTemporaryGo (wpAny_pure h₃))) fun _ _ x => x)
  first
    | exact wpAny_pure (wpAny_bind fin)
    | exact wpAny_bind (wpAny_pure (wpAny_bind fin))
    | exact wpAny_bind fin
theorem sub_item {xs : Array Value} {k : Int} {t : Tok} {v : Value} {Q : Value → Shared → Prop} (X : K.In s.heap) (Y : SubAt (model prog w) s.heap K C x) (hx : IsSeq s.heap x xs)
    (hd : mroIn K C (.type "collections.deque") = some false) (hf : findIn K (.ref C) "__getitem__" = some (some (.builtin "list.__getitem__")))
    (h0 : 0 ≤ k) (hfit : k < 2 ^ 63) (hv : xs[k.toNat]? = some v) (h : Q v s) : wpAny (model prog w) A (getItem (.ref x) (.int k t)) Q E s := by
  obtain ⟨o, n, ho, hdt⟩ := hx
  unfold getItem
  refine wpAny_holding ?_
  refine wpAny_bind (sub_nodeque X Y.typ hd ?_)
  refine wpAny_bind (m := callSpecial? (.ref x) (Str.ofString "__getitem__") _) (sub_special X Y hf (PySem.slot_list_getitem.bind _) (wpAny_call (sub_callM Y (n := "__getitem__") (by decide +kernel) (by decide +kernel) PySem.entry_list_getitem (by decide +kernel) (PySem.args_list_getitem _ _) ?_)))
  show wpAny _ _ (Builtin.List.listSubscript? (.int k t) >>= _) _ _ s
  refine wpAny_bind (wpAny_listSubscript_int (fitsIndex_of h0 hfit) ?_)
  obtain ⟨j, rfl⟩ := Int.eq_ofNat_of_zero_le h0
  have hx' : xs[j]? = some v := hv
  show wpAny _ _ ((seqItemAt x j >>= fun r => pure (r.map (j, ·))) >>= _) _ _ s
  refine wpAny_bind (wpAny_bind (wpAny_seqItemAt ho hdt (wpAny_pure ?_)))
  rw [hx']
  first
    | exact wpAny_bind (wpAny_pure (wpAny_pure (wpAny_pure h)))
    | exact wpAny_pure (wpAny_pure h)
theorem sub_slice {xs : Array Value} {sl : Addr} {vl vu vs : Value} {lo hi st : Option Int} {Q : Value → Shared → Prop} (X : K.In s.heap) (Y : SubAt (model prog w) s.heap K C x) (hx : IsSeq s.heap x xs)
    (hd : mroIn K C (.type "collections.deque") = some false) (hf : findIn K (.ref C) "__getitem__" = some (some (.builtin "list.__getitem__")))
    (hs : s.heap.IsSliceOf sl vl vu vs) (pl : IsPart vl lo) (pu : IsPart vu hi) (ps : IsPart vs st) (h0 : st ≠ some 0)
    (h : Q (.ref s.heap.objs.size) { s with heap := s.heap.push { cls := .type "list", data := .seq (slicePick xs lo hi st) } })
    (hsz : xs.size ≤ sizeLine) : wpAny (model prog w) A (getItem (.ref x) (.ref sl)) Q E s := by
  obtain ⟨o, n, ho, hdt⟩ := hx
  obtain ⟨os, hos, hcs, hds⟩ := id hs
  have hTs : s.TypeIs (.ref sl) "slice" := ⟨os, hos, hcs⟩
  unfold getItem
  refine wpAny_holding ?_
  refine wpAny_bind (sub_nodeque X Y.typ hd ?_)
  refine wpAny_bind (m := callSpecial? (.ref x) (Str.ofString "__getitem__") _) (sub_special X Y hf (PySem.slot_list_getitem.bind _) (wpAny_call (sub_callM Y (n := "__getitem__") (by decide +kernel) (by decide +kernel) PySem.entry_list_getitem (by decide +kernel) (PySem.args_list_getitem _ _) ?_)))
  show wpAny _ _ (Builtin.List.listSubscript? (.ref sl) >>= _) _ _ s
  refine wpAny_bind ?_
  · unfold Builtin.List.listSubscript?
    refine wpAny_bind (wpAny_specialOf hTs PySem.slice_no_index ?_)
    simp only [Option.isNone_none, if_true]
    refine wpAny_pure ?_
    show wpAny _ _ (typeOf (.ref sl) >>= _) _ _ s
    refine wpAny_bind (wpAny_typeOf hTs ?_)
    rw [if_neg (by decide)]
    rw [PySem.listSliceParts_eq]
    have hstep : ¬ ((rawPart st == rawInt 0) = true) := by
      cases st with
      | none => exact Bool.false_ne_true
      | some c =>
        intro hh
        have : c = 0 := by simpa [rawPart, rawInt] using hh
        exact h0 (by rw [this])
    refine wpAny_bind (wpAny_bind (wpAny_field hos hds (x := vs) rfl (wpAny_bind (wpAny_listPart ps ?_))))
    rw [if_neg hstep]
    refine wpAny_bind (wpAny_field hos hds (x := vl) rfl (wpAny_bind (wpAny_listPart pl ?_)))
    refine wpAny_bind (wpAny_field hos hds (x := vu) rfl (wpAny_bind (wpAny_listPart pu (wpAny_pure ?_))))
    refine wpAny_bind (m := Builtin.List.listItems (.ref x)) ?_
    · unfold Builtin.List.listItems
      refine wpAny_bind (wpAny_seqItems ho hdt (wpAny_pure ?_))
      refine wpAny_bind (wpAny_of_eq (sliceIndices_raw lo hi st xs.size h0) ?_)
      exact wpAny_bind (wpAny_newObj_type (wpAny_pure (wpAny_pure h)) (Nat.le_trans (slicePick_size_le xs lo hi st) hsz))
end
end

/- part MDel -/
theorem fresh_MDel : True ∧ True := by
  w_top off
  first
    | (walk1; done)
    | exact ⟨True.intro, True.intro⟩
section
theorem del_pick (g : Nat → Bool) (a b : Nat) (hab : a ≤ b) (hg : ∀ k, g k = (decide (a ≤ k) && decide (k < b))) : ∀ (vs : List Value) (j : Nat),
    ((vs.zipIdx j).filterMap fun (p : Value × Nat) => match p with | (x, k) => if g k = true then none else some x) = vs.take (a - j) ++ vs.drop (b - j) := by
  intro vs
  induction vs with
  | nil => intro j; simp
  | cons v vs ih =>
    intro j
    rw [List.zipIdx_cons, List.filterMap_cons, ih (j + 1)]
    dsimp only
    rw [hg j]
    by_cases h1 : a ≤ j
    · by_cases h2 : j < b
      · have e1 : a - j = 0 := by omega
        have e2 : a - (j + 1) = 0 := by omega
        have e3 : b - j = (b - (j + 1)) + 1 := by omega
        simp [h1, h2, e1, e2, e3]
      · have e1 : a - j = 0 := by omega
        have e2 : a - (j + 1) = 0 := by omega
        have e3 : b - j = 0 := by omega
        have e4 : b - (j + 1) = 0 := by omega
        simp [h2, e1, e2, e3, e4]
    · have e1 : a - j = (a - (j + 1)) + 1 := by omega
      have e3 : b - j = (b - (j + 1)) + 1 := by omega
      simp [h1, e1, e3]
section
variable {prog : Program} {w : World} {A : Around} {E : Value → Shared → Prop} {s : Shared} {K : Frag} {C x : Addr} {R : Result → Shared → Prop} {L : Addr} {h₀ : Heap} {m : Str → Option Value} {news : List (Addr × Obj)}
theorem sub_del {pre post : List (Addr × Obj)} {dx sl : Addr} {vs : List Value} {n a b : Nat} {ta tb : Tok} {Q : Unit → Shared → Prop} (F : Fr h₀ L s.heap m) (N : News h₀ L s.heap (pre ++ (x, lstObj C dx vs.toArray n) :: post))
    (h1 : ∀ p ∈ pre, p.1 ≠ x) (h2 : ∀ p ∈ post, p.1 ≠ x) (X : K.In s.heap) (Y : SubAt (model prog w) s.heap K C x)
    (hd : mroIn K C (.type "collections.deque") = some false) (hf : findIn K (.ref C) "__delitem__" = some (some (.builtin "list.__delitem__")))
    (hs : s.heap.IsSliceOf sl (.int a ta) (.int b tb) .none) (hab : a ≤ b) (hb : b ≤ vs.length) (hz : vs.length ≤ 1000)
    (h : ∀ h' n', Fr h₀ L h' m → News h₀ L h' (pre ++ (x, lstObj C dx (vs.take a ++ vs.drop b).toArray n') :: post) → Q () { s with heap := h' }) :
    wpAny (model prog w) A (delItem (.ref x) (.ref sl)) Q E s := by
  obtain ⟨os, hos, hcs, hds⟩ := id hs
  have hTs : s.TypeIs (.ref sl) "slice" := ⟨os, hos, hcs⟩
  have ho := (N (x, lstObj C dx vs.toArray n) (by simp)).1
  unfold delItem
  refine wpAny_holding ?_
  refine wpAny_bind (sub_nodeque X Y.typ hd ?_)
  refine wpAny_bind (m := callSpecial? (.ref x) (Str.ofString "__delitem__") _) (sub_special X Y hf (PySem.F.slot_list_delitem.bind _) (wpAny_call (sub_call Y (n := "__delitem__") (by decide +kernel) (by decide +kernel) PySem.F.entry_list_delitem (by decide +kernel) (PySem.F.args_list_delitem_2 _ _) ?_)))
  show wpAny _ _ (Builtin.List.listSubscript? (.ref sl) >>= _) _ _ s
  refine wpAny_bind ?_
  unfold Builtin.List.listSubscript?
  refine wpAny_bind (wpAny_specialOf hTs PySem.slice_no_index ?_)
  simp only [Option.isNone_none, if_true]
  refine wpAny_pure ?_
  show wpAny _ _ (typeOf (.ref sl) >>= _) _ _ s
  refine wpAny_bind (wpAny_typeOf hTs ?_)
  rw [if_neg (by decide)]
  rw [PySem.listSliceParts_eq]
  refine wpAny_bind (wpAny_bind (wpAny_field hos hds (x := .none) rfl (wpAny_bind (wpAny_listPart IsPart.none ?_))))
  rw [if_neg (by exact Bool.false_ne_true)]
  refine wpAny_bind (wpAny_field hos hds (x := .int a ta) rfl (wpAny_bind (wpAny_listPart (IsPart.int _ _) ?_)))
  refine wpAny_bind (wpAny_field hos hds (x := .int b tb) rfl (wpAny_bind (wpAny_listPart (IsPart.int _ _) (wpAny_pure ?_))))
  refine wpAny_bind (m := Builtin.List.listItems (.ref x)) ?_
  unfold Builtin.List.listItems
  refine wpAny_bind (wpAny_seqItems ho rfl (wpAny_pure ?_))
  refine wpAny_bind (wpAny_of_eq (sliceIndices_raw (some (a : Int)) (some (b : Int)) none vs.toArray.size (by simp)) ?_)
  have e1 : kms_lo (some (a : Int)) vs.toArray.size = a := by
    show (if (a : Int) < 0 then vs.toArray.size - (-(a : Int)).toNat else min (a : Int).toNat vs.toArray.size) = a
    rw [if_neg (by omega), Int.toNat_natCast, List.size_toArray]; omega
  have e2 : kms_hi (some (b : Int)) vs.toArray.size = b := by
    show (if (b : Int) < 0 then vs.toArray.size - (-(b : Int)).toNat else min (b : Int).toNat vs.toArray.size) = b
    rw [if_neg (by omega), Int.toNat_natCast, List.size_toArray]; omega
  rw [kms_bounds, e1, e2]
  refine wpAny_bind (wpAny_rule (wpAny_bind ?_))
  have ef : ∀ f : Array Value → Array Value, f vs.toArray = (vs.take a ++ vs.drop b).toArray → (∀ Q' : Unit → Shared → Prop, (∀ h' n', Fr h₀ L h' m → News h₀ L h' (pre ++ (x, lstObj C dx (vs.take a ++ vs.drop b).toArray n') :: post) → Q' () { s with heap := h' }) →
      ∀ (A' : Around) (E' : Value → Shared → Prop), wpAny (model prog w) A' (updateSeq x f) Q' E' s) := by
    intro f hfe Q' hQ' A' E'
    refine wpAny_updateSeq (hz := by simp [sizeLine_eq]; omega) (_hz' := by rw [hfe]; simp [sizeLine_eq]; omega) ho rfl ?_
    obtain ⟨n2, e⟩ := mapSeq_lst (C := C) (dx := dx) (xs := vs.toArray) (n := n) f
    rw [hfe] at e
    obtain ⟨F2, N2⟩ := news_upd (f := Obj.mapSeq f) F N h1 h2 e rfl
    exact hQ' _ n2 F2 N2
  refine ef _ ?_ _ ?_ _ _
  · dsimp only
    rw [del_pick (fun k => _) a b hab (fun k => ?_) vs 0]
    · rfl
    · show (if (1 : Int) > 0 then decide ((a : Int) ≤ (k : Int)) && decide ((k : Int) < (b : Int)) && ((k : Int) - (a : Int)) % 1 == 0 else decide ((b : Int) < (k : Int)) && decide ((k : Int) ≤ (a : Int)) && ((a : Int) - (k : Int)) % (-1) == 0) = _
      rw [if_pos (by decide), Int.emod_one]
      simp
  · intro h' n' F' N'
    refine wpAny_bind (wpAny_letGo (wpAny_pure (wpAny_pure ?_)))
    exact h h' n' F' N'
end
end

/- part MCut -/
section
def cut (h : Heap) (C : Nat) : Heap := { h with objs := h.objs.extract 0 C }
theorem cut_get (h : Heap) (C b : Nat) : (cut h C).get? b = if b < C then h.get? b else none := by
  have e : (h.objs.extract 0 C)[b]? = if b < C then h.objs[b]? else none := by
    rw [Array.getElem?_extract]
    by_cases hb : b < C
    · by_cases hs : b < h.objs.size
      · rw [if_pos hb, if_pos (by omega), Nat.zero_add]
      · rw [if_pos hb, if_neg (by omega), Array.getElem?_eq_none (by omega)]
    · rw [if_neg hb, if_neg (by omega)]
  unfold cut Heap.get?
  dsimp only
  rw [e]
  by_cases hb : b < C
  · rw [if_pos hb, if_pos hb]
  · rw [if_neg hb, if_neg hb]
theorem cut_size {h : Heap} {C : Nat} (hC : C ≤ h.objs.size) : (cut h C).objs.size = C := by
  unfold cut; simp; omega
theorem cut_keep {h : Heap} {C b : Nat} {o : Obj} (e : (cut h C).get? b = some o) : h.get? b = some o := by
  rw [cut_get] at e; split at e
  · exact e
  · cases e
theorem cut_none {h : Heap} {C b : Nat} (hb : C ≤ b) : (cut h C).get? b = none := by rw [cut_get, if_neg (by omega)]
theorem cut_lt {h : Heap} {C b : Nat} {o : Obj} (hb : b < C) (e : h.get? b = some o) : (cut h C).get? b = some o := by rw [cut_get, if_pos hb, e]
theorem fr_cut {h₀ h : Heap} {L C : Nat} {m : Str → Option Value} (F : Fr h₀ L h m) (hL : L < C) : Fr h₀ L (cut h C) m :=
  ⟨F.ns.at' fun _ e => cut_lt hL e, fun b o e => cut_lt (Nat.lt_trans (Nat.lt_of_lt_of_le (Heap.lt_size e) F.above) hL) (F.keep b o e), F.above⟩
theorem fr_gen {h : Heap} {C : Nat} {m : Str → Option Value} (hn : h.Ns C m) (hC : C ≤ h.objs.size) : Fr (cut h C) C h m :=
  ⟨hn, fun _ _ e => cut_keep e, Nat.le_of_eq (cut_size hC)⟩
theorem news_gen {h : Heap} {C : Nat} {news : List (Addr × Obj)} (h1 : ∀ p ∈ news, h.get? p.1 = some p.2 ∧ C < p.1) : News (cut h C) C h news :=
  fun p hp => ⟨(h1 p hp).1, Nat.ne_of_gt (h1 p hp).2, cut_none (Nat.le_of_lt (h1 p hp).2)⟩
end

/- part MGen -/
section
theorem bare_set {gn : Array GenState} {g : Nat} {gs : GenState} (h : AllBare gn) (hb : gs.bare = true) : AllBare (gn.setIfInBounds g gs) := by
  intro y hy
  obtain ⟨i, hi, rfl⟩ := Array.mem_iff_getElem.mp hy
  have hi' : i < gn.size := by simpa using hi
  rw [Array.getElem_setIfInBounds hi']
  split
  · exact hb
  · exact h _ (Array.getElem_mem hi')
theorem bare_run {gn : Array GenState} {g : Nat} (h : AllBare gn) : AllBare (gn.setIfInBounds g .running) := bare_set h rfl
theorem bare_fin {gn : Array GenState} {g : Nat} (h : AllBare gn) : AllBare (gn.setIfInBounds g .finished) := bare_set h rfl
section
variable {prog : Program} {w : World} {A : Around}
abbrev gxLoop (elt target iter : PySem.Expr) (scope : Scope) (pos : Pos) (it : Value) (cenv : Env) : Code := .compLoop (.GeneratorExp elt [⟨target, iter, [], 0⟩] scope pos) 0 it .none cenv
abbrev gxStart (elt target iter : PySem.Expr) (scope : Scope) (pos : Pos) (it : Value) (cenv : Env) : Code := .compStart (.GeneratorExp elt [⟨target, iter, [], 0⟩] scope pos) 0 it .none cenv
def gxProto (n : Nat) (J : Nat → Shared → Prop) (Yv : Nat → Value → Shared → Prop) : Protocol := fun m _ v s kap => ∃ i, i < n ∧ m = n - 1 - i ∧ Yv i v s ∧ ∀ s'' : Shared, J (i + 1) s'' → kap (.send .none) s''
def gxEnd (Dn : Shared → Prop) : GenEnd := fun k _ r s₁ => r = .ok .next ∧ (k = 0 ∧ Dn s₁)
def GxTurn (prog : Program) (w : World) (A : Around) (target elt : PySem.Expr) (it : Value) (cenv : Env) (n : Nat) (J : Nat → Shared → Prop) (Yv : Nat → Value → Shared → Prop) : Prop :=
  ∀ i s, i < n → J i s → wpAny (model prog w) A (pyNext it) (fun r s₁ => ∃ v, r = some v ∧ wpAny (model prog w) A (letOwnedTupleGo target it v) (fun _ s₂ =>
    wpAny (model prog w) A (assign target cenv v) (fun _ s₃ => wpAny (model prog w) A (eval elt cenv) (fun y s₄ => Yv i y s₄) (fun _ _ => False) s₃) (fun _ _ => False) s₂) (fun _ _ => False) s₁) (fun _ _ => False) s
theorem gx_loop {elt target iter : PySem.Expr} {scope : Scope} {pos : Pos} {it : Value} {cenv : Env} {n : Nat} {J : Nat → Shared → Prop} {Yv : Nat → Value → Shared → Prop} {Dn : Shared → Prop}
    (hco : cenv.scope.isCoroutine = false)
    (turn : GxTurn prog w (A.over (gxLoop elt target iter scope pos it cenv) []) target elt it cenv n J Yv)
    (done : ∀ s, J n s → wpAny (model prog w) (A.over (gxLoop elt target iter scope pos it cenv) []) (pyNext it) (fun r s₁ => r = none ∧ Dn s₁) (fun _ _ => False) s) :
    ∀ k i s₀ s, n - i = k → i ≤ n → J i s → Seg (model prog w) A (gxEnd Dn) (gxProto n J Yv) (n - i) s₀ (gxLoop elt target iter scope pos it cenv) ((model prog w).den (gxLoop elt target iter scope pos it cenv)) [] s := by
  intro k
  induction k with
  | zero =>
    intro i s₀ s hk hi hJ
    have hin : i = n := by omega
    subst hin
    show Seg _ A _ _ _ s₀ _ ((compTurn (.GeneratorExp elt [⟨target, iter, [], 0⟩] scope pos) 0 it .none cenv).onRaise (leaving cenv)) [] s
    rw [compTurn_gen, Sem.onRaise_eq_wrap]
    refine seg_bind_wrap (wpAny_standAt ?_)
    refine seg_bind_wrap (wpAny_mono (done s hJ) (fun r s₁ h => ?_) fun _ _ e => e.elim)
    obtain ⟨rfl, hd⟩ := h
    exact seg_end (.ok .next) ⟨rfl, Nat.sub_self _, hd⟩
  | succ k ih =>
    intro i s₀ s hk hi hJ
    have hlt : i < n := by omega
    rw [show n - i = (n - (i + 1)) + 1 by omega]
    show Seg _ A _ _ _ s₀ _ ((compTurn (.GeneratorExp elt [⟨target, iter, [], 0⟩] scope pos) 0 it .none cenv).onRaise (leaving cenv)) [] s
    rw [compTurn_gen, Sem.onRaise_eq_wrap]
    refine seg_bind_wrap (wpAny_standAt ?_)
    refine seg_bind_wrap (wpAny_mono (turn i s hlt hJ) (fun r s₁ h => ?_) fun _ _ e => e.elim)
    obtain ⟨v, rfl, h⟩ := h
    refine seg_bind_wrap (wpAny_mono h (fun _ s₂ h₂ => ?_) fun _ _ e => e.elim)
    refine seg_bind_wrap (wpAny_mono h₂ (fun _ s₃ h₃ => ?_) fun _ _ e => e.elim)
    refine seg_bind_wrap (m := forIn [] true _) (wpAny_pure ?_)
    simp only [if_true]
    have hy : ∀ v, yieldOut cenv v = yieldValue v := fun v => by simp only [yieldOut, hco, Bool.false_eq_true, if_false]
    simp only [hy]
    rw [Sem.bind_eq_wrap', Sem.bind_eq_wrap', Sem.wrap_wrap, Sem.wrap_wrap]
    refine seg_wrap (wpAny_mono h₃ (fun y s₄ h₄ => ?_) fun _ _ e => e.elim)
    refine seg_at (seg_yield rfl rfl rfl ⟨i, hlt, by omega, h₄, fun s'' hJ' => ?_⟩)
    exact seg_again rfl (ih (i + 1) s'' s'' (by omega) hlt hJ')
theorem gx_start {elt target iter : PySem.Expr} {scope : Scope} {pos : Pos} {it : Value} {cenv : Env} {n : Nat} {J : Nat → Shared → Prop} {Yv : Nat → Value → Shared → Prop} {Dn : Shared → Prop}
    (hco : cenv.scope.isCoroutine = false)
    (turn : GxTurn prog w (A.over (gxLoop elt target iter scope pos it cenv) []) target elt it cenv n J Yv)
    (done : ∀ s, J n s → wpAny (model prog w) (A.over (gxLoop elt target iter scope pos it cenv) []) (pyNext it) (fun r s₁ => r = none ∧ Dn s₁) (fun _ _ => False) s)
    (self : ∀ s, J 0 s → wpAny (model prog w) (A.over (gxStart elt target iter scope pos it cenv) []) (pyIter it) (fun r s' => r = it ∧ s' = s) (fun _ _ => False) s)
    (s₀ s : Shared) (hJ : J 0 s) : Seg (model prog w) A (gxEnd Dn) (gxProto n J Yv) n s₀ (gxStart elt target iter scope pos it cenv) ((model prog w).den (gxStart elt target iter scope pos it cenv)) [] s := by
  have loop := gx_loop (A := A) (iter := iter) (scope := scope) (pos := pos) hco turn done n 0 s₀ s (Nat.sub_zero _) (Nat.zero_le _) hJ
  rw [Nat.sub_zero] at loop
  show Seg _ A _ _ _ s₀ _ ((compStart (.GeneratorExp elt [⟨target, iter, [], 0⟩] scope pos) 0 it .none cenv).onRaise (leaving cenv)) [] s
  unfold compStart
  rw [Sem.onRaise_eq_wrap]
  show Seg _ A _ _ _ s₀ _ ((ask >>= _).wrap _ _ _ _) [] s
  refine seg_bind_wrap (wpAny_askSetting ?_)
  split
  · exact seg_again rfl loop
  · have sf := wpAny_mono (self s hJ) (Q' := fun r s' => Seg (model prog w) A (gxEnd Dn) (gxProto n J Yv) n s₀ (gxStart elt target iter scope pos it cenv) ((again (.compLoop (.GeneratorExp elt [⟨target, iter, [], 0⟩] scope pos) 0 r .none cenv)).wrap .pure (fun e => (leaving cenv e).bind fun _ => .raise e) id id) [] s') (fun r s' h => by obtain ⟨rfl, rfl⟩ := h; exact seg_again rfl loop) (E' := fun x s' => Seg (model prog w) A (gxEnd Dn) (gxProto n J Yv) n s₀ (gxStart elt target iter scope pos it cenv) ((fun e => (leaving cenv e).bind fun _ => .raise e) x) [] s') (fun _ _ e => e.elim)
    first
      | exact seg_bind_wrap (wpAny_rule (seg_bind_wrap (wpAny_standAt (seg_bind_wrap sf))))
      | (refine seg_bind_wrap (wpAny_rule ?_); show Seg _ A _ _ _ s₀ _ ((standAt iter.pos >>= _).wrap _ _ _ _) [] s; exact seg_bind_wrap (wpAny_standAt (seg_bind_wrap sf)))
def GxAt (prog : Program) (w : World) (A : Around) (n : Nat) (J : Nat → Shared → Prop) (Yv : Nat → Value → Shared → Prop) (Dn : Shared → Prop) (i : Nat) (gs : GenState) : Prop :=
  ∀ s', J i s' → gs.Goes (model prog w) A.in1 (gxEnd Dn) (gxProto n J Yv) (n - i) (.send .none) s'
theorem gx_item {n i : Nat} {J : Nat → Shared → Prop} {Yv : Nat → Value → Shared → Prop} {Dn : Shared → Prop} {a : Addr} {g : Nat} {gs : GenState} {s : Shared} {Q : Option Value → Shared → Prop} {E : Value → Shared → Prop} (hh : A.handled = none)
    (hl : s.heap.NoLimit) (hroom : A.depth < recursionLimit) (hg : s.heap.IsGen a g) (hgs : s.gens[g]? = some gs) (hi : i < n) (hgo : GxAt prog w A n J Yv Dn i gs) (hJ : J i (s.setGen g .running))
    (h : ∀ v s₁ gs', gs'.bare = true → Yv i v s₁ → GxAt prog w A n J Yv Dn (i + 1) gs' → Q (some v) (s₁.setGen g gs')) : wpAny (model prog w) A (pyNext (.ref a)) Q E s := by
  refine wpAny_pyNext_genexpQ (P := fun k _ s₁ => k = 0 ∧ Dn s₁) hh hl hroom hg hgs (hgo _ hJ) (fun v s₁ gs' hb hy => ?_) (fun s₁ hp => ?_)
  · obtain ⟨i', h1, h2, h3, h4⟩ := hy
    have : i' = i := by omega
    subst this
    refine h v s₁ gs' hb h3 fun s'' hJ' => ?_
    have := h4 s'' hJ'
    rw [show n - i' = (n - (i' + 1)) + 1 by omega] at this
    exact this
  · have := hp.1
    omega
theorem gx_done {n : Nat} {J : Nat → Shared → Prop} {Yv : Nat → Value → Shared → Prop} {Dn : Shared → Prop} {a : Addr} {g : Nat} {gs : GenState} {s : Shared} {Q : Option Value → Shared → Prop} {E : Value → Shared → Prop} (hh : A.handled = none)
    (hl : s.heap.NoLimit) (hroom : A.depth < recursionLimit) (hg : s.heap.IsGen a g) (hgs : s.gens[g]? = some gs) (hgo : GxAt prog w A n J Yv Dn n gs) (hJ : J n (s.setGen g .running))
    (h : ∀ s₁, Dn s₁ → ∀ h', (∀ b o, s₁.heap.get? b = some o → h'.get? b = some o) → Q none { s₁.setGen g .finished with heap := h' }) : wpAny (model prog w) A (pyNext (.ref a)) Q E s := by
  have q := hgo _ hJ
  rw [Nat.sub_self] at q
  refine wpAny_pyNext_genexp (P := fun k _ s₁ => k = 0 ∧ Dn s₁) hh hl hroom hg hgs q (fun v s₁ gs' hy => ?_) (fun s₁ hp => h s₁ hp.2)
  obtain ⟨i', h1, h2, h3, h4⟩ := hy
  have e : i' + 1 = n := by omega
  subst e
  exact (h4 _ hJ).elim
end
end

/- part MGcx -/
section
section
variable {w : World} {A A₀ : Around} {base h₀ g h : Heap} {outer : List Env} {env cenv : Env} {L C : Addr} {m mC mg mb : Str → Option Value} {p₀ : Program} {loose : List Str}
theorem below_gen (B : Below A₀ base outer h₀) (F : Fr h₀ L g m) (hA : A.frames = some (env :: outer)) (hf : env.frame = some L) (hk : env.scope.kind = .function) (hl : env.locals = L) : Below A base (env :: outer) g := by
  have hnew : base.get? L = none := by
    cases hq : base.get? L with
    | none => rfl
    | some o => exact absurd (Nat.lt_of_lt_of_le (Heap.lt_size (B.stays L o hq)) F.above) (Nat.lt_irrefl _)
  refine ⟨hA, fun b o e => F.keep b o (B.stays b o e), ?_⟩
  exact .cons (by rw [hk]; decide) hf F.ns hnew (B.frames.of_keeps fun b o e _ => ⟨o, F.keep b o e, rfl⟩)
theorem over_frames {c : Code} {l : List Env} (hA : A.frames = some l) (hc : c.envs = [cenv]) : (A.in1.over c []).frames = some (cenv :: l) := by
  show pushEnvs c.envs (pushEnvs [] A.in1.frames) = _
  rw [hc]
  show pushEnvs [cenv] (pushEnvs [] A.frames) = _
  rw [hA]
  rfl
theorem cx_gen {c : Code} (cx : Cx w A A₀ base h₀ outer env L mg mb p₀ loose) (hl : env.locals = L) (F : Fr h₀ L h m) (hLC : L < C) (hc : c.envs = [cenv]) (hf : cenv.frame = some C) (hk : cenv.scope.kind = .function) :
    Cx w (A.in1.over c []) A base (cut h C) (env :: outer) cenv C mg mb p₀ loose :=
  have Fc := fr_cut F hLC
  ⟨below_gen cx.B Fc cx.hA cx.hf cx.hk hl, cx.X.keeps Fc.keep, cx.T.keeps Fc.keep, cx.hh, over_frames cx.hA hc, hf, hk⟩
end
end

/- part MMk -/
section
section
variable {prog : Program} {w : World} {A : Around} {E : Value → Shared → Prop} {s : Shared} {h₀ : Heap} {L : Addr} {m : Str → Option Value} {news : List (Addr × Obj)}
theorem gx_code_hit {M : Model} {env : Env} {c P : Addr} {ps : Array Value} {pos : Pos} {qualname : Str} {scope : Scope} {cv : Value} {Q : Value → Shared → Prop} (hc : env.code = .ref c) (hok : s.heap.IsCode c P ps) (hf : codeAmong pos ps.toList = some cv)
    (hQ : Q cv s) : wpAny M A (genexprCode env pos qualname scope) Q E s := by
  obtain ⟨o, vs, file, tf, flags, tg, inF, text, tt, op, ho, hd, h11, h2, h7, h9, h10, hop, hpd, htr, hne⟩ := id hok
  unfold genexprCode codeAt
  rw [hc, if_neg (show ¬ ((Value.ref c == Value.none) = true) from Bool.false_ne_true)]
  refine wpAny_bind (wpAny_fieldsOf ho hd ?_)
  rw [h11]
  refine wpAny_bind (wpAny_fieldsOf hop hpd ?_)
  rw [hf]
  exact wpAny_pure hQ
structure Bm (mg : Str → Option Value) (h : Heap) : Prop where
  ns : h.Ns mainGlobals mg
  at_ : ∃ bm ob, mg "__builtins__" = some (.ref bm) ∧ bm ≠ builtinsNs ∧ h.get? bm = some ob ∧ ob.cls = .type "module" ∧ ob.dict = some builtinsNs ∧ ob.data = .plain
theorem Bm.keeps {mg : Str → Option Value} {h h' : Heap} (x : Bm mg h) (hk : ∀ b o, h.get? b = some o → h'.get? b = some o) : Bm mg h' := ⟨x.ns.keeps hk, let ⟨bm, ob, a, b, c, d⟩ := x.at_; ⟨bm, ob, a, b, hk _ _ c, d⟩⟩
theorem Bm.at {mg : Str → Option Value} {h : Heap} {P : Addr} {running : Addr} {Q : Addr → Shared → Prop} {M : Model} (x : Bm mg h) (hP : h.get? P = none) (hk : ∀ b o, b ≠ P → h.get? b = some o → s.heap.get? b = some o) (h : Q builtinsNs s) : wpAny M A (builtinsFor mainGlobals running) Q E s := by
  obtain ⟨bm, ob, a, b, c, d, e, f⟩ := x.at_
  have g : s.heap.Ns mainGlobals mg := x.ns.at' fun o e => hk _ o (fun q => by rw [q, hP] at e; cases e) e
  exact wpAny_builtinsFor g a b (hk _ _ (fun q => by rw [q, hP] at c; cases c) c) d e f h
abbrev genObj (g : Nat) (t1 t2 : Tok) (q : Str) : Obj := { cls := .type "generator", data := .fields #[.int g 0, .str "<genexpr>" t1, .str q t2] }
theorem gx_make {env : Env} {elt target iter : PySem.Expr} {scope : Scope} {cl : List (Str × Addr)} {pos : Pos} {c P : Addr} {mg : Str → Option Value} {Q : Value → Shared → Prop}
    (_F : Fr h₀ L s.heap m) (hco : scope.isCoroutine = false) (hclos : closureFor scope env = pure cl) (hcell : ∀ y ∈ scope.names, y.2 ≠ .cell) (hd0 : scope.names.lookup (".0" : Str) = some NameKind.local) (hkind : scope.kind = .function)
    (hroom : A.depth < recursionLimit) (hcode : env.code = .ref c) (hgl : env.globals = mainGlobals) (hC : CodeHd h₀ c P) (hb : Bm mg h₀) (hlim : h₀.NoLimit)
    (h : wpAny (model prog w) A (eval iter env) (fun xv s₁ => wpAny (model prog w) A (pyIter xv) (fun it s₂ => ∃ nw ps, Fr h₀ L s₂.heap m ∧ News h₀ L s₂.heap ((P, tabObj ps) :: nw) ∧ TriplesOk ps.toList ∧ (∀ p ∈ nw, p.1 ≠ P) ∧
      ∀ (C a : Nat) h₅ tk ps' code oC t1 t2, Fr h₀ L h₅ m → News h₀ L h₅ ((a, genObj s₂.gens.size t1 t2 (env.qual ++ "<genexpr>")) :: (C, oC) :: (P, tabObj ps') :: nw) → TriplesOk ps'.toList → h₅.Ns C (fun y => if y = ".0" then some it else none) →
        TopLe ((P, tabObj ps) :: nw) C → L < C → C < a →
        Q (.ref a) { s₂ with gens := s₂.gens.push (.fresh (.compStart (.GeneratorExp elt [⟨target, iter, [], 0⟩] scope pos) 0 it .none (genEnv scope cl C code builtinsNs env))), toks := tk, heap := h₅ }) E s₁) E s)
    (hs : ∀ x, genFold iter env x = pure x) :
    wpAny (model prog w) A (eval (.GeneratorExp elt [⟨target, iter, [], 0⟩] scope pos) env) Q E s := by
  refine wpAny_GeneratorExp_make hco hclos hcell hd0 hkind hroom (wpAny_mono h (fun xv s₁ h₁' => wpAny_mono h₁' (fun it s₂ h₂ => ?_) fun _ _ e => e) fun _ _ e => e) hs
  obtain ⟨nw, ps, F2, N2, ht, hoff, hQ⟩ := h₂
  have hP2 := N2 _ (List.mem_cons_self)
  refine ⟨hlim.keeps F2.keep, ?_⟩
  have hcd := hC.keeps F2.keep
  -- behind the code object
  have fin : ∀ (code : Value) (h₃ : Heap) (tk : Nat) (ps' : Array Value), Heap.ExtBut P s₂.heap h₃ → s₂.heap.objs.size ≤ h₃.objs.size → h₃.get? P = some (tabObj ps') → TriplesOk ps'.toList →
      wpAny (model prog w) A (builtinsFor env.globals env.builtins) (fun bi s₄ => ∀ h', h'.Ns s₄.heap.objs.size (fun y => if y = ".0" then some it else none) → Heap.SameBut s₄.heap.objs.size (s₄.heap.push { cls := .type "frame", data := .dict #[] }) h' →
          Q (.ref h'.objs.size) { s₄ with
            gens := s₄.gens.push (.fresh (.compStart (.GeneratorExp elt [⟨target, iter, [], 0⟩] scope pos) 0 it .none (genEnv scope cl s₄.heap.objs.size code bi env))),
            toks := s₄.toks + 1 + 1 + 1,
            heap := h'.push { cls := .type "generator", data := .fields #[.int s₄.gens.size 0, .str "<genexpr>" (s₄.toks + 1), .str (env.qual ++ "<genexpr>") (s₄.toks + 1 + 1)] } }) E { s₂ with heap := h₃, toks := tk } := by
    intro code h₃ tk ps' hx hsz hP3 ht3
    rw [hgl]
    refine hb.at hP2.2.2 (fun b o hbP e => hx b o hbP (F2.keep b o e)) ?_
    intro h' hns hsb
    dsimp only at hns hsb ⊢
    obtain ⟨F3, N3⟩ := ext_off F2 N2 hoff hx
    have N3' : News h₀ L h₃ ((P, tabObj ps') :: nw) := fun p hp => by
      rcases List.mem_cons.mp hp with rfl | hp
      · exact ⟨hP3, hP2.2⟩
      · exact N3 p hp
    have top3 : TopLe ((P, tabObj ps) :: nw) h₃.objs.size := topLe_of fun p hp => Nat.lt_of_lt_of_le (Heap.lt_size (N2 p hp).1) hsz
    have hLlt : L < h₃.objs.size := F3.ns.lt
    have F4 := F3.push ({ cls := .type "frame", data := .dict #[] } : Obj)
    have N4 := N3'.push F3 ({ cls := .type "frame", data := .dict #[] } : Obj)
    obtain ⟨oC, es, ep, hoC, hdC⟩ := id hns
    have hC4 := N4 _ List.mem_cons_self
    have F5 := F4.change hsb hC4.2.1 hC4.2.2
    have offC : ∀ p ∈ (P, tabObj ps') :: nw, p.1 ≠ h₃.objs.size := fun p hp => Nat.ne_of_lt (Heap.lt_size (N3' p hp).1)
    have N5 := News.setIn (own := []) N4 (fun _ q => by cases q) offC hsb hoC
    have F6 := F5.push (genObj s₂.gens.size (tk + 1) (tk + 1 + 1) (env.qual ++ "<genexpr>"))
    have N6 := N5.push F5 (genObj s₂.gens.size (tk + 1) (tk + 1 + 1) (env.qual ++ "<genexpr>"))
    exact hQ h₃.objs.size h'.objs.size _ _ ps' code oC _ _ F6 N6 ht3 (hns.keeps fun _ _ e => Heap.get?_push_of_some _ e) top3 hLlt (Heap.lt_size hoC)
  cases hf : codeAmong pos ps.toList with
  | some cv => exact gx_code_hit hcode (hcd.code hP2.1 ht) hf (fin cv s₂.heap s₂.toks ps (Heap.ExtBut.refl _ _) (Nat.le_refl _) hP2.1 ht)
  | none => exact wpAny_genexprCodeX hcode (hcd.code hP2.1 ht) (hcd.tab hP2.1) hf fun c' h₃ tk₃ hx₃ hge hlt hcode₃ _ htab₃ _ => fin (.ref c') h₃ tk₃ _ hx₃ (Nat.le_trans hge (Nat.le_of_lt hlt)) htab₃.2 (by simpa using TriplesOk_snoc _ _ _ _ ht)
end
end

/- part MTg -/
theorem fresh_MTg : True ∧ True := by
  w_top off
  first
    | (walk1; done)
    | exact ⟨True.intro, True.intro⟩
section
abbrev underC (A : Around) (a : Addr) : Around := (A.under (.builtin "type.__call__" ⟨[.ref 366, .ref a], []⟩)).in1
abbrev gSt (s : Shared) (h : Heap) (tk : Nat) (gn : Array GenState) : Shared := { s with heap := h, toks := tk, gens := gn }
def gJ (s : Shared) (g : Nat) (JH : Nat → Heap → Prop) (i : Nat) (s' : Shared) : Prop := ∃ h tk gn, s' = gSt s h tk gn ∧ (AllBare s.gens → AllBare gn) ∧ g < gn.size ∧ JH i h
def gY (s : Shared) (g : Nat) (YH : Nat → Value → Heap → Prop) (i : Nat) (v : Value) (s' : Shared) : Prop := ∃ h tk gn, s' = gSt s h tk gn ∧ (AllBare s.gens → AllBare gn) ∧ g < gn.size ∧ YH i v h
def gD (s : Shared) (g : Nat) (DH : Heap → Prop) (s' : Shared) : Prop := ∃ h tk gn, s' = gSt s h tk gn ∧ (AllBare s.gens → AllBare gn) ∧ g < gn.size ∧ DH h
theorem gn_lt {gn : Array GenState} {g : Nat} {gs : GenState} (h : gn[g]? = some gs) : g < gn.size := by
  rcases Nat.lt_or_ge g gn.size with h' | h'
  · exact h'
  · rw [Array.getElem?_eq_none h'] at h; cases h
theorem gn_set {gn : Array GenState} {g : Nat} {gs : GenState} (h : g < gn.size) : (gn.setIfInBounds g gs)[g]? = some gs := by
  rw [Array.getElem?_setIfInBounds, if_pos rfl, if_pos h]
theorem init366 {w : World} : findIn (hd.heap_39 w.params) (.ref 366) "__init__" = some (some (.builtin "list.__init__")) := by kernel_rfl
theorem tags_gen {w : World} {A A₀ : Around} {s : Shared} {base h₀ : Heap} {outer : List Env} {env : Env} {L : Addr} {m mg mb : Str → Option Value} {p₀ : Program} {loose : List Str} {news : List (Addr × Obj)} {E : Value → Shared → Prop} {Q : Value → Shared → Prop} {a : Addr} {g n : Nat} {gs : GenState} {oa : Obj} {nm qn : Value} (cx : Cx w A A₀ base h₀ outer env L mg mb p₀ loose) (F : Fr h₀ L s.heap m) (N : News h₀ L s.heap news) (hr : A.depth + 20 < recursionLimit) (hu : A.units + 100 < cLine)
    (ha : (a, oa) ∈ news) (hag : oa.cls = .type "generator" ∧ oa.data = .fields #[.int g 0, nm, qn] ∧ oa.slots = #[]) (hgs : s.gens[g]? = some gs)
    (JH : Addr → Addr → Nat → Heap → Prop) (YH : Addr → Addr → Nat → Value → Heap → Prop) (DH : Addr → Addr → Heap → Prop)
    (go : ∀ x dx : Nat, TopLe news dx → dx < x → GxAt Challenge.rw_fy0015_01.row.toRowW.1 w (underC A a) n (gJ s g (JH x dx)) (gY s g (YH x dx)) (gD s g (DH x dx)) 0 gs)
    (start : ∀ (x dx : Nat) h' nn, Fr h₀ L h' m → News h₀ L h' ((x, tagsObj dx [] nn) :: (dx, emptyDict) :: news) → TopLe news dx → dx < x → JH x dx 0 h')
    (src : ∀ x dx i h, JH x dx i h → h.NoLimit ∧ h.IsGen a g)
    (push : ∀ x dx i v (s' : Shared), i < n → YH x dx i v s'.heap → wpAny (model Challenge.rw_fy0015_01.row.toRowW.1 w) (underC A a) (updateSeq x (·.push v)) (fun _ s'' => ∃ h', s'' = { s' with heap := h' } ∧ JH x dx (i + 1) h') (fun _ _ => False) s')
    (fin : ∀ (x dx : Nat) h h' tk gn, TopLe news dx → dx < x → DH x dx h → (∀ b o, h.get? b = some o → h'.get? b = some o) → (AllBare s.gens → AllBare gn) → Q (.ref x) (gSt s h' tk gn)) :
    wpAny (model Challenge.rw_fy0015_01.row.toRowW.1 w) A (call (.ref 366) [.ref a]) Q E s := by
  have hdep : (underC A a).depth < recursionLimit := by
    unfold underC
    (try simp only [depth_under_make, depth_in1])
    omega
  have hhd : (underC A a).handled = none := cx.hh
  obtain ⟨B, X₀, T, hh, hA, hf, hk⟩ := cx
  refine wpAny_call (subL_make F N (X₀.keeps F.keep) (by kernel_rfl) init366 fun x dx h' n' F' N' l1 l2 => ?_)
  have hal := (N' _ (List.Mem.tail _ (List.Mem.tail _ ha))).1
  have l3 : @LT.lt Nat _ a dx := l1.lt _ ha
  have hna : x ≠ a := Nat.ne_of_gt (Nat.lt_trans l3 l2)
  have hig : ∀ h5 : Heap, h5.get? a = some oa → h5.IsGen a g := fun h5 e => ⟨oa, nm, qn, e, hag.1, hag.2.1, hag.2.2⟩
  have hT : ∀ s5 : Shared, s5.heap.get? a = some oa → s5.TypeIs (.ref a) "generator" := fun s5 e => ⟨oa, e, hag.1⟩
  unfold Builtin.List.listExtendWith
  refine wpAny_bind (wpAny_typeOf (hT _ hal) ?_)
  have h1 : (Builtin.List.listSameRef (.ref x) (.ref a) || Value.type "generator" == Value.type "list" || Value.type "generator" == Value.type "tuple") = false := by
    simp [Builtin.List.listSameRef, hna]
  simp only [h1, Bool.false_eq_true, if_false]
  refine wpAny_bind (wpAny_pyIter_gen (hig _ hal) ?_)
  refine wpAny_bind (wpAny_holding ?_)
  unfold Builtin.List.listLengthHint
  refine wpAny_bind (wpAny_specialOf (hT _ hal) PySem.F.gen_no_len ?_)
  show wpAny _ _ (specialOf (Value.ref a) (Str.ofString "__length_hint__") >>= _) _ _ _
  refine wpAny_bind (wpAny_specialOf (hT _ hal) PySem.F.gen_no_hint ?_)
  refine wpAny_pure ?_
  show wpAny _ _ (rule "list.extend.makes-room" >>= fun _ => Builtin.List.listTouch (.ref x) >>= fun _ => again (.builtin "list.extend.loop" ⟨[.ref x, .ref a, .none], []⟩)) _ _ _
  refine wpAny_bind (wpAny_rule (wpAny_bind ?_))
  show wpAny _ _ (updateSeq x (·.push .none) >>= fun _ => updateSeq x (·.pop)) _ _ _
  have offx : ∀ p ∈ (dx, emptyDict) :: news, p.1 ≠ x := by
    intro p hp
    rcases List.mem_cons.mp hp with rfl | hp
    · exact Nat.ne_of_lt l2
    · exact Nat.ne_of_lt (Nat.lt_trans (l1.lt p hp) l2)
  have hx2 := (N' (x, _) (List.Mem.head _)).1
  refine wpAny_bind (wpAny_updateSeq (hz := by simp) (_hz' := by simp [sizeLine_eq]) hx2 rfl ?_)
  obtain ⟨n3, e3⟩ := mapSeq_lst (C := 366) (dx := dx) (xs := #[]) (n := n') (·.push .none)
  obtain ⟨F3, N3⟩ := news_upd (pre := []) (f := Obj.mapSeq (·.push .none)) F' N' (fun _ q => by cases q) offx e3 rfl
  have hx3 := (N3 (x, _) (List.Mem.head _)).1
  refine wpAny_updateSeq (hz := by simp [sizeLine_eq]) (_hz' := by simp) hx3 rfl ?_
  obtain ⟨n4, e4⟩ := mapSeq_lst (C := 366) (dx := dx) (xs := (#[] : Array Value).push .none) (n := n3) (·.pop)
  obtain ⟨F4, N4⟩ := news_upd (pre := []) (f := Obj.mapSeq (·.pop)) F3 N3 (fun _ q => by cases q) offx e4 rfl
  have J0 := start x dx _ n4 F4 N4 l1 l2
  refine wpAny_pure ⟨plainId_quiet PySem.F.plain_extend_loop _, ext_loop (n := n) (fun i s' => ∃ h5 tk gn gs', s' = gSt s h5 tk gn ∧ (AllBare s.gens → AllBare gn) ∧ gn[g]? = some gs' ∧ JH x dx i h5 ∧ GxAt Challenge.rw_fy0015_01.row.toRowW.1 w (underC A a) n (gJ s g (JH x dx)) (gY s g (YH x dx)) (gD s g (DH x dx)) i gs') ?_ ?_ _ 0 _ rfl (Nat.zero_le _) ⟨_, s.toks, s.gens, gs, rfl, id, hgs, J0, go x dx l1 l2⟩⟩
  · rintro i s' hi ⟨h5, tk, gn, gs', rfl, hb5, hgn, hJ, hG⟩
    obtain ⟨hl5, hg5⟩ := src _ _ _ _ hJ
    refine gx_item hhd hl5 hdep hg5 hgn hi hG ⟨h5, tk, _, rfl, (fun z => bare_run (hb5 z)), by simpa using gn_lt hgn, hJ⟩ fun v s₁ gs2 hb2 hY hG2 => ?_
    obtain ⟨h6, tk6, gn6, rfl, hb6, hz6, hY⟩ := hY
    refine ⟨v, rfl, ?_⟩
    refine wpAny_mono (push x dx i v (Shared.setGen (gSt s h6 tk6 gn6) g gs2) hi hY) (fun _ s'' hp => ?_) fun _ _ e => e.elim
    obtain ⟨h7, rfl, hJ7⟩ := hp
    exact ⟨h7, tk6, _, gs2, rfl, (fun z => bare_set (hb6 z) hb2), gn_set hz6, hJ7, hG2⟩
  · rintro s' ⟨h5, tk, gn, gs', rfl, hb5, hgn, hJ, hG⟩
    obtain ⟨hl5, hg5⟩ := src _ _ _ _ hJ
    refine gx_done hhd hl5 hdep hg5 hgn hG ⟨h5, tk, _, rfl, (fun z => bare_run (hb5 z)), by simpa using gn_lt hgn, hJ⟩ fun s₁ hD h7 hk7 => ?_
    obtain ⟨h6, tk6, gn6, rfl, hb6, hz6, hD⟩ := hD
    exact ⟨rfl, rfl, fin x dx h6 h7 tk6 _ l1 l2 hD hk7 (fun z => bare_fin (hb6 z))⟩
end

/- part MTurn -/
theorem fresh_MTurn : True ∧ True := by
  w_top off
  first
    | (walk1; done)
    | exact ⟨True.intro, True.intro⟩
section
set_option pp.deepTerms false
set_option pp.deepTerms.threshold 4
abbrev gScope (nm : Str) : Scope := { kind := .function, names := [(Str.ofString ".0", .local), (Str.ofString "code", .local), (Str.ofString "value", .local), (nm, .globalImplicit)], isGenerator := true, isCoroutine := false }
abbrev gEnv (nm : Str) (C : Addr) (code : Value) (q : Str) : Env := { scope := gScope nm, locals := C, globals := mainGlobals, cells := [], qual := q, func := none, code, frame := some C, builtins := builtinsNs }
theorem g_local {M : Model} {A : Around} {E : Value → Shared → Prop} {s : Shared} {h₀ : Heap} {C : Addr} {m : Str → Option Value} {cd : Value} {q : Str} {x nm : Str} {pos : Pos} {v : Value} {Q : Value → Shared → Prop} (F : Fr h₀ C s.heap m) (hv : m x = some v) (h : Q v s)
    (hl : (gEnv nm C cd q).kindOf x = some .local) (hd : (x == ("__debug__" : Str)) = false) : wpAny M A (eval (.Name x pos) (gEnv nm C cd q)) Q E s := wpAny_Name (wpAny_loadName_local rfl hl F.ns hv h) hd
local macro_rules | `(tactic| walk_at "eval Name") => `(tactic| (k_here; k_dflt (refine' g_local ?kF ?k1 ?_ ?k4 ?k7; (case k4 => rfl); (case k7 => decide); (case kF => k_asm); (case k1 => with_reducible assumption); k_whole)))
local macro_rules | `(tactic| walk_at "eval Name") => `(tactic| (k_here; k_dflt (refine' nameG_K ?kF ?k1 ?k2 ?k3 ?_ ?k4 ?k5 ?k6 ?k7; (case k4 => rfl); (case k5 => rfl); (case k6 => rfl); (case k7 => decide); (case kF => k_asm); (case k1 => k_asm); (case k2 => k_asm); (case k3 => k_is); k_whole)))
local macro_rules | `(tactic| walk_at "call ref") => `(tactic| (k_here; k_dflt (refine' dxftag_spec ?c ?F ?N ?r ?u ?_; (case c => with_reducible assumption); (case F => k_asm); (case N => k_asm); (case r => with_reducible assumption); (case u => with_reducible assumption); k_whole); intro x' dx' h' tk' F' N' l1 l2))
theorem dxfcls_spec {w : World} {A A₀ : Around} {s : Shared} {base h₀ : Heap} {outer : List Env} {env : Env} {L : Addr} {m mg mb : Str → Option Value} {p₀ : Program} {loose : List Str} {news : List (Addr × Obj)} {E : Value → Shared → Prop} {Q : Value → Shared → Prop} {c : Int} {tk : Tok} {v : Value} (cx : Cx w A A₀ base h₀ outer env L mg mb p₀ loose) (F : Fr h₀ L s.heap m) (N : News h₀ L s.heap news) (hr : A.depth + 20 < recursionLimit) (hu : A.units + 100 < cLine)
    (h : ∀ (x dx : Nat) h' tk', Fr h₀ L h' m → News h₀ L h' ((x, tagObj dx c tk v) :: (dx, dictOf [] 0) :: news) → TopLe news dx → dx < x → Q (.ref x) { s with heap := h', toks := tk' }) :
    wpAny (model Challenge.rw_fy0015_01.row.toRowW.1 w) A (call (.ref 113) [.int c tk, v]) Q E s := by
  obtain ⟨B, X₀, T, hh, hA, hf, hk⟩ := cx
  revert X₀
  k_fill
  intro X₀
  obtain ⟨_, _, _, _, _⟩ := A
  obtain ⟨⟨_, _, _, _, _⟩, _, _, _, _, _, _, _, _⟩ := env
  dsimp only at hA hf hk hh hr hu
  subst hA hf hk hh
  k_steps
  exact h _ _ _ _ (by assumption) (by assumption) (by assumption) (by omega)
local macro_rules | `(tactic| walk_at "call ref") => `(tactic| (k_here; (with_reducible show wpAny _ _ (call (Value.ref 113) _) _ _ _); k_dflt (refine' dxfcls_spec ?c ?F ?N ?r ?u ?_; (case c => with_reducible assumption); (case F => k_asm); (case N => k_asm); (case r => with_reducible assumption); (case u => with_reducible assumption); k_whole); intro x' dx' h' tk' F' N' l1 l2))
/-- what the element of the two generator expressions makes: a new DXFTag -/
def EltOk (nm : Str) : Prop := ∀ {w : World} {A A₀ : Around} {s : Shared} {base h₀ : Heap} {outer : List Env} {mg mb m : Str → Option Value} {p₀ : Program} {loose : List Str} {news : List (Addr × Obj)} {E : Value → Shared → Prop} {Q : Value → Shared → Prop} {C : Addr} {cd : Value} {q : Str} {p1 p2 p3 p4 : Pos} {c : Int} {tk : Tok} {v : Value}
    (_ : Cx w A A₀ base h₀ outer (gEnv nm C cd q) C mg mb p₀ loose) (_ : Fr h₀ C s.heap m) (_ : News h₀ C s.heap news) (_ : A.depth + 20 < recursionLimit) (_ : A.units + 100 < cLine)
    (_ : m "code" = some (.int c tk)) (_ : m "value" = some v)
    (_ : ∀ (x dx : Nat) h' tk', Fr h₀ C h' m → News h₀ C h' ((x, tagObj dx c tk v) :: (dx, dictOf [] 0) :: news) → TopLe news dx → dx < x → Q (.ref x) { s with heap := h', toks := tk' }),
    wpAny (model Challenge.rw_fy0015_01.row.toRowW.1 w) A (eval (.Call (.Name nm p1) [.Name (Str.ofString "code") p2, .Name (Str.ofString "value") p3] [] p4) (gEnv nm C cd q)) Q E s
set_option maxHeartbeats 400000 in
theorem elt_dxf : EltOk (Str.ofString "dxftag") := by
  intro w A A₀ s base h₀ outer mg mb m p₀ loose news E Q C cd q p1 p2 p3 p4 c tk v cx F N hr hu hm1 hm2 h
  obtain ⟨B, X₀, T, hh, hA, hf, hk⟩ := id cx
  revert X₀
  k_fill
  intro X₀
  k_steps
  exact h _ _ _ _ (by assumption) (by assumption) (by assumption) (by assumption)
set_option maxHeartbeats 400000 in
theorem elt_cls : EltOk (Str.ofString "DXFTag") := by
  intro w A A₀ s base h₀ outer mg mb m p₀ loose news E Q C cd q p1 p2 p3 p4 c tk v cx F N hr hu hm1 hm2 h
  obtain ⟨B, X₀, T, hh, hA, hf, hk⟩ := id cx
  revert X₀
  k_fill
  intro X₀
  k_steps
  exact h _ _ _ _ (by assumption) (by assumption) (by assumption) (by assumption)
end

/- part MLet -/
section
section
variable {M : Model} {A : Around} {E : Value → Shared → Prop} {s : Shared}
theorem g_let {I t : Addr} {o : Obj} {vs : Array Value} {es : List PySem.Expr} {k : Nat} {p : Pos} {Q : Unit → Shared → Prop} (ho : s.heap.get? I = some o) (hc : o.cls = .type "list_iterator") (hd : o.data = .fields vs) (h : Q () s) :
    wpAny M A (letOwnedTupleGo (.Tuple es k p) (.ref I) (.ref t)) Q E s := by
  show wpAny M A (load I >>= _) Q E s
  refine wpAny_bind (wpAny_load ho ?_)
  rw [hc, hd]
  dsimp only
  rw [if_neg]
  · exact wpAny_pure h
  · have : ["enumerate", "zip", "dict_itemiterator", "dict_reverseitemiterator", "odict_iterator", "itertools.zip_longest", "itertools.pairwise"].contains "list_iterator" = false := by decide
    rw [this]; simp
end
end

/- part MBack -/
section
inductive TagsIn (l : List (Addr × Obj)) : List Value → List Row → Prop
  | nil : TagsIn l [] []
  | cons {x d : Addr} {tk : Tok} {u : Value} {vs : List Value} {r : Row} {rs : List Row} : (x, tagObj d r.1 tk u) ∈ l → (d, dictOf [] 0) ∈ l → DatIn l u r.2.dat → TagsIn l vs rs → TagsIn l (.ref x :: vs) (r :: rs)
theorem TagsIn.mono {l l' : List (Addr × Obj)} (hs : ∀ p ∈ l, p ∈ l') {vs : List Value} {rs : List Row} (h : TagsIn l vs rs) : TagsIn l' vs rs := by
  induction h with
  | nil => exact .nil
  | cons a b c _ ih => exact .cons (hs _ a) (hs _ b) (c.mono hs) ih
theorem TagsIn.length {l : List (Addr × Obj)} {vs : List Value} {rs : List Row} (h : TagsIn l vs rs) : vs.length = rs.length := by
  induction h with
  | nil => rfl
  | cons _ _ _ _ ih => rw [List.length_cons, List.length_cons, ih]
theorem TagsIn.app {l : List (Addr × Obj)} {vs ws : List Value} {rs qs : List Row} (h : TagsIn l vs rs) (k : TagsIn l ws qs) : TagsIn l (vs ++ ws) (rs ++ qs) := by
  induction h with
  | nil => exact k
  | cons a b c _ ih => exact .cons a b c ih
section
variable {h₀ h1 h3 : Heap} {L C : Addr} {m mC : Str → Option Value} {lo hi : List (Addr × Obj)}
theorem gen_back (F1 : Fr h₀ L h1 m) (hLC : L < C) (Fg : Fr (cut h1 C) C h3 mC) : Fr h₀ L h3 m :=
  ⟨F1.ns.at' fun _ e => Fg.keep _ _ (cut_lt hLC e), fun b o e => Fg.keep _ _ (cut_lt (Nat.lt_trans (Nat.lt_of_lt_of_le (Heap.lt_size e) F1.above) hLC) (F1.keep b o e)), F1.above⟩
theorem news_back (N1 : News h₀ L h1 lo) (hlo : ∀ p ∈ lo, p.1 < C) (Fg : Fr (cut h1 C) C h3 mC) : News h₀ L h3 lo :=
  fun p hp => ⟨Fg.keep _ _ (cut_lt (hlo p hp) (N1 p hp).1), (N1 p hp).2⟩
theorem news_up (F1 : Fr h₀ L h1 m) (hLC : L < C) (Ng : News (cut h1 C) C h3 hi) (hhi : ∀ p ∈ hi, C < p.1) : News h₀ L h3 hi := by
  intro p hp
  have h2 := hhi p hp
  have h4 : L < p.1 := Nat.lt_trans hLC h2
  refine ⟨(Ng p hp).1, Nat.ne_of_gt h4, ?_⟩
  cases e : h₀.get? p.1 with
  | none => rfl
  | some o => exact absurd (Nat.lt_of_lt_of_le (Heap.lt_size e) F1.above) (Nat.not_lt_of_lt h4)
end
end

/- part MFun -/
section
/-! Calling a generator function: the frame and the generator object come onto the ledger. -/
section
variable {prog : Program} {w : World} {A A₀ : Around} {s : Shared} {K : Frag} {L : Addr} {h₀ base : Heap} {m mg mb : Str → Option Value} {news : List (Addr × Obj)} {p : Program} {loose : List Str}
abbrev genObjF (g : Nat) (nm q : Str) (t1 t2 : Tok) : Obj := { cls := .type "generator", data := .fields #[.int g 0, .str nm t1, .str q t2] }
theorem code_genR {R : Result → Shared → Prop} {name qual : Str} {params : Arguments} {body : List Stmt} {scope : Scope} {dV kV doc pm cdv ct oc : Value} {an od : Option Addr} {osl : Array (Option Value)} {f : Addr}
    {args : Args} {binds : List (Str × Value)} (F : Fr h₀ L s.heap m) (X₀ : K.In h₀) (N : News h₀ L s.heap news) (hl : h₀.NoLimit)
    (ho : K.lookup f = some ⟨oc, od, .func (fnOf name qual params body scope dV kV doc pm an cdv ct), osl⟩) (hcd : codeIn K cdv qual = true) (hroom : A.depth < recursionLimit)
    (hbind : BindsTo s (fnOf name qual params body scope dV kV doc pm an cdv ct) args binds) (hloc : ∀ y ∈ binds, scope.names.lookup y.1 = some .local)
    (hco : scope.isCoroutine = false) (hgen : scope.isGenerator = true) (hk : scope.kind = .function) (hcell : ∀ x ∈ scope.names, x.2 ≠ .cell)
    (h : ∀ (C a : Nat) oC h' tk t1 t2, Fr h₀ L h' m → News h₀ L h' ((a, genObjF s.gens.size name qual t1 t2) :: (C, oC) :: news) → h'.Ns C (fun y => binds.reverse.lookup y) → TopLe news C → L < C → C < a →
      R (.ok (.ret (.ref a))) { s with gens := s.gens.push (.fresh (.func body (envOf qual scope C f cdv))), heap := h', toks := tk }) :
    codeAny (model prog w) A (.call (.ref f) args) R s := by
  have X := X₀.keeps F.keep
  refine codeAny_call_generator (fd := fnOf name qual params body scope dV kV doc pm an cdv ct) (body := body) hroom (X _ _ ho) rfl hco hgen rfl (codeRec_of X hcd) (hbind _ _ _ _ ?_)
  refine wpAny_newFunctionEnv hcell hloc (fun h' hns hsb => ?_) hk
  have F1 := F.push ({ cls := .type "frame", data := .dict #[] } : Obj)
  have N1 := N.push F ({ cls := .type "frame", data := .dict #[] } : Obj)
  obtain ⟨oC, es, ep, hoC, hdC⟩ := id hns
  have hC4 := N1 _ List.mem_cons_self
  have top3 : TopLe news s.heap.objs.size := topLe_news N
  have hLlt : L < s.heap.objs.size := F.ns.lt
  have F2 := F1.change hsb hC4.2.1 hC4.2.2
  have N2 := News.setIn (own := []) N1 (fun _ q => by cases q) top3.ne hsb hoC
  refine ⟨hl.keeps F2.keep, ?_⟩
  have F3 := F2.push (genObjF s.gens.size name qual (s.toks + binds.length) (s.toks + binds.length + 1))
  have N3 := N2.push F2 (genObjF s.gens.size name qual (s.toks + binds.length) (s.toks + binds.length + 1))
  exact h s.heap.objs.size h'.objs.size oC _ _ _ _ F3 N3 (hns.keeps fun _ _ e => Heap.get?_push_of_some _ e) top3 hLlt (Heap.lt_size hoC)
end
end

/- part MGf -/
section
/-! Draws from the object of a generator function: it yields n times, then ends or raises. -/
section
variable {prog : Program} {w : World} {A : Around}
def gfEnd (Dn : Shared → Prop) (Er : Value → Shared → Prop) : GenEnd := fun k _ r s₁ => k = 0 ∧ ((r = .ok (.ret .none) ∧ Dn s₁) ∨ ∃ e, r = .error e ∧ Er e s₁)
def GfAt (prog : Program) (w : World) (A : Around) (n : Nat) (J : Nat → Shared → Prop) (Yv : Nat → Value → Shared → Prop) (Dn : Shared → Prop) (Er : Value → Shared → Prop) (i : Nat) (gs : GenState) : Prop :=
  ∀ s', J i s' → gs.Goes (model prog w) A.in1 (gfEnd Dn Er) (gxProto n J Yv) (n - i) (.send .none) s'
def GenRaises (prog : Program) (w : World) (A : Around) (a : Addr) (e : Value) (Q : Shared → Prop) (s₁ : Shared) : Prop :=
  wpAny (model prog w) A.in1 (Builtin.Generator.genLeft (.ref a) e : Sem Fin) (fun _ _ => False) (fun e' s₂ => e' = e ∧ wpAny (model prog w) A (isInstance e (.type "StopIteration")) (fun b s₃ => b = false ∧ Q s₃) (fun _ _ => False) s₂) s₁
theorem gf_next {n i : Nat} {J : Nat → Shared → Prop} {Yv : Nat → Value → Shared → Prop} {Dn : Shared → Prop} {Er : Value → Shared → Prop} {a : Addr} {g : Nat} {gs : GenState} {s : Shared} {Q : Option Value → Shared → Prop} {E : Value → Shared → Prop} (hh : A.handled = none)
    (hl : s.heap.NoLimit) (hroom : A.depth < recursionLimit) (hg : s.heap.IsGen a g) (hgs : s.gens[g]? = some gs) (hi : i ≤ n) (hgo : GfAt prog w A n J Yv Dn Er i gs) (hJ : J i (s.setGen g .running))
    (item : i < n → ∀ v s₁ gs', gs'.bare = true → Yv i v s₁ → GfAt prog w A n J Yv Dn Er (i + 1) gs' → Q (some v) (s₁.setGen g gs'))
    (fin : i = n → ∀ s₁, Dn s₁ → ∀ h', (∀ b o, s₁.heap.get? b = some o → h'.get? b = some o) → Q none { s₁.setGen g .finished with heap := h' })
    (err : i = n → ∀ e s₁, Er e s₁ → GenRaises prog w A a e (fun s₂ => E e s₂) (s₁.setGen g .finished)) :
    wpAny (model prog w) A (pyNext (.ref a)) Q E s := by
  have q := hgo _ hJ
  unfold pyNext
  refine wpAny_bind (wpAny_attempt (wpAny_callSpecial?_slot (name := Str.ofString "__next__") hg.typeIs slot_gen_next
    (wpAny_call_entry slot_gen_next hg.typeIs entry_gen_next ?_ (args_gen_next _))))
  show wpAny _ _ (Builtin.Generator.genWake (.ref a) (.send .none)) _ _ s
  unfold Builtin.Generator.genWake
  refine wpAny_bind (wpAny_holding (wpAny_genNumber hg (wpAny_bind (wpAny_genState hgs ?_))))
  cases gs with
  | running => exact q.elim
  | finished => exact q.elim
  | _ =>
    refine wpAny_bind (wpAny_roomToWake hl hroom ?_)
    show wpAny _ _ (.resume g (.send .none) [] _) _ _ s
    refine wpAny_resumeQ hgs q (fun x s₁ hx => ?_) (fun v s₁ gs' hb hv => ?_)
    · obtain ⟨hk, hx⟩ := hx
      have hin : i = n := by omega
      rcases hx with ⟨rfl, hp⟩ | ⟨e, rfl, hp⟩
      · show wpAny _ _ (newExc (.type "StopIteration") [] >>= _) _ _ _
        refine wpAny_bind ?_
        simp only [newExc, newTuple]
        refine wpAny_bind (wpAny_newObj_type ?_ (by size_fits))
        refine wpAny_bind (m := firstArgMember _ _) (wpAny_of_eq (a := Value.none) (by first | rfl | (simp only [firstArgMember]; rfl)) ?_)
        refine wpAny_newObj_type ?_ (by size_fits)
        simp only [raiseNew]
        refine wpAny_bind (wpAny_bind (wpAny_handled ?_))
        rw [show A.in1.handled = none from hh]
        refine wpAny_throw ?_
        refine wpAny_bind (wpAny_isInstance (T := "StopIteration") (b := true) ⟨_, Heap.get?_push_size _ rfl, rfl⟩ PySem.isSubtype_stop ?_)
        exact wpAny_pure (fin hin s₁ hp _ fun b o hb => Heap.get?_push_of_some _ (Heap.get?_push_of_some _ hb))
      · show wpAny _ _ (Builtin.Generator.genLeft (.ref a) e) _ _ _
        refine wpAny_mono (err hin e s₁ hp) (fun _ _ z => z.elim) (fun e' s₂ z => ?_)
        obtain ⟨rfl, z⟩ := z
        refine wpAny_bind (wpAny_mono z (fun b s₃ z => ?_) fun _ _ z => z.elim)
        obtain ⟨rfl, z⟩ := z
        simp only [Bool.false_eq_true, if_false]
        exact wpAny_throw z
    · obtain ⟨i', h1, h2, h3, h4⟩ := hv
      by_cases hlt : i < n
      · have : i' = i := by omega
        subst this
        refine wpAny_pure ⟨v, rfl, wpAny_pure (item hlt v s₁ gs' hb h3 fun s'' hJ' => ?_)⟩
        have := h4 s'' hJ'
        rw [show n - i' = (n - (i' + 1)) + 1 by omega] at this
        exact this
      · have e1 : i = n := by omega
        have e2 : i' + 1 = n := by omega
        subst e2
        have e3 : i' + 1 - i = 0 := by omega
        rw [e3] at h4
        subst e1
        exact (h4 _ hJ).elim
end
end

/- part MIter -/
theorem fresh_MIter : True ∧ True := by
  w_top off
  first
    | (walk1; done)
    | exact ⟨True.intro, True.intro⟩
section
/-! Unpacking a DXFTag: its __iter__ is a generator function of two yields. -/
local macro_rules | `(tactic| walk_at "getAttr ref") => `(tactic| (k_here; k_dflt (refine' get_propR ?k1 ?k2 ?k3 ?k4 ?k5 ?k6 ?k7 ?k8 ?k9 ?_; (case k1 => k_asm); (case k2 => k_asm); (case k3 => k_inst); (case k4 => k_is); (case k5 => k_is); (case k6 => k_is); (case k7 => k_is); (case k8 => k_is); (case k9 => k_is); k_whole; k_enter)))
local macro_rules | `(tactic| walk_at "handedOut") => `(tactic| (refine handed_on (by with_reducible assumption) ?_))
theorem code_specX {w : World} {A A₀ : Around} {s : Shared} {base h₀ : Heap} {outer : List Env} {env : Env} {L : Addr} {m mg mb : Str → Option Value} {p₀ : Program} {loose : List Str} {news : List (Addr × Obj)} {E : Value → Shared → Prop} {Q : Value → Shared → Prop} {c : Int} {tk : Tok} {x dx : Addr} {v : Value} {ex : Bool} (cx : Cx w A A₀ base h₀ outer env L mg mb p₀ loose) (F : Fr h₀ L s.heap m) (N : News h₀ L s.heap news) (hr : A.depth + 20 < recursionLimit) (hu : A.units + 100 < cLine)
    (h1 : (x, tagObj dx c tk v) ∈ news) (h2 : (dx, dictOf [] 0) ∈ news)
    (h : ∀ h' tk', Fr h₀ L h' m → News h₀ L h' news → Q (.int c tk) { s with heap := h', toks := tk' }) :
    wpAny (model Challenge.rw_fy0015_01.row.toRowW.1 w) A (getAttr (.ref x) (Str.ofString "code") ex) Q E s := by
  obtain ⟨B, X₀, T, hh, hA, hf, hk⟩ := cx
  revert X₀
  k_fill
  intro X₀
  obtain ⟨_, _, _, _, _⟩ := A
  obtain ⟨⟨_, _, _, _, _⟩, _, _, _, _, _, _, _, _⟩ := env
  dsimp only at hA hf hk hh hr hu
  subst hA hf hk hh
  k_steps
  exact h _ _ (by assumption) (by assumption)
theorem value_specX {w : World} {A A₀ : Around} {s : Shared} {base h₀ : Heap} {outer : List Env} {env : Env} {L : Addr} {m mg mb : Str → Option Value} {p₀ : Program} {loose : List Str} {news : List (Addr × Obj)} {E : Value → Shared → Prop} {Q : Value → Shared → Prop} {c : Int} {tk : Tok} {x dx : Addr} {v : Value} {ex : Bool} (hv : handedIn v = true) (cx : Cx w A A₀ base h₀ outer env L mg mb p₀ loose) (F : Fr h₀ L s.heap m) (N : News h₀ L s.heap news) (hr : A.depth + 20 < recursionLimit) (hu : A.units + 100 < cLine)
    (h1 : (x, tagObj dx c tk v) ∈ news) (h2 : (dx, dictOf [] 0) ∈ news)
    (h : ∀ h' tk', Fr h₀ L h' m → News h₀ L h' news → Q v { s with heap := h', toks := tk' }) :
    wpAny (model Challenge.rw_fy0015_01.row.toRowW.1 w) A (getAttr (.ref x) (Str.ofString "value") ex) Q E s := by
  obtain ⟨B, X₀, T, hh, hA, hf, hk⟩ := cx
  revert X₀
  k_fill
  intro X₀
  obtain ⟨_, _, _, _, _⟩ := A
  obtain ⟨⟨_, _, _, _, _⟩, _, _, _, _, _, _, _, _⟩ := env
  dsimp only at hA hf hk hh hr hu
  subst hA hf hk hh
  k_steps
  exact h _ _ (by assumption) (by assumption)
abbrev iScope : Scope := { kind := .function, names := [(Str.ofString "self", .local)], isGenerator := true, isCoroutine := false }
abbrev iEnv (C : Addr) (cd : Value) : Env := envOf (Str.ofString "DXFTag.__iter__") iScope C 81 cd
abbrev iE1 (p1 p2 : Pos) : PySem.Expr := .Attribute (.Name (Str.ofString "self") p1) (Str.ofString "_code") p2
abbrev iE2 (p1 p2 : Pos) : PySem.Expr := .Attribute (.Name (Str.ofString "self") p1) (Str.ofString "value") p2
theorem i_local {M : Model} {A : Around} {E : Value → Shared → Prop} {s : Shared} {h₀ : Heap} {C : Addr} {m : Str → Option Value} {cd : Value} {x : Str} {pos : Pos} {v : Value} {Q : Value → Shared → Prop} (F : Fr h₀ C s.heap m) (hv : m x = some v) (h : Q v s)
    (hl : (iEnv C cd).kindOf x = some .local) (hd : (x == ("__debug__" : Str)) = false) : wpAny M A (eval (.Name x pos) (iEnv C cd)) Q E s := wpAny_Name (wpAny_loadName_local rfl hl F.ns hv h) hd
local macro_rules | `(tactic| walk_at "eval Name") => `(tactic| (k_here; k_dflt (refine' i_local ?kF ?k1 ?_ ?k4 ?k7; (case k4 => rfl); (case k7 => decide); (case kF => k_asm); (case k1 => with_reducible assumption); k_whole)))
section
variable {w : World} {A A₀ : Around} {s : Shared} {base h₀ : Heap} {outer : List Env} {mg mb m : Str → Option Value} {p₀ : Program} {loose : List Str} {news : List (Addr × Obj)} {E : Value → Shared → Prop} {Q : Value → Shared → Prop} {C x dx : Addr} {cd : Value} {p1 p2 : Pos} {c : Int} {tk : Tok} {v : Value}
set_option maxHeartbeats 800000 in
theorem it_code (cx : Cx w A A₀ base h₀ outer (iEnv C cd) C mg mb p₀ loose) (F : Fr h₀ C s.heap m) (N : News h₀ C s.heap news) (hr : A.depth + 20 < recursionLimit) (hu : A.units + 100 < cLine)
    (hm : m "self" = some (.ref x)) (h1 : (x, tagObj dx c tk v) ∈ news) (h2 : (dx, dictOf [] 0) ∈ news)
    (h : ∀ h' tk', Fr h₀ C h' m → News h₀ C h' news → Q (.int c tk) { s with heap := h', toks := tk' }) :
    wpAny (model Challenge.rw_fy0015_01.row.toRowW.1 w) A (eval (iE1 p1 p2) (iEnv C cd)) Q E s := by
  obtain ⟨B, X₀, T, hh, hA, hf, hk⟩ := id cx
  revert X₀
  k_fill
  intro X₀
  k_steps
  exact h _ _ (by assumption) (by assumption)
set_option maxHeartbeats 800000 in
theorem it_value (hv : handedIn v = true) (cx : Cx w A A₀ base h₀ outer (iEnv C cd) C mg mb p₀ loose) (F : Fr h₀ C s.heap m) (N : News h₀ C s.heap news) (hr : A.depth + 20 < recursionLimit) (hu : A.units + 100 < cLine)
    (hm : m "self" = some (.ref x)) (h1 : (x, tagObj dx c tk v) ∈ news) (h2 : (dx, dictOf [] 0) ∈ news)
    (h : ∀ h' tk', Fr h₀ C h' m → News h₀ C h' news → Q v { s with heap := h', toks := tk' }) :
    wpAny (model Challenge.rw_fy0015_01.row.toRowW.1 w) A (eval (iE2 p1 p2) (iEnv C cd)) Q E s := by
  obtain ⟨B, X₀, T, hh, hA, hf, hk⟩ := id cx
  revert X₀
  k_fill
  intro X₀
  k_steps
  exact value_specX hv cx F N hr hu h1 h2 h
end
end

/- part MHide -/
section
/-! The base of a generator's turn with the caller's ledger hidden: the ledger can be read inside the turn. -/
def gcut (h : Heap) (C : Nat) (news : List (Addr × Obj)) : Heap := hideAll (cut h C) (news.map (·.1))
section
variable {w : World} {A A₀ : Around} {base h₀ h h3 : Heap} {outer : List Env} {env cenv : Env} {L C : Addr} {m mC mg mb : Str → Option Value} {p₀ : Program} {loose : List Str} {news nw : List (Addr × Obj)}
theorem gcut_keep {b : Addr} {o : Obj} (e : (gcut h C news).get? b = some o) : h.get? b = some o := cut_keep (of_hideAll _ e)
theorem gcut_up (F : Fr h₀ L h m) (N : News h₀ L h news) (hLC : @LT.lt Nat _ L C) {b : Addr} {o : Obj} (e : h₀.get? b = some o) : (gcut h C news).get? b = some o := by
  refine hideAll_get _ (cut_lt (Nat.lt_trans (Nat.lt_of_lt_of_le (Heap.lt_size e) F.above) hLC) (F.keep b o e)) fun hb => ?_
  obtain ⟨p, hp, rfl⟩ := List.mem_map.mp hb
  rw [(N p hp).2.2] at e; cases e
theorem gcut_frame (N : News h₀ L h news) (hLC : @LT.lt Nat _ L C) {o : Obj} (e : h.get? L = some o) : (gcut h C news).get? L = some o := by
  refine hideAll_get _ (cut_lt hLC e) fun hb => ?_
  obtain ⟨p, hp, q⟩ := List.mem_map.mp hb
  exact (N p hp).2.1 q
theorem fr_gcut (F : Fr h₀ L h m) (N : News h₀ L h news) (hLC : @LT.lt Nat _ L C) : Fr h₀ L (gcut h C news) m :=
  ⟨F.ns.at' fun _ e => gcut_frame N hLC e, fun _ _ e => gcut_up F N hLC e, F.above⟩
theorem fr_genH (hn : h.Ns C mC) (hC : C ≤ h.objs.size) : Fr (gcut h C news) C h mC :=
  ⟨hn, fun _ _ e => gcut_keep e, Nat.le_of_eq ((hideAll_size _ _).trans (cut_size hC))⟩
theorem news_genH (h1 : ∀ p ∈ nw, h.get? p.1 = some p.2 ∧ p.1 ≠ C ∧ (p.1 ∈ news.map (·.1) ∨ @LT.lt Nat _ C p.1)) : News (gcut h C news) C h nw := by
  intro p hp
  obtain ⟨e, hne, hh⟩ := h1 p hp
  refine ⟨e, hne, ?_⟩
  rcases hh with hh | hh
  · exact hideAll_none _ hh
  · cases q : (gcut h C news).get? p.1 with
    | none => rfl
    | some o => have := of_hideAll _ q; rw [cut_none (Nat.le_of_lt hh)] at this; cases this
theorem cx_genH {c : Code} (cx : Cx w A A₀ base h₀ outer env L mg mb p₀ loose) (hl : env.locals = L) (F : Fr h₀ L h m) (N : News h₀ L h news) (hLC : @LT.lt Nat _ L C) (hc : c.envs = [cenv]) (hf : cenv.frame = some C) (hk : cenv.scope.kind = .function) :
    Cx w (A.in1.over c []) A base (gcut h C news) (env :: outer) cenv C mg mb p₀ loose :=
  have Fc := fr_gcut F N hLC
  ⟨below_gen cx.B Fc cx.hA cx.hf cx.hk hl, cx.X.keeps Fc.keep, cx.T.keeps Fc.keep, cx.hh, over_frames cx.hA hc, hf, hk⟩
theorem gen_backH (F1 : Fr h₀ L h m) (N : News h₀ L h news) (hLC : @LT.lt Nat _ L C) (Fg : Fr (gcut h C news) C h3 mC) : Fr h₀ L h3 m :=
  ⟨F1.ns.at' fun _ e => Fg.keep _ _ (gcut_frame N hLC e), fun b o e => Fg.keep _ _ (gcut_up F1 N hLC e), F1.above⟩
theorem news_backH (F1 : Fr h₀ L h m) (N : News h₀ L h news) (hLC : @LT.lt Nat _ L C) (Ng : News (gcut h C news) C h3 nw) (hnw : ∀ p ∈ nw, p ∈ news ∨ @LT.lt Nat _ C p.1) : News h₀ L h3 nw := by
  intro p hp
  refine ⟨(Ng p hp).1, ?_⟩
  rcases hnw p hp with h2 | h2
  · exact (N p h2).2
  · have h4 : @LT.lt Nat _ L p.1 := Nat.lt_trans hLC h2
    refine ⟨Nat.ne_of_gt h4, ?_⟩
    cases e : h₀.get? p.1 with
    | none => rfl
    | some o => exact absurd (Nat.lt_of_lt_of_le (Heap.lt_size e) F1.above) (Nat.not_lt_of_lt h4)
end
end

/- part MUnp -/
theorem fresh_MUnp : True ∧ True := by
  w_top off
  first
    | (walk1; done)
    | exact ⟨True.intro, True.intro⟩
section
def uJ (h₀ : Heap) (L : Addr) (m : Str → Option Value) (news : List (Addr × Obj)) (C x a : Addr) (oa : Obj) (s : Shared) (_i : Nat) (s' : Shared) : Prop :=
  ∃ h tk gn oC, s' = { s with heap := h, toks := tk, gens := gn } ∧ (AllBare s.gens → AllBare gn) ∧ s.gens.size < gn.size ∧ (∀ k, k < s.gens.size → gn[k]? = s.gens[k]?) ∧ Fr h₀ L h m ∧ News h₀ L h ((a, oa) :: (C, oC) :: news) ∧ h.Ns C (fun y => [(Str.ofString "self", Value.ref x)].reverse.lookup y)
def uY (h₀ : Heap) (L : Addr) (m : Str → Option Value) (news : List (Addr × Obj)) (C x a : Addr) (oa : Obj) (c : Int) (tk : Tok) (v : Value) (s : Shared) (i : Nat) (y : Value) (s' : Shared) : Prop :=
  uJ h₀ L m news C x a oa s i s' ∧ y = (if i = 0 then .int c tk else v)
theorem uJ_set {h₀ : Heap} {L : Addr} {m : Str → Option Value} {news : List (Addr × Obj)} {C x a : Addr} {oa : Obj} {s : Shared} {i : Nat} {s' : Shared} {gs : GenState} {j : Nat} (hb : gs.bare = true) (h : uJ h₀ L m news C x a oa s i s') : uJ h₀ L m news C x a oa s j (s'.setGen s.gens.size gs) := by
  obtain ⟨h, tk, gn, oC, rfl, h0, h1, h2, r⟩ := h
  refine ⟨h, tk, gn.setIfInBounds s.gens.size gs, oC, rfl, fun z => bare_set (h0 z) hb, by simpa using h1, fun k hk => ?_, r⟩
  rw [Array.getElem?_setIfInBounds, if_neg (by omega)]
  exact h2 k hk
section
variable {w : World} {A A₀ : Around} {s : Shared} {base h₀ : Heap} {outer : List Env} {env : Env} {L : Addr} {m mg mb : Str → Option Value} {p₀ : Program} {loose : List Str} {news : List (Addr × Obj)} {C x dx a : Addr} {c : Int} {tk : Tok} {v cd : Value} {p1 p2 p3 p4 q1 q2 q3 q4 : Pos} {oa : Obj}
theorem u_env {h : Heap} {lg news : List (Addr × Obj)} {oC : Obj} (cx : Cx w A A₀ base h₀ outer env L mg mb p₀ loose) (hloc : env.locals = L) (F : Fr h₀ L h m) (N : News h₀ L h ((a, oa) :: (C, oC) :: news)) (hLC : @LT.lt Nat _ L C) (hCa : @LT.lt Nat _ C a) (hnC : ∀ p ∈ news, p.1 ≠ C) {mC : Str → Option Value} (hns : h.Ns C mC)
    {cenv : Env} {cc : Code} (hc : cc.envs = [cenv]) (hf : cenv.frame = some C) (hk : cenv.scope.kind = .function) :
    ∃ g, Cx w (A.in1.over cc []) A base g (env :: outer) cenv C mg mb p₀ loose ∧ Fr g C h mC ∧ News g C h ((a, oa) :: news) ∧
      ∀ h1 mC', Fr g C h1 mC' → News g C h1 ((a, oa) :: news) → Fr h₀ L h1 m ∧ ∃ oC', News h₀ L h1 ((a, oa) :: (C, oC') :: news) := by
  refine ⟨gcut h C ((a, oa) :: (C, oC) :: news), cx_genH cx hloc F N hLC hc hf hk, fr_genH hns ?_, news_genH fun p hp => ?_, fun h1 mC' F1 N1 => ⟨gen_backH F N hLC F1, ?_⟩⟩
  · exact Nat.le_of_lt (Heap.lt_size (N (C, oC) (List.Mem.tail _ (List.Mem.head _))).1)
  · rcases List.mem_cons.mp hp with rfl | hp
    · exact ⟨(N _ (List.Mem.head _)).1, Nat.ne_of_gt hCa, .inr hCa⟩
    · exact ⟨(N _ (List.Mem.tail _ (List.Mem.tail _ hp))).1, hnC p hp, .inl (List.mem_map_of_mem (List.Mem.tail _ (List.Mem.tail _ hp)))⟩
  · obtain ⟨oC8, es8, ep8, hoC8, r8⟩ := id F1.ns
    have B := news_backH (nw := (a, oa) :: news) F N hLC N1 fun p hp => by
      rcases List.mem_cons.mp hp with rfl | hp
      · exact .inl (List.Mem.head _)
      · exact .inl (List.Mem.tail _ (List.Mem.tail _ hp))
    refine ⟨oC8, fun p hp => ?_⟩
    rcases List.mem_cons.mp hp with rfl | hp
    · exact B _ (List.Mem.head _)
    rcases List.mem_cons.mp hp with rfl | hp
    · exact ⟨hoC8, (N (C, oC) (List.Mem.tail _ (List.Mem.head _))).2⟩
    · exact B _ (List.Mem.tail _ hp)
theorem u_turn {i : Nat} {s' : Shared} {Q : Value → Shared → Prop} {E : Value → Shared → Prop} (cx : Cx w A A₀ base h₀ outer env L mg mb p₀ loose) (hloc : env.locals = L) (hv : handedIn v = true) (hr : A.depth + 40 < recursionLimit) (hu : A.units + 200 < cLine)
    (hLC : @LT.lt Nat _ L C) (hCa : @LT.lt Nat _ C a) (hnC : ∀ p ∈ news, p.1 ≠ C) (h1 : (x, tagObj dx c tk v) ∈ news) (h2 : (dx, dictOf [] 0) ∈ news) {body : List Stmt}
    (hJ : uJ h₀ L m news C x a oa s i s') (hi : i < 2) (h : ∀ y s'', uY h₀ L m news C x a oa c tk v s i y s'' → Q y s'') :
    wpAny (model Challenge.rw_fy0015_01.row.toRowW.1 w) (A.in1.over (.func body (iEnv C cd)) []) (eval (if i = 0 then iE1 p1 p2 else iE2 p1 p2) (iEnv C cd)) Q E s' := by
  obtain ⟨hp, tk', gn, oC, rfl, g0, g1, g2, F, N, hns⟩ := hJ
  obtain ⟨g, cx1, F1, N1, back⟩ := u_env (lg := []) cx hloc F N hLC hCa hnC hns (cc := .func body (iEnv C cd)) (cenv := iEnv C cd) rfl rfl rfl
  have hd : (A.in1.over (.func body (iEnv C cd)) []).depth + 20 < recursionLimit := by
    have e : (A.in1.over (.func body (iEnv C cd)) []).depth = A.depth + 0 + 1 := rfl
    rw [e]; omega
  have hun : (A.in1.over (.func body (iEnv C cd)) []).units + 100 < cLine := by
    have e : (A.in1.over (.func body (iEnv C cd)) []).units = A.in1.units + 0 + 3 := rfl
    rw [e]; simp only [units_in1]; omega
  have hm : (fun y => [(Str.ofString "self", Value.ref x)].reverse.lookup y) "self" = some (.ref x) := by simp
  have fin : ∀ y h' tk'', y = (if i = 0 then Value.int c tk else v) → Fr g C h' (fun y => [(Str.ofString "self", Value.ref x)].reverse.lookup y) → News g C h' ((a, oa) :: news) → Q y { s with heap := h', toks := tk'', gens := gn } := by
    intro y h' tk'' hy F2 N2
    obtain ⟨F3, oC', N3⟩ := back h' _ F2 N2
    exact h y _ ⟨⟨h', tk'', gn, oC', rfl, g0, g1, g2, F3, N3, F2.ns⟩, hy⟩
  by_cases h0 : i = 0
  · rw [if_pos h0]
    exact it_code cx1 F1 N1 hd hun hm (List.Mem.tail _ h1) (List.Mem.tail _ h2) fun h' tk'' F2 N2 => fin _ h' tk'' (by rw [if_pos h0]) F2 N2
  · rw [if_neg h0]
    exact it_value hv cx1 F1 N1 hd hun hm (List.Mem.tail _ h1) (List.Mem.tail _ h2) fun h' tk'' F2 N2 => fin _ h' tk'' (by rw [if_neg h0]) F2 N2
abbrev iBody (p1 p2 p3 p4 q1 q2 q3 q4 : Pos) : List Stmt := [.Expr (.Yield (some (iE1 p1 p2)) p3) p4, .Expr (.Yield (some (iE2 q1 q2)) q3) q4]
theorem u_goes (cx : Cx w A A₀ base h₀ outer env L mg mb p₀ loose) (hloc : env.locals = L) (hv : handedIn v = true) (hr : A.depth + 40 < recursionLimit) (hu : A.units + 200 < cLine)
    (hLC : @LT.lt Nat _ L C) (hCa : @LT.lt Nat _ C a) (hnC : ∀ p ∈ news, p.1 ≠ C) (h1 : (x, tagObj dx c tk v) ∈ news) (h2 : (dx, dictOf [] 0) ∈ news) :
    GfAt Challenge.rw_fy0015_01.row.toRowW.1 w A 2 (uJ h₀ L m news C x a oa s) (uY h₀ L m news C x a oa c tk v s) (uJ h₀ L m news C x a oa s 2) (fun _ _ => False) 0 (.fresh (.func (iBody p1 p2 p3 p4 q1 q2 q3 q4) (iEnv C cd))) := by
  intro s' hJ
  refine ⟨rfl, ?_⟩
  refine seg_func (seg_execs_cons (seg_Expr_Yield rfl rfl rfl ?_))
  refine u_turn (i := 0) cx hloc hv hr hu hLC hCa hnC h1 h2 hJ (by decide) fun y s1 hY kap hkap => ⟨0, by decide, by decide, hY, fun s2 hJ2 => hkap .none s2 ?_⟩
  refine seg_execs_cons (seg_Expr_Yield rfl rfl rfl ?_)
  refine u_turn (i := 1) cx hloc hv hr hu hLC hCa hnC h1 h2 hJ2 (by decide) fun y s3 hY kap hkap => ⟨1, by decide, by decide, hY, fun s4 hJ4 => hkap .none s4 ?_⟩
  exact seg_end (.ok (.ret .none)) ⟨rfl, .inl ⟨rfl, hJ4⟩⟩
end
end

/- part MUnq -/
theorem fresh_MUnq : True ∧ True := by
  w_top off
  first
    | (walk1; done)
    | exact ⟨True.intro, True.intro⟩
section
theorem uJ_get {h₀ : Heap} {L : Addr} {m : Str → Option Value} {news : List (Addr × Obj)} {C x a : Addr} {oa : Obj} {s : Shared} {i : Nat} {s' : Shared} {gs : GenState} (h : uJ h₀ L m news C x a oa s i s') : (s'.setGen s.gens.size gs).gens[s.gens.size]? = some gs := by
  obtain ⟨h, tk, gn, oC, rfl, h0, h1, h2, r⟩ := h
  show (gn.setIfInBounds s.gens.size gs)[s.gens.size]? = some gs
  rw [Array.getElem?_setIfInBounds, if_pos rfl, if_pos h1]
theorem uJ_lim {h₀ : Heap} {L : Addr} {m : Str → Option Value} {news : List (Addr × Obj)} {C x a : Addr} {nm q : Str} {t1 t2 : Tok} {s : Shared} {i : Nat} {s' : Shared} (hl : h₀.NoLimit) (h : uJ h₀ L m news C x a (genObjF s.gens.size nm q t1 t2) s i s') : s'.heap.NoLimit ∧ s'.heap.IsGen a s.gens.size := by
  obtain ⟨h, tk, gn, oC, rfl, h0, h1, h2, F, N, r⟩ := h
  exact ⟨hl.keeps F.keep, _, _, _, (N _ (List.Mem.head _)).1, rfl, rfl, rfl⟩
theorem uJ_up {h₀ : Heap} {L : Addr} {m : Str → Option Value} {news : List (Addr × Obj)} {C x a : Addr} {oa : Obj} {s : Shared} {i : Nat} {s' : Shared} {h5 : Heap} (h : uJ h₀ L m news C x a oa s i s') (hk : ∀ b o, s'.heap.get? b = some o → h5.get? b = some o) : uJ h₀ L m news C x a oa s i { s' with heap := h5 } := by
  obtain ⟨h6, tk6, gn6, oC6, rfl, g0, g1, g2, F6, N6, n6⟩ := h
  exact ⟨h5, _, _, oC6, rfl, g0, g1, g2, F6.keeps hk, N6.grown hk, n6.keeps hk⟩
theorem u_draw {w : World} {A : Around} {s s1 : Shared} {h₀ : Heap} {L : Addr} {m : Str → Option Value} {news : List (Addr × Obj)} {C x a : Addr} {c : Int} {tk : Tok} {v : Value} {nm q : Str} {t1 t2 : Tok} {gs : GenState} {E : Value → Shared → Prop} {Q : Shared → Prop}
    (hlim : h₀.NoLimit) (hh : A.handled = none) (hr : A.depth < recursionLimit) (J0 : uJ h₀ L m news C x a (genObjF s.gens.size nm q t1 t2) s 0 s1) (hg : s1.gens[s.gens.size]? = some gs)
    (G0 : GfAt Challenge.rw_fy0015_01.row.toRowW.1 w A 2 (uJ h₀ L m news C x a (genObjF s.gens.size nm q t1 t2) s) (uY h₀ L m news C x a (genObjF s.gens.size nm q t1 t2) c tk v s) (uJ h₀ L m news C x a (genObjF s.gens.size nm q t1 t2) s 2) (fun _ _ => False) 0 gs)
    (h : ∀ s2, uJ h₀ L m news C x a (genObjF s.gens.size nm q t1 t2) s 2 s2 → Q s2) :
    wpAny (model Challenge.rw_fy0015_01.row.toRowW.1 w) A (draw (.ref a) 2) (fun items s' => items = [.int c tk, v] ∧ wpAny (model Challenge.rw_fy0015_01.row.toRowW.1 w) A (pyNext (.ref a)) (fun r s'' => r = none ∧ Q s'') E s') E s1 := by
  obtain ⟨l1, i1⟩ := uJ_lim hlim J0
  show wpAny _ _ (pyNext (.ref a) >>= _) _ _ s1
  refine wpAny_bind (gf_next hh l1 hr i1 hg (by decide) G0 (uJ_set rfl J0) (fun _ y s2 gs2 hb2 hY G2 => ?_) (fun e => absurd e (by decide)) (fun e => absurd e (by decide)))
  obtain ⟨J2, rfl⟩ := hY
  have J2' := uJ_set (gs := gs2) (j := 1) hb2 J2
  obtain ⟨l2, i2⟩ := uJ_lim hlim J2'
  refine wpAny_bind (wpAny_holding ?_)
  show wpAny _ _ (pyNext (.ref a) >>= _) _ _ _
  refine wpAny_bind (gf_next hh l2 hr i2 (uJ_get J2) (by decide) G2 (uJ_set rfl J2') (fun _ y s3 gs3 hb3 hY G3 => ?_) (fun e => absurd e (by decide)) (fun e => absurd e (by decide)))
  obtain ⟨J3, rfl⟩ := hY
  have J3' := uJ_set (gs := gs3) (j := 2) hb3 J3
  obtain ⟨l3, i3⟩ := uJ_lim hlim J3'
  refine wpAny_bind (wpAny_holding (wpAny_pure (wpAny_pure (wpAny_pure ⟨rfl, ?_⟩))))
  refine gf_next hh l3 hr i3 (uJ_get J3) (by decide) G3 (uJ_set rfl J3') (fun e => absurd e (by decide)) (fun _ s4 J4 h5 hk => ⟨rfl, h _ (uJ_up (uJ_set (gs := .finished) (j := 2) rfl J4) hk)⟩) (fun _ _ _ e => e.elim)
theorem it113 {w : World} : findIn (hd.heap_39 w.params) (.ref 113) "__iter__" = some (some (.ref 81)) := by kernel_rfl
theorem fn81 {w : World} : isFn (hd.heap_39 w.params) (.ref 81) = true := by kernel_rfl
theorem dxf_unpack {w : World} {A A₀ : Around} {s : Shared} {base h₀ : Heap} {outer : List Env} {env : Env} {L : Addr} {m mg mb : Str → Option Value} {p₀ : Program} {loose : List Str} {news : List (Addr × Obj)} {E : Value → Shared → Prop} {Q : Value → Shared → Prop} {c : Int} {tk : Tok} {x dx : Addr} {v : Value} {QL : List Value → Shared → Prop} (hv : handedIn v = true) (hloc : env.locals = L) (cx : Cx w A A₀ base h₀ outer env L mg mb p₀ loose) (F : Fr h₀ L s.heap m) (N : News h₀ L s.heap news) (hr : A.depth + 40 < recursionLimit) (hu : A.units + 200 < cLine)
    (h1 : (x, tagObj dx c tk v) ∈ news) (h2 : (dx, dictOf [] 0) ∈ news)
    (h : ∀ h' tk' gn, Fr h₀ L h' m → News h₀ L h' news → (AllBare s.gens → AllBare gn) → s.gens.size ≤ gn.size → (∀ k, k < s.gens.size → gn[k]? = s.gens[k]?) → QL [.int c tk, v] { s with heap := h', toks := tk', gens := gn }) :
    wpAny (model Challenge.rw_fy0015_01.row.toRowW.1 w) A (unpackItems (.ref x) 2 none) QL E s := by
  have X := cx.X.keeps F.keep
  have I : InstAt s.heap x (tagObj dx c tk v) 113 (some (dictOf [] 0)) := ⟨(N _ h1).1, rfl, rfl, (N _ h2).1⟩
  have hlim := cx.T.nolimit
  unfold unpackItems
  refine wpAny_bind ?_
  unfold notIterableAtAll
  refine wpAny_bind (m := specialOf _ _) (wpAny_bind (I.type.here ((looks_findIn X it113).here ?_)))
  refine wpAny_pure ?_
  simp only [Bool.false_eq_true, if_false]
  refine wpAny_bind (wpAny_holding (owit_iter F cx.X I it113 fn81 (wpAny_call ?_)))
  refine code_genR F cx.X N hlim (by with_unfolding_all rfl) (by kernel_rfl) (by omega) (binds := [(Str.ofString "self", .ref x)]) (BindsTo.of_eq rfl) (locs rfl) rfl rfl rfl (by decide +kernel) fun C a oC h' tk' t1 t2 F1 N1 hns hC hLC hCa => ?_
  have hnC : ∀ p ∈ news, p.1 ≠ C := hC.ne
  have hT : ∀ gn, ({ s with gens := gn, heap := h', toks := tk' } : Shared).TypeIs (.ref a) "generator" := fun gn => ⟨_, (N1 _ (List.Mem.head _)).1, rfl⟩
  show OwitIt _ _ _ _ (.ref a) _
  unfold OwitIt
  refine wpAny_specialOf (hT _) PySem.slot_gen_next.lookup ?_
  have G0 := fun q1 q2 q3 q4 q5 q6 q7 q8 cd nm q => u_goes (m := m) (p1 := q1) (p2 := q2) (p3 := q3) (p4 := q4) (q1 := q5) (q2 := q6) (q3 := q7) (q4 := q8) (cd := cd) (oa := genObjF s.gens.size nm q t1 t2) (A := A) (s := s) cx hloc hv hr hu hLC hCa hnC h1 h2
  refine wpAny_bind (wpAny_holding (wpAny_mono (u_draw hlim cx.hh (by omega) ⟨h', tk', _, oC, rfl, (fun z => AllBare.push z rfl), ?_, ?_, F1, N1, hns⟩ Array.getElem?_push_size (G0 _ _ _ _ _ _ _ _ _ _ _) (Q := fun s2 => QL [.int c tk, v] s2) ?_) (fun items s' z => ?_) fun _ _ z => z))
  · simp
  · exact fun k hk => by rw [Array.getElem?_push, if_neg (by omega)]
  · rintro s2 ⟨h2, tk2, gn2, oC2, rfl, g0, g1, g2, F2, N2, n2⟩
    exact h h2 tk2 gn2 F2 (news_sub N2 fun p hp => List.Mem.tail _ (List.Mem.tail _ hp)) g0 (Nat.le_of_lt g1) g2
  · obtain ⟨rfl, z⟩ := z
    dsimp only [List.length_cons, List.length_nil]
    rw [if_neg (by decide)]
    refine wpAny_bind (wpAny_holding (wpAny_mono z (fun r s2 z => ?_) fun _ _ z => z))
    obtain ⟨rfl, z⟩ := z
    simp only [Option.isSome_none, Bool.false_eq_true, if_false]
    exact wpAny_pure z
end

/- part MSrc -/
section
/-! A source of rows: a list of row tuples or of DXFTags. -/
def ElIn (news : List (Addr × Obj)) (el : Value) (r : Row) : Prop := ∃ tk u, DatIn news u r.2.dat ∧
  ((∃ t n, el = .ref t ∧ (t, ({ cls := .type "tuple", data := .seq [Value.int r.1 tk, u].toArray n } : Obj)) ∈ news) ∨ (∃ x d, el = .ref x ∧ (x, tagObj d r.1 tk u) ∈ news ∧ (d, dictOf [] 0) ∈ news))
theorem ElIn.mono {news news' : List (Addr × Obj)} {el : Value} {r : Row} (h : ElIn news el r) (hs : ∀ p ∈ news, p ∈ news') : ElIn news' el r := by
  obtain ⟨tk, u, hd, h⟩ := h
  refine ⟨tk, u, hd.mono hs, ?_⟩
  rcases h with ⟨t, n, e, h⟩ | ⟨x, d, e, h, k⟩
  · exact .inl ⟨t, n, e, hs _ h⟩
  · exact .inr ⟨x, d, e, hs _ h, hs _ k⟩
def SrcIn (news : List (Addr × Obj)) (svs : List Value) (rows : List Row) : Prop := svs.length = rows.length ∧ ∀ i, i < rows.length → ∃ a, svs[i]? = some (.ref a) ∧ ElIn news (.ref a) (rowAt rows i)
theorem srcIn_rows {news : List (Addr × Obj)} {svs : List Value} {rows : List Row} (h : RowsIn news svs rows) : SrcIn news svs rows := by
  refine ⟨h.length, fun i hi => ?_⟩
  obtain ⟨a, n, c, t, u, hx, hm, rfl, hd, _⟩ := rows_at h hi
  exact ⟨a, hx, t, u, hd, .inl ⟨a, n, rfl, hm⟩⟩
theorem rowAt_cons (r : Row) (rs : List Row) (i : Nat) : rowAt (r :: rs) (i + 1) = rowAt rs i := rfl
theorem srcIn_tags {news : List (Addr × Obj)} {svs : List Value} {rows : List Row} (h : TagsIn news svs rows) : SrcIn news svs rows := by
  induction h with
  | nil => exact ⟨rfl, fun i hi => absurd hi (Nat.not_lt_zero _)⟩
  | cons a b c _ ih =>
    rename_i x d tk u vs r rs _
    refine ⟨by rw [List.length_cons, List.length_cons, ih.1], fun i hi => ?_⟩
    cases i with
    | zero => exact ⟨x, rfl, tk, u, c, .inr ⟨x, d, rfl, a, b⟩⟩
    | succ i =>
      rw [rowAt_cons]
      obtain ⟨a', h1, h2⟩ := ih.2 i (by simpa using hi)
      exact ⟨a', by simpa using h1, h2⟩
theorem handed_dat {news : List (Addr × Obj)} {u : Value} {c : Cell} (h : DatIn news u c.dat) : handedIn u = true := by
  cases c with
  | s x => cases h; rfl
  | i x => cases h; rfl
theorem g_assign3 {prog : Program} {w : World} {A : Around} {E : Value → Shared → Prop} {s : Shared} {h₀ : Heap} {C : Addr} {m : Str → Option Value} {news : List (Addr × Obj)} {cd : Value} {q nm : Str} {c : Value} {u : Value} {p1 p2 : Pos} {Q : Unit → Shared → Prop} (F : Fr h₀ C s.heap m) (N : News h₀ C s.heap news)
    (h : ∀ h' tk, Fr h₀ C h' (fun y => if y = Str.ofString "value" then some u else if y = Str.ofString "code" then some c else m y) → News h₀ C h' news → Q () { s with heap := h', toks := tk }) :
    wpAny (model prog w) A (assignInOrder [assign (.Name (Str.ofString "code") p1) (gEnv nm C cd q), assign (.Name (Str.ofString "value") p2) (gEnv nm C cd q)] [c, u]) Q E s := by
  unfold assignInOrder
  refine wpAny_bind (wpAny_holding (wpAny_assign_Name (wpAny_storeName_local rfl F.ns (fun h2 hn2 hs2 => ?_) rfl)))
  have F2 := F.set hn2 hs2
  have N2 := N.set hs2
  refine wpAny_bind (wpAny_holding (wpAny_assign_Name (wpAny_storeName_local rfl F2.ns (fun h3 hn3 hs3 => ?_) rfl)))
  exact wpAny_pure (h h3 _ (F2.set hn3 hs3) (N2.set hs3))
theorem g_assignX {w : World} {A A₀ : Around} {E : Value → Shared → Prop} {s : Shared} {base h₀ : Heap} {outer : List Env} {C : Addr} {m mg mb : Str → Option Value} {p₀ : Program} {loose : List Str} {news : List (Addr × Obj)} {cd : Value} {q nm : Str} {el : Value} {r : Row} {p1 p2 p3 : Pos} {Q : Unit → Shared → Prop}
    (cx : Cx w A A₀ base h₀ outer (gEnv nm C cd q) C mg mb p₀ loose) (F : Fr h₀ C s.heap m) (N : News h₀ C s.heap news) (hr : A.depth + 40 < recursionLimit) (hu : A.units + 200 < cLine) (hel : ElIn news el r)
    (h : ∀ h' tk gn tkc u, DatIn news u r.2.dat → Fr h₀ C h' (fun y => if y = Str.ofString "value" then some u else if y = Str.ofString "code" then some (.int r.1 tkc) else m y) → News h₀ C h' news → (AllBare s.gens → AllBare gn) → s.gens.size ≤ gn.size → Q () (gSt s h' tk gn)) :
    wpAny (model Challenge.rw_fy0015_01.row.toRowW.1 w) A (assign (.Tuple [.Name (Str.ofString "code") p1, .Name (Str.ofString "value") p2] 0 p3) (gEnv nm C cd q) el) Q E s := by
  obtain ⟨tk, u, hd, ⟨t, n, rfl, ht⟩ | ⟨x, d, rfl, hx, hdx⟩⟩ := hel
  · refine wpAny_assign_Tuple (items := [.int r.1 tk, u].toArray) cx.hh ⟨_, (N _ ht).1, rfl, _, rfl⟩ rfl rfl fun h' hx => ?_
    have F1 := F.extBut hx (Nat.le_refl _)
    have N1 := N.extBut hx (Nat.le_refl _)
    exact g_assign3 (c := .int r.1 tk) (u := u) F1 N1 fun h2 tk2 F2 N2 => h h2 tk2 s.gens tk u hd F2 N2 id (Nat.le_refl _)
  · rw [arm_assign_Tuple]
    refine wpAny_bind (wpAny_standAt ?_)
    unfold unpack
    refine wpAny_bind (wpAny_holding ?_)
    show wpAny _ _ (unpackItems (.ref x) 2 none) _ _ _
    refine dxf_unpack (Q := fun _ _ => True) (handed_dat hd) rfl cx F N hr hu hx hdx fun h1 tk1 gn F1 N1 hb hz _ => ?_
    exact g_assign3 (s := { s with heap := h1, toks := tk1, gens := gn }) (c := .int r.1 tk) (u := u) F1 N1 fun h2 tk2 F2 N2 => h h2 tk2 gn tk u hd F2 N2 hb hz
end

/- part MSrcT -/
section
def rowsJ (h₀ : Heap) (L : Addr) (m : Str → Option Value) (news : List (Addr × Obj)) (C I l a : Addr) (oa : Obj) (rows : List Row) (x dx : Addr) (i : Nat) (h : Heap) : Prop :=
  ∃ add vs nn oC oI mC, Fr h₀ L h m ∧ News h₀ L h ((I, oI) :: (C, oC) :: (x, tagsObj dx vs nn) :: (add ++ (dx, emptyDict) :: (a, oa) :: news)) ∧ h.Ns C mC ∧ oI.cls = .type "list_iterator" ∧ oI.data = .fields #[.ref l, .int i 0] ∧
    (∀ p ∈ add, @LT.lt Nat _ x p.1) ∧ TagsIn add vs (rows.take i)
def rowsY (h₀ : Heap) (L : Addr) (m : Str → Option Value) (news : List (Addr × Obj)) (C I l a : Addr) (oa : Obj) (rows : List Row) (x dx : Addr) (i : Nat) (v : Value) (h : Heap) : Prop :=
  ∃ add vs nn oC oI mC, Fr h₀ L h m ∧ News h₀ L h ((I, oI) :: (C, oC) :: (x, tagsObj dx vs nn) :: (add ++ (dx, emptyDict) :: (a, oa) :: news)) ∧ h.Ns C mC ∧ oI.cls = .type "list_iterator" ∧ oI.data = .fields #[.ref l, .int ((i + 1 : Nat) : Int) 0] ∧
    (∀ p ∈ add, @LT.lt Nat _ x p.1) ∧ TagsIn add (vs ++ [v]) (rows.take (i + 1)) ∧ vs.length ≤ i
theorem turn_src {w : World} {A A₀ : Around} {s : Shared} {base h₀ : Heap} {outer : List Env} {env : Env} {L : Addr} {m mg mb : Str → Option Value} {p₀ : Program} {loose : List Str} {news : List (Addr × Obj)}
    {C I l a g x dx : Addr} {oa ol : Obj} {rows : List Row} {rvs : List Value} {ln : Nat} {c : Code} {cd : Value} {q nm : Str} {p1 p2 p3 p4 p5 p6 p7 : Pos}
    (helt : EltOk nm) (cx : Cx w A A₀ base h₀ outer env L mg mb p₀ loose) (hloc : env.locals = L) (hc : c.envs = [gEnv nm C cd q]) (hr : (A.in1.over c []).depth + 40 < recursionLimit) (hu : (A.in1.over c []).units + 200 < cLine)
    (hLC : @LT.lt Nat _ L C) (hIC : @LT.lt Nat _ I C) (hCa : @LT.lt Nat _ C a) (hadx : @LT.lt Nat _ a dx) (hdx : @LT.lt Nat _ dx x) (hnews : ∀ p ∈ news, @LT.lt Nat _ p.1 C) (hnI : ∀ p ∈ news, p.1 ≠ I)
    (hl : (l, ol) ∈ news) (hol : ol.data = .seq rvs.toArray ln) (hR : SrcIn news rvs rows) :
    GxTurn Challenge.rw_fy0015_01.row.toRowW.1 w (A.in1.over c []) (.Tuple [.Name (Str.ofString "code") p1, .Name (Str.ofString "value") p2] 0 p3) (.Call (.Name nm p4) [.Name (Str.ofString "code") p5, .Name (Str.ofString "value") p6] [] p7) (.ref I) (gEnv nm C cd q) rows.length
      (gJ s g (rowsJ h₀ L m news C I l a oa rows x dx)) (gY s g (rowsY h₀ L m news C I l a oa rows x dx)) := by
  rintro i s' hi ⟨h, tk, gn, rfl, hgb, hgz, add, vs, nn, oC, oI, mC, F, N, hns, ci, di, hadd, hT⟩
  have hI := N _ (List.Mem.head _)
  have hoffI : ∀ p ∈ (C, oC) :: (x, tagsObj dx vs nn) :: (add ++ (dx, emptyDict) :: (a, oa) :: news), p.1 ≠ I := by
    intro p hp
    rcases List.mem_cons.mp hp with rfl | hp
    · exact Nat.ne_of_gt hIC
    rcases List.mem_cons.mp hp with rfl | hp
    · exact Nat.ne_of_gt (by show @LT.lt Nat _ I x; omega)
    rcases List.mem_append.mp hp with hp | hp
    · have := hadd p hp
      exact Nat.ne_of_gt (by omega)
    rcases List.mem_cons.mp hp with rfl | hp
    · exact Nat.ne_of_gt (by show @LT.lt Nat _ I dx; omega)
    rcases List.mem_cons.mp hp with rfl | hp
    · exact Nat.ne_of_gt (by show @LT.lt Nat _ I a; omega)
    · exact hnI p hp
  have hl5 := (N (l, ol) (List.Mem.tail _ (List.Mem.tail _ (List.Mem.tail _ (List.mem_append_right _ (List.Mem.tail _ (List.Mem.tail _ hl))))))).1
  obtain ⟨t, hx1, hel⟩ := hR.2 i hi
  refine next_item ⟨oI, hI.1, ci, di⟩ ⟨_, _, hl5, hol⟩ (by simpa using hx1) fun h6 hit6 hs6 => ?_
  obtain ⟨oI6, ho6, c6, d6⟩ := hit6
  have F6 := F.change hs6 hI.2.1 hI.2.2
  have N6 := News.setIn (own := []) N (fun _ q => by cases q) hoffI hs6 ho6
  refine ⟨_, rfl, g_let ho6 c6 d6 ?_⟩
  have hC6 := N6 (C, oC) (List.Mem.tail _ (List.Mem.head _))
  have hns6 : h6.Ns C mC := hns.sameBut hs6 (Nat.ne_of_gt hIC)
  have hsub : ∀ p ∈ (I, oI6) :: (x, tagsObj dx vs nn) :: (add ++ (dx, emptyDict) :: (a, oa) :: news), p ∈ (I, oI6) :: (C, oC) :: (x, tagsObj dx vs nn) :: (add ++ (dx, emptyDict) :: (a, oa) :: news) := by
    intro p hp
    rcases List.mem_cons.mp hp with rfl | hp
    · exact List.Mem.head _
    · exact List.Mem.tail _ (List.Mem.tail _ hp)
  have hneC : ∀ p ∈ (I, oI6) :: (x, tagsObj dx vs nn) :: (add ++ (dx, emptyDict) :: (a, oa) :: news), p.1 ≠ C := by
    intro p hp
    rcases List.mem_cons.mp hp with rfl | hp
    · exact Nat.ne_of_lt hIC
    rcases List.mem_cons.mp hp with rfl | hp
    · exact Nat.ne_of_gt (by show @LT.lt Nat _ C x; omega)
    rcases List.mem_append.mp hp with hp | hp
    · have := hadd p hp
      exact Nat.ne_of_gt (by omega)
    rcases List.mem_cons.mp hp with rfl | hp
    · exact Nat.ne_of_gt (by show @LT.lt Nat _ C dx; omega)
    rcases List.mem_cons.mp hp with rfl | hp
    · exact Nat.ne_of_gt hCa
    · exact Nat.ne_of_lt (hnews p hp)
  have Fg := fr_genH (news := (I, oI6) :: (C, oC) :: (x, tagsObj dx vs nn) :: (add ++ (dx, emptyDict) :: (a, oa) :: news)) hns6 (Nat.le_of_lt (Heap.lt_size hC6.1))
  have Ng : News (gcut h6 C _) C h6 ((I, oI6) :: (x, tagsObj dx vs nn) :: (add ++ (dx, emptyDict) :: (a, oa) :: news)) := news_genH (news := (I, oI6) :: (C, oC) :: (x, tagsObj dx vs nn) :: (add ++ (dx, emptyDict) :: (a, oa) :: news)) fun p hp => ⟨(N6 p (hsub p hp)).1, hneC p hp, .inl (List.mem_map_of_mem (hsub p hp))⟩
  have cx7 := cx_genH (c := c) (cenv := gEnv nm C cd q) cx hloc F6 N6 hLC hc rfl rfl
  have hnews' : ∀ p ∈ news, p ∈ (I, oI6) :: (x, tagsObj dx vs nn) :: (add ++ (dx, emptyDict) :: (a, oa) :: news) := fun p hp => List.Mem.tail _ (List.Mem.tail _ (List.mem_append_right _ (List.Mem.tail _ (List.Mem.tail _ hp))))
  refine g_assignX cx7 Fg Ng hr hu (hel.mono hnews') fun h7 tk7 gn7 tkc u hdu F7 N7 hb7 hz7 => ?_
  refine helt cx7 F7 N7 (by omega) (by omega) (c := (rowAt rows i).1) (tk := tkc) (v := u) (by simp [ofString_eq]) (by simp) fun x' dx' h8 tk8 F8 N8 l8 l9 => ?_
  obtain ⟨oC8, es8, ep8, hoC8, r8⟩ := id F8.ns
  have hxd : @LT.lt Nat _ x dx' := l8.lt (x, _) (List.Mem.tail _ (List.Mem.head _))
  have B := news_backH F6 N6 hLC N8 (fun p hp => by
    rcases List.mem_cons.mp hp with rfl | hp
    · exact .inr (by show @LT.lt Nat _ C x'; omega)
    rcases List.mem_cons.mp hp with rfl | hp
    · exact .inr (by show @LT.lt Nat _ C dx'; omega)
    · exact .inl (hsub p hp))
  refine ⟨h8, tk8, gn7, rfl, (fun z => hb7 (hgb z)), Nat.lt_of_lt_of_le hgz hz7, (x', tagObj dx' (rowAt rows i).1 tkc u) :: (dx', dictOf [] 0) :: add, vs, nn, oC8, oI6, _, gen_backH F6 N6 hLC F8, ?_, F8.ns, c6, d6, ?_, ?_, ?_⟩
  · intro p hp
    rcases List.mem_cons.mp hp with rfl | hp
    · exact B _ (List.Mem.tail _ (List.Mem.tail _ (List.Mem.head _)))
    rcases List.mem_cons.mp hp with rfl | hp
    · exact ⟨hoC8, hC6.2⟩
    rcases List.mem_cons.mp hp with rfl | hp
    · exact B _ (List.Mem.tail _ (List.Mem.tail _ (List.Mem.tail _ (List.Mem.head _))))
    rcases List.mem_cons.mp hp with rfl | hp
    · exact B _ (List.Mem.head _)
    rcases List.mem_cons.mp hp with rfl | hp
    · exact B _ (List.Mem.tail _ (List.Mem.head _))
    · exact B _ (List.Mem.tail _ (List.Mem.tail _ (List.Mem.tail _ (List.Mem.tail _ hp))))
  · intro p hp
    rcases List.mem_cons.mp hp with rfl | hp
    · show @LT.lt Nat _ x x'; omega
    rcases List.mem_cons.mp hp with rfl | hp
    · exact hxd
    · exact hadd p hp
  · have e : rows.take (i + 1) = rows.take i ++ [rowAt rows i] := by
      rw [List.take_succ_eq_append_getElem hi]
      congr 1
      unfold rowAt
      rw [List.getD_eq_getElem?_getD, List.getElem?_eq_getElem hi]
      rfl
    rw [e]
    have hd0 : DatIn add u (rowAt rows i).2.dat := by
      cases hc : (rowAt rows i).2 with
      | s y => rw [hc] at hdu; cases hdu; exact DatIn.str _ _
      | i y => rw [hc] at hdu; cases hdu; exact DatIn.int _ _
    exact TagsIn.app (hT.mono fun p hp => List.Mem.tail _ (List.Mem.tail _ hp)) (TagsIn.cons (d := dx') (tk := tkc) (u := u) (List.Mem.head _) (List.Mem.tail _ (List.Mem.head _)) (hd0.mono fun p hp => List.Mem.tail _ (List.Mem.tail _ hp)) TagsIn.nil)
  · have := hT.length
    rw [this]
    exact List.length_take_le ..
end

/- part MSrcD -/
section
def rowsD (h₀ : Heap) (L : Addr) (m : Str → Option Value) (news : List (Addr × Obj)) (C a : Addr) (oa : Obj) (rows : List Row) (x dx : Addr) (h : Heap) : Prop :=
  ∃ add vs nn oC, Fr h₀ L h m ∧ News h₀ L h ((C, oC) :: (x, tagsObj dx vs nn) :: (add ++ (dx, emptyDict) :: (a, oa) :: news)) ∧ (∀ p ∈ add, @LT.lt Nat _ x p.1) ∧ TagsIn add vs rows
section
variable {w : World} {A A₀ : Around} {s : Shared} {base h₀ : Heap} {outer : List Env} {env : Env} {L : Addr} {m mg mb : Str → Option Value} {p₀ : Program} {loose : List Str} {news : List (Addr × Obj)}
    {C I l a g x dx : Addr} {oa ol : Obj} {rows : List Row} {rvs : List Value} {ln : Nat}
theorem offI_of {add : List (Addr × Obj)} {oC oX : Obj} (hIC : @LT.lt Nat _ I C) (hCa : @LT.lt Nat _ C a) (hadx : @LT.lt Nat _ a dx) (hdx : @LT.lt Nat _ dx x) (hnI : ∀ p ∈ news, p.1 ≠ I) (hadd : ∀ p ∈ add, @LT.lt Nat _ x p.1) :
    ∀ p ∈ (C, oC) :: (x, oX) :: (add ++ (dx, emptyDict) :: (a, oa) :: news), p.1 ≠ I := by
  intro p hp
  rcases List.mem_cons.mp hp with rfl | hp
  · exact Nat.ne_of_gt hIC
  rcases List.mem_cons.mp hp with rfl | hp
  · exact Nat.ne_of_gt (by show @LT.lt Nat _ I x; omega)
  rcases List.mem_append.mp hp with hp | hp
  · have := hadd p hp
    exact Nat.ne_of_gt (by omega)
  rcases List.mem_cons.mp hp with rfl | hp
  · exact Nat.ne_of_gt (by show @LT.lt Nat _ I dx; omega)
  rcases List.mem_cons.mp hp with rfl | hp
  · exact Nat.ne_of_gt (by show @LT.lt Nat _ I a; omega)
  · exact hnI p hp
theorem done_src {A : Around} (hh : A.handled = none) (hIC : @LT.lt Nat _ I C) (hCa : @LT.lt Nat _ C a) (hadx : @LT.lt Nat _ a dx) (hdx : @LT.lt Nat _ dx x) (hnI : ∀ p ∈ news, p.1 ≠ I)
    (hl : (l, ol) ∈ news) (hol : ol.data = .seq rvs.toArray ln) (hR : SrcIn news rvs rows) (s' : Shared) (hJ : gJ s g (rowsJ h₀ L m news C I l a oa rows x dx) rows.length s') :
    wpAny (model Challenge.rw_fy0015_01.row.toRowW.1 w) A (pyNext (.ref I)) (fun r s₁ => r = none ∧ gD s g (rowsD h₀ L m news C a oa rows x dx) s₁) (fun _ _ => False) s' := by
  obtain ⟨h, tk, gn, rfl, hgb, hgz, add, vs, nn, oC, oI, mC, F, N, hns, ci, di, hadd, hT⟩ := hJ
  have hI := N _ (List.Mem.head _)
  have hoffI := offI_of (oa := oa) (oC := oC) (oX := tagsObj dx vs nn) hIC hCa hadx hdx hnI hadd
  have hl5 := (N (l, ol) (List.Mem.tail _ (List.Mem.tail _ (List.Mem.tail _ (List.mem_append_right _ (List.Mem.tail _ (List.Mem.tail _ hl))))))).1
  refine next_end (i := rows.length) hh ⟨oI, hI.1, ci, di⟩ ⟨_, _, hl5, hol⟩ (by simp [hR.1]) fun h6 hs6 => ?_
  obtain ⟨F6, N6⟩ := ext_off F N hoffI hs6
  rw [List.take_length] at hT
  exact ⟨rfl, h6, tk, gn, rfl, hgb, hgz, add, vs, nn, oC, F6, N6, hadd, hT⟩
theorem push_src {A : Around} {i : Nat} {v : Value} (hIC : @LT.lt Nat _ I C) (hCa : @LT.lt Nat _ C a) (hadx : @LT.lt Nat _ a dx) (hdx : @LT.lt Nat _ dx x) (hnews : ∀ p ∈ news, @LT.lt Nat _ p.1 C) (hi : i ≤ 1000)
    (s' : Shared) (hY : rowsY h₀ L m news C I l a oa rows x dx i v s'.heap) :
    wpAny (model Challenge.rw_fy0015_01.row.toRowW.1 w) A (updateSeq x (·.push v)) (fun _ s'' => ∃ h', s'' = { s' with heap := h' } ∧ rowsJ h₀ L m news C I l a oa rows x dx (i + 1) h') (fun _ _ => False) s' := by
  obtain ⟨add, vs, nn, oC, oI, mC, F, N, hns, ci, di, hadd, hT, hlen⟩ := hY
  have hx := (N (x, _) (List.Mem.tail _ (List.Mem.tail _ (List.Mem.head _)))).1
  refine wpAny_updateSeq (hz := by simp [sizeLine_eq]; omega) (_hz' := by simp [sizeLine_eq]; omega) hx rfl ?_
  obtain ⟨n7, e7⟩ := mapSeq_lst (C := 366) (dx := dx) (xs := vs.toArray) (n := nn) (·.push v)
  have o1 : ∀ p ∈ [(I, oI), (C, oC)], p.1 ≠ x := by
    intro p hp
    rcases List.mem_cons.mp hp with rfl | hp
    · exact Nat.ne_of_lt (by show @LT.lt Nat _ I x; omega)
    rcases List.mem_cons.mp hp with rfl | hp
    · exact Nat.ne_of_lt (by show @LT.lt Nat _ C x; omega)
    · cases hp
  have o2 : ∀ p ∈ add ++ (dx, emptyDict) :: (a, oa) :: news, p.1 ≠ x := by
    intro p hp
    rcases List.mem_append.mp hp with hp | hp
    · exact Nat.ne_of_gt (hadd p hp)
    rcases List.mem_cons.mp hp with rfl | hp
    · exact Nat.ne_of_lt hdx
    rcases List.mem_cons.mp hp with rfl | hp
    · exact Nat.ne_of_lt (by show @LT.lt Nat _ a x; omega)
    · have := hnews p hp
      exact Nat.ne_of_lt (by omega)
  obtain ⟨F7, N7⟩ := news_upd (pre := [(I, oI), (C, oC)]) (f := Obj.mapSeq (·.push v)) F N o1 o2 e7 rfl
  have et : vs.toArray.push v = (vs ++ [v]).toArray := by simp
  rw [et] at N7
  exact ⟨_, rfl, add, vs ++ [v], n7, oC, oI, mC, F7, N7, hns.sameBut (Heap.SameBut.update ..) (Nat.ne_of_lt (by show @LT.lt Nat _ C x; omega)), ci, di, hadd, hT⟩
end
end

/- part MTgS -/
section
theorem tags_src {w : World} {A A₀ : Around} {s : Shared} {base h₀ : Heap} {outer : List Env} {env : Env} {L : Addr} {m mg mb : Str → Option Value} {p₀ : Program} {loose : List Str} {news : List (Addr × Obj)} {E : Value → Shared → Prop} {Q : Value → Shared → Prop} {a C I l g ln : Nat} {oC ol : Obj} {t1 t2 : Tok} {qq q nm : Str} {rows : List Row} {rvs : List Value} {cd : Value} {iter : PySem.Expr} {pos p1 p2 p3 p4 p5 p6 p7 : Pos} {mC : Str → Option Value}
    (helt : EltOk nm) (cx : Cx w A A₀ base h₀ outer env L mg mb p₀ loose) (hloc : env.locals = L) (F : Fr h₀ L s.heap m) (N : News h₀ L s.heap ((a, genObj g t1 t2 qq) :: (C, oC) :: (I, listIter l 0) :: news))
    (hr : A.depth + 60 < recursionLimit) (hu : A.units + 1000 < cLine) (hns : s.heap.Ns C mC)
    (hgs : s.gens[g]? = some (.fresh (gxStart (.Call (.Name nm p4) [.Name (Str.ofString "code") p5, .Name (Str.ofString "value") p6] [] p7) (.Tuple [.Name (Str.ofString "code") p1, .Name (Str.ofString "value") p2] 0 p3) iter (gScope nm) pos (.ref I) (gEnv nm C cd q))))
    (hLC : @LT.lt Nat _ L C) (hIC : @LT.lt Nat _ I C) (hCa : @LT.lt Nat _ C a) (hnews : ∀ p ∈ news, @LT.lt Nat _ p.1 C) (hnI : ∀ p ∈ news, p.1 ≠ I)
    (hl : (l, ol) ∈ news) (hol : ol.data = .seq rvs.toArray ln) (hR : SrcIn news rvs rows) (hz : rows.length ≤ 1000)
    (h : ∀ (x dx : Nat) vs nn add h' tk gn, Fr h₀ L h' m → News h₀ L h' ((x, tagsObj dx vs nn) :: (add ++ (dx, emptyDict) :: news)) → TagsIn add vs rows → (∀ p ∈ add, @LT.lt Nat _ x p.1) → a < dx → dx < x → (AllBare s.gens → AllBare gn) → Q (.ref x) (gSt s h' tk gn)) :
    wpAny (model Challenge.rw_fy0015_01.row.toRowW.1 w) A (call (.ref 366) [.ref a]) Q E s := by
  have cx' : Cx w (underC A a) A₀ base h₀ outer env L mg mb p₀ loose := ⟨cx.B, cx.X, cx.T, cx.hh, cx.hA, cx.hf, cx.hk⟩
  refine tags_gen cx F N (by omega) (by omega) (List.Mem.head _) ⟨rfl, rfl, rfl⟩ hgs (n := rows.length)
    (fun x dx i h => rowsJ h₀ L m news C I l a (genObj g t1 t2 qq) rows x dx i h) (fun x dx i v h => @LT.lt Nat _ a dx ∧ @LT.lt Nat _ dx x ∧ rowsY h₀ L m news C I l a (genObj g t1 t2 qq) rows x dx i v h) (fun x dx => rowsD h₀ L m news C a (genObj g t1 t2 qq) rows x dx) ?go ?start ?src ?push ?fin
  case go =>
    intro x dx l1 l2 s' hJ
    have hadx : @LT.lt Nat _ a dx := l1.lt _ (List.Mem.head _)
    refine ⟨rfl, ?_⟩
    rw [Nat.sub_zero]
    refine gx_start (A := (underC A a).in1) rfl ?_ ?_ ?_ s' s' hJ
    · have tr := turn_src (s := s) (m := m) (oa := genObj g t1 t2 qq) (g := g) (c := gxLoop (.Call (.Name nm p4) [.Name (Str.ofString "code") p5, .Name (Str.ofString "value") p6] [] p7) (.Tuple [.Name (Str.ofString "code") p1, .Name (Str.ofString "value") p2] 0 p3) iter (gScope nm) pos (.ref I) (gEnv nm C cd q)) (p1 := p1) (p2 := p2) (p3 := p3) (p4 := p4) (p5 := p5) (p6 := p6) (p7 := p7) helt cx' hloc rfl ?_ ?_ hLC hIC hCa hadx l2 hnews hnI hl hol hR
      · intro i5 s5 hi5 hJ5
        refine wpAny_mono (tr i5 s5 hi5 hJ5) (fun r s6 z => ?_) fun _ _ e => e
        obtain ⟨v, e, z⟩ := z
        refine ⟨v, e, wpAny_mono z (fun _ s7 z => wpAny_mono z (fun _ s8 z => wpAny_mono z (fun y s9 z => ?_) fun _ _ e => e) fun _ _ e => e) fun _ _ e => e⟩
        obtain ⟨h9, tk9, gn9, e9, zb9, z9, z⟩ := z
        exact ⟨h9, tk9, gn9, e9, zb9, z9, hadx, l2, z⟩
      · have e : ((underC A a).in1.over (gxLoop (.Call (.Name nm p4) [.Name (Str.ofString "code") p5, .Name (Str.ofString "value") p6] [] p7) (.Tuple [.Name (Str.ofString "code") p1, .Name (Str.ofString "value") p2] 0 p3) iter (gScope nm) pos (.ref I) (gEnv nm C cd q)) []).depth = (underC A a).depth + 0 + 1 := rfl
        rw [e]
        unfold underC
        simp only [depth_under_make]
        omega
      · have e : ((underC A a).in1.over (gxLoop (.Call (.Name nm p4) [.Name (Str.ofString "code") p5, .Name (Str.ofString "value") p6] [] p7) (.Tuple [.Name (Str.ofString "code") p1, .Name (Str.ofString "value") p2] 0 p3) iter (gScope nm) pos (.ref I) (gEnv nm C cd q)) []).units = (underC A a).in1.units + 0 + (gxLoop (.Call (.Name nm p4) [.Name (Str.ofString "code") p5, .Name (Str.ofString "value") p6] [] p7) (.Tuple [.Name (Str.ofString "code") p1, .Name (Str.ofString "value") p2] 0 p3) iter (gScope nm) pos (.ref I) (gEnv nm C cd q)).cUnits := rfl
        rw [e]
        have e3 : (gxLoop (.Call (.Name nm p4) [.Name (Str.ofString "code") p5, .Name (Str.ofString "value") p6] [] p7) (.Tuple [.Name (Str.ofString "code") p1, .Name (Str.ofString "value") p2] 0 p3) iter (gScope nm) pos (.ref I) (gEnv nm C cd q)).cUnits = 3 := rfl
        rw [e3]
        unfold underC
        simp only [units_in1, units_under_make]
        have e4 : (Code.builtin "type.__call__" ⟨[.ref 366, .ref a], []⟩).cUnits ≤ 100 := by
          show 1 + 3 * (Code.builtin "type.__call__" ⟨[.ref 366, .ref a], []⟩).frames ≤ 100
          rw [show (Code.builtin "type.__call__" ⟨[.ref 366, .ref a], []⟩).frames = 0 by kernel_rfl]
          decide
        omega
    · intro s5 hJ5
      refine done_src (w := w) ?_ hIC hCa hadx l2 hnI hl hol hR s5 hJ5
      exact cx.hh
    · rintro s5 ⟨h5, tk, gn5, rfl, zb5, z5, add, vs, nn, oC5, oI, mC5, F5, N5, hns5, ci, di, hadd, hT⟩
      exact wpAny_pyIter_listiter (i := 0) ⟨oI, (N5 _ (List.Mem.head _)).1, ci, di⟩ ⟨rfl, rfl⟩
  case start =>
    intro x dx h' nn F' N' l1 l2
    refine ⟨[], [], nn, oC, listIter l 0, mC, F', news_sub N' ?_, ?_, rfl, rfl, (fun p hp => by cases hp), TagsIn.nil⟩
    · intro p hp
      rcases List.mem_cons.mp hp with rfl | hp
      · exact List.Mem.tail _ (List.Mem.tail _ (List.Mem.tail _ (List.Mem.tail _ (List.Mem.head _))))
      rcases List.mem_cons.mp hp with rfl | hp
      · exact List.Mem.tail _ (List.Mem.tail _ (List.Mem.tail _ (List.Mem.head _)))
      rcases List.mem_cons.mp hp with rfl | hp
      · exact List.Mem.head _
      rcases List.mem_cons.mp hp with rfl | hp
      · exact List.Mem.tail _ (List.Mem.head _)
      rcases List.mem_cons.mp hp with rfl | hp
      · exact List.Mem.tail _ (List.Mem.tail _ (List.Mem.head _))
      · exact List.Mem.tail _ (List.Mem.tail _ (List.Mem.tail _ (List.Mem.tail _ (List.Mem.tail _ hp))))
    · have e1 := (N (C, oC) (List.Mem.tail _ (List.Mem.head _))).1
      have e2 := (N' (C, oC) (List.Mem.tail _ (List.Mem.tail _ (List.Mem.tail _ (List.Mem.head _))))).1
      exact hns.at' fun o e => by rw [e1] at e; cases e; exact e2
  case src =>
    rintro x dx i h5 ⟨add, vs, nn, oC5, oI, mC5, F5, N5, hns5, ci, di, hadd, hT⟩
    refine ⟨cx.T.nolimit.keeps F5.keep, ⟨_, _, _, (N5 (a, genObj g t1 t2 qq) (List.Mem.tail _ (List.Mem.tail _ (List.Mem.tail _ (List.mem_append_right _ (List.Mem.tail _ (List.Mem.head _))))))).1, rfl, rfl, rfl⟩⟩
  case push =>
    intro x dx i v s' hi hY
    have hadx : @LT.lt Nat _ a dx := hY.1
    exact push_src hIC hCa hadx hY.2.1 hnews (by omega) s' hY.2.2
  case fin =>
    rintro x dx h5 h6 tk gn l1 l2 ⟨add, vs, nn, oC5, F5, N5, hadd, hT⟩ hk hb9
    refine h x dx vs nn add h6 tk gn (F5.keeps hk) (news_sub (N5.grown hk) ?_) hT hadd (l1.lt _ (List.Mem.head _)) l2 hb9
    intro p hp
    rcases List.mem_cons.mp hp with rfl | hp
    · exact List.Mem.tail _ (List.Mem.head _)
    refine List.Mem.tail _ (List.Mem.tail _ ?_)
    rcases List.mem_append.mp hp with hp | hp
    · exact List.mem_append_left _ hp
    rcases List.mem_cons.mp hp with rfl | hp
    · exact List.mem_append_right _ (List.Mem.head _)
    · exact List.mem_append_right _ (List.Mem.tail _ (List.Mem.tail _ hp))
end

/- part MHvE -/
theorem fresh_MHvE : True ∧ True := by
  w_top off
  first
    | (walk1; done)
    | exact ⟨True.intro, True.intro⟩
section
def vCodes : List Int := [1000, 1001, 1002, 1003, 1004, 1005, 1070, 1071, 1040, 1041, 1010, 1011, 1012, 1013, 1042]
abbrev vSet : Obj := { cls := .type "set", data := .set #[(1000, .int 1000 200), (1001, .int 1001 201), (1002, .int 1002 202), (1003, .int 1003 203), (1004, .int 1004 204), (1005, .int 1005 205), (1070, .int 1070 213), (1071, .int 1071 214), (1040, .int 1040 210), (1041, .int 1041 211), (1010, .int 1010 206), (1011, .int 1011 207), (1012, .int 1012 208), (1013, .int 1013 209), (1042, .int 1042 212)] 17 { mask := 31, place := #[8, 9, 10, 11, 12, 13, 14, 15, 16, 17, 18, 19, 20, 21, 22], dummies := #[], finger := 0, led := false, moves := 1, plain := true } }
abbrev vEs : List (Int × Value) := [(1000, .int 1000 200), (1001, .int 1001 201), (1002, .int 1002 202), (1003, .int 1003 203), (1004, .int 1004 204), (1005, .int 1005 205), (1070, .int 1070 213), (1071, .int 1071 214), (1040, .int 1040 210), (1041, .int 1041 211), (1010, .int 1010 206), (1011, .int 1011 207), (1012, .int 1012 208), (1013, .int 1013 209), (1042, .int 1042 212)]
theorem vSet_of (prog : Program) (w : World) : Obj.SetObjOf (PySem.intKind prog w) vSet (fun k => vEs.any fun e => (PySem.intKind prog w).is k e.2) 15 := by
  refine ⟨⟨rfl, rfl, rfl⟩, _, _, _, rfl, ?_, fun k => List.any_eq_true, rfl, by decide⟩
  intro e he
  simp only [List.mem_cons, List.not_mem_nil, or_false] at he
  rcases he with rfl | rfl | rfl | rfl | rfl | rfl | rfl | rfl | rfl | rfl | rfl | rfl | rfl | rfl | rfl <;> exact ⟨⟨_, intKind_is prog w _ _, by rfl⟩, rfl⟩
theorem vCodes_in (prog : Program) (w : World) {c : Int} (h : c ∈ vCodes) : (vEs.any fun e => (PySem.intKind prog w).is c e.2) = true := by
  simp only [vCodes, List.mem_cons, List.not_mem_nil, or_false] at h
  rcases h with rfl | rfl | rfl | rfl | rfl | rfl | rfl | rfl | rfl | rfl | rfl | rfl | rfl | rfl | rfl <;> simp [List.any_cons, intKind_is]
theorem in_valid {w : World} {A : Around} {s : Shared} {h₀ : Heap} {L : Addr} {m : Str → Option Value} {E : Value → Shared → Prop} {Q : Value → Shared → Prop} {c : Int} {tk : Tok} (F : Fr h₀ L s.heap m) (X₀ : (hd.heap_39 w.params).In h₀) (hc : c ∈ vCodes)
    (h : Q (.bool true) { s with toks := s.toks + 1 }) : wpAny (model Challenge.rw_fy0015_01.row.toRowW.1 w) A (compareOp .In (.int c tk) (.ref 22)) Q E s := by
  have hl : List.lookup 22 (hd.heap_39 w.params) = some vSet := by with_unfolding_all rfl
  refine wpAny_inSet_of (intKind_is _ w c tk) rfl ((vSet_of _ w).setOf ((X₀.keeps F.keep) _ _ hl) (by decide)) ?_
  rw [vCodes_in _ w hc]; exact h
abbrev vScope : Scope := { kind := .function, names := [(Str.ofString ".0", .local), (Str.ofString "tag", .local), (Str.ofString "VALID_XDATA_GROUP_CODES", .globalImplicit)], isGenerator := true, isCoroutine := false }
abbrev vEnv (C : Addr) (code : Value) (q : Str) : Env := { scope := vScope, locals := C, globals := mainGlobals, cells := [], qual := q, func := none, code, frame := some C, builtins := builtinsNs }
theorem v_local {M : Model} {A : Around} {E : Value → Shared → Prop} {s : Shared} {h₀ : Heap} {C : Addr} {m : Str → Option Value} {cd : Value} {q : Str} {x : Str} {pos : Pos} {v : Value} {Q : Value → Shared → Prop} (F : Fr h₀ C s.heap m) (hv : m x = some v) (h : Q v s)
    (hl : (vEnv C cd q).kindOf x = some .local) (hd : (x == ("__debug__" : Str)) = false) : wpAny M A (eval (.Name x pos) (vEnv C cd q)) Q E s := wpAny_Name (wpAny_loadName_local rfl hl F.ns hv h) hd
local macro_rules | `(tactic| walk_at "eval Name") => `(tactic| (k_here; k_dflt (refine' v_local ?kF ?k1 ?_ ?k4 ?k7; (case k4 => rfl); (case k7 => decide); (case kF => k_asm); (case k1 => with_reducible assumption); k_whole)))
local macro_rules | `(tactic| walk_at "eval Name") => `(tactic| (k_here; k_dflt (refine' nameG_K ?kF ?k1 ?k2 ?k3 ?_ ?k4 ?k5 ?k6 ?k7; (case k4 => rfl); (case k5 => rfl); (case k6 => rfl); (case k7 => decide); (case kF => k_asm); (case k1 => k_asm); (case k2 => k_asm); (case k3 => k_is); k_whole)))
local macro_rules | `(tactic| walk_at "getAttr ref") => `(tactic| (k_here; k_dflt (refine' code_specX ?c ?F ?N ?r ?u ?a ?b ?_; (case c => with_reducible assumption); (case F => k_asm); (case N => k_asm); (case r => with_reducible assumption); (case u => with_reducible assumption); (case a => k_mem); (case b => k_mem); k_whole); intro h' tk' F' N'))
local macro_rules | `(tactic| walk_at "compareOp In int ref") => `(tactic| (k_here; k_dflt (refine' in_valid ?F ?X ?c ?_; (case F => k_asm); (case X => k_asm); (case c => with_reducible assumption); k_whole)))
set_option maxHeartbeats 400000 in
theorem elt_valid {w : World} {A A₀ : Around} {s : Shared} {base h₀ : Heap} {outer : List Env} {mg mb m : Str → Option Value} {p₀ : Program} {loose : List Str} {news : List (Addr × Obj)} {E : Value → Shared → Prop} {Q : Value → Shared → Prop} {C : Addr} {cd : Value} {q : Str} {p1 p2 p3 p4 : Pos} {c : Int} {tk : Tok} {v : Value} {x dx : Addr}
    (cx : Cx w A A₀ base h₀ outer (vEnv C cd q) C mg mb p₀ loose) (F : Fr h₀ C s.heap m) (N : News h₀ C s.heap news) (hr : A.depth + 20 < recursionLimit) (hu : A.units + 100 < cLine)
    (hm1 : m "tag" = some (.ref x)) (h1 : (x, tagObj dx c tk v) ∈ news) (h2 : (dx, dictOf [] 0) ∈ news) (hc : c ∈ vCodes)
    (h : ∀ h' tk', Fr h₀ C h' m → News h₀ C h' news → Q (.bool true) { s with heap := h', toks := tk' }) :
    wpAny (model Challenge.rw_fy0015_01.row.toRowW.1 w) A (eval (.Compare (.Attribute (.Name (Str.ofString "tag") p1) (Str.ofString "code") p2) [.In] [.Name (Str.ofString "VALID_XDATA_GROUP_CODES") p3] p4) (vEnv C cd q)) Q E s := by
  obtain ⟨B, X₀, T, hh, hA, hf, hk⟩ := id cx
  revert X₀
  k_fill
  intro X₀
  k_steps
  exact h _ _ (by assumption) (by assumption)
end

/- part MAll -/
theorem fresh_MAll : True ∧ True := by
  w_top off
  first
    | (walk1; done)
    | exact ⟨True.intro, True.intro⟩
section
/-! all(generator) whose every value is True; has_valid_xdata_group_codes. -/
theorem all_loop {prog : Program} {w : World} {A : Around} {R : Result → Shared → Prop} {it : Value} {n : Nat} (J : Nat → Shared → Prop)
    (step : ∀ i s, i < n → J i s → wpAny (model prog w) A.in1 (pyNext it) (fun r s' => r = some (.bool true) ∧ J (i + 1) s') (fun e s' => R (.error e) s') s)
    (done : ∀ s, J n s → wpAny (model prog w) A.in1 (pyNext it) (fun r s' => r = none ∧ R (.ok (.ret (.bool true))) s') (fun e s' => R (.error e) s') s) :
    ∀ k i s, n - i = k → i ≤ n → J i s → codeAny (model prog w) A (.builtin "all.loop" ⟨[it], []⟩) R s := by
  intro k
  induction k with
  | zero =>
    intro i s hk hi hJ
    have hin : i = n := by omega
    subst hin
    refine codeAny_builtin PySem.F.entry_all_loop ?_
    rw [Around.under_plainId PySem.F.plain_all_loop _]
    show wpAny _ A.in1 (pyNext it >>= _) _ _ s
    refine wpAny_bind (wpAny_mono (done s hJ) (fun r s' hr => ?_) fun _ _ z => z)
    obtain ⟨rfl, hr⟩ := hr
    exact wpAny_bind (wpAny_rule (wpAny_pure hr))
  | succ k ih =>
    intro i s hk hi hJ
    refine codeAny_builtin PySem.F.entry_all_loop ?_
    rw [Around.under_plainId PySem.F.plain_all_loop _]
    show wpAny _ A.in1 (pyNext it >>= _) _ _ s
    refine wpAny_bind (wpAny_mono (step i s (by omega) hJ) (fun r s' hr => ?_) fun _ _ z => z)
    obtain ⟨rfl, hr⟩ := hr
    refine wpAny_bind (wpAny_holding (m := truthy (.bool true)) (wpAny_pure ?_))
    refine wpAny_bind (wpAny_letGo ?_)
    simp only [if_true]
    exact wpAny_pure ⟨plainId_quiet PySem.F.plain_all_loop _, ih (i + 1) s' (by omega) (by omega) hr⟩
theorem all_gen {w : World} {A : Around} {s : Shared} {E : Value → Shared → Prop} {Q : Value → Shared → Prop} {a : Addr} {g n : Nat} {gs : GenState} (hh : A.handled = none) (hr : A.depth < recursionLimit)
    (hgs : s.gens[g]? = some gs) (JH : Nat → Heap → Prop) (DH : Heap → Prop)
    (go : GxAt Challenge.rw_fy0015_01.row.toRowW.1 w A.in1 n (gJ s g JH) (gY s g (fun i v h => v = .bool true ∧ JH (i + 1) h)) (gD s g DH) 0 gs)
    (start : JH 0 s.heap) (src : ∀ i h, JH i h → h.NoLimit ∧ h.IsGen a g)
    (fin : ∀ h h' tk gn, DH h → (∀ b o, h.get? b = some o → h'.get? b = some o) → (AllBare s.gens → AllBare gn) → Q (.bool true) (gSt s h' tk gn)) :
    wpAny (model Challenge.rw_fy0015_01.row.toRowW.1 w) A (call (.builtin "all") [.ref a]) Q E s := by
  refine call_function_tree PySem.F.kind_all PySem.F.plain_all PySem.F.entry_all (PySem.F.args_all1 _) ?_
  unfold Builtin.«all»
  refine wpAny_bind (m := oneArg "all" _) (wpAny_pure ?_)
  refine wpAny_bind (wpAny_pyIter_gen (src _ _ start).2 ?_)
  refine wpAny_pure ⟨plainId_quiet PySem.F.plain_all_loop _, all_loop (n := n) (fun i s' => ∃ h5 tk gn gs', s' = gSt s h5 tk gn ∧ (AllBare s.gens → AllBare gn) ∧ gn[g]? = some gs' ∧ JH i h5 ∧ GxAt Challenge.rw_fy0015_01.row.toRowW.1 w A.in1 n (gJ s g JH) (gY s g (fun i v h => v = .bool true ∧ JH (i + 1) h)) (gD s g DH) i gs') ?_ ?_ _ 0 _ rfl (Nat.zero_le _) ⟨s.heap, s.toks, s.gens, gs, rfl, id, hgs, start, go⟩⟩
  · rintro i s' hi ⟨h5, tk, gn, gs', rfl, hb5, hgn, hJ, hG⟩
    obtain ⟨hl5, hg5⟩ := src _ _ hJ
    refine gx_item hh hl5 hr hg5 hgn hi hG ⟨h5, tk, _, rfl, (fun z => bare_run (hb5 z)), by simpa using gn_lt hgn, hJ⟩ fun v s₁ gs2 hb2 hY hG2 => ?_
    obtain ⟨h6, tk6, gn6, rfl, hb6, hz6, rfl, hY⟩ := hY
    exact ⟨rfl, h6, tk6, _, gs2, rfl, (fun z => bare_set (hb6 z) hb2), gn_set hz6, hY, hG2⟩
  · rintro s' ⟨h5, tk, gn, gs', rfl, hb5, hgn, hJ, hG⟩
    obtain ⟨hl5, hg5⟩ := src _ _ hJ
    refine gx_done hh hl5 hr hg5 hgn hG ⟨h5, tk, _, rfl, (fun z => bare_run (hb5 z)), by simpa using gn_lt hgn, hJ⟩ fun s₁ hD h7 hk7 => ?_
    obtain ⟨h6, tk6, gn6, rfl, hb6, hz6, hD⟩ := hD
    exact ⟨rfl, fin h6 h7 tk6 _ hD hk7 (fun z => bare_fin (hb6 z))⟩
end

/- part MHv -/
theorem fresh_MHv : True ∧ True := by
  w_top off
  first
    | (walk1; done)
    | exact ⟨True.intro, True.intro⟩
section
def hvJ (h₀ : Heap) (L : Addr) (m : Str → Option Value) (lg : List (Addr × Obj)) (C I l : Addr) (i : Nat) (h : Heap) : Prop :=
  ∃ oC oI mC, Fr h₀ L h m ∧ News h₀ L h ((I, oI) :: (C, oC) :: lg) ∧ h.Ns C mC ∧ oI.cls = .type "list_iterator" ∧ oI.data = .fields #[.ref l, .int i 0]
theorem tagAt {news : List (Addr × Obj)} {vs : List Value} {rows : List Row} (h : TagsIn news vs rows) {i : Nat} (hi : i < rows.length) : ∃ x d tk u, vs[i]? = some (.ref x) ∧ (x, tagObj d (rowAt rows i).1 tk u) ∈ news ∧ (d, dictOf [] 0) ∈ news ∧ DatIn news u (rowAt rows i).2.dat := by
  induction h generalizing i with
  | nil => exact absurd hi (Nat.not_lt_zero _)
  | cons a b c _ ih =>
    rename_i x d tk u vs r rs _
    cases i with
    | zero => exact ⟨x, d, tk, u, rfl, a, b, c⟩
    | succ i =>
      obtain ⟨x', d', tk', u', h1, h2⟩ := ih (i := i) (by simpa using hi)
      exact ⟨x', d', tk', u', by simpa using h1, h2⟩
theorem turn_hv {w : World} {A A₀ : Around} {s : Shared} {base h₀ : Heap} {outer : List Env} {env : Env} {L : Addr} {m mg mb : Str → Option Value} {p₀ : Program} {loose : List Str} {lg : List (Addr × Obj)}
    {C I l g dl : Addr} {rows : List Row} {vs : List Value} {ln : Nat} {c : Code} {cd : Value} {q : Str} {p0 p1 p2 p3 p4 : Pos}
    (cx : Cx w A A₀ base h₀ outer env L mg mb p₀ loose) (hloc : env.locals = L) (hc : c.envs = [vEnv C cd q]) (hr : (A.in1.over c []).depth + 40 < recursionLimit) (hu : (A.in1.over c []).units + 200 < cLine)
    (hLC : @LT.lt Nat _ L C) (hIC : @LT.lt Nat _ I C) (hlC : ∀ p ∈ lg, p.1 ≠ C) (hlI : ∀ p ∈ lg, p.1 ≠ I) (hl : (l, tagsObj dl vs ln) ∈ lg) (hT : TagsIn lg vs rows) (hcod : ∀ i, i < rows.length → (rowAt rows i).1 ∈ vCodes) :
    GxTurn Challenge.rw_fy0015_01.row.toRowW.1 w (A.in1.over c []) (.Name (Str.ofString "tag") p0) (.Compare (.Attribute (.Name (Str.ofString "tag") p1) (Str.ofString "code") p2) [.In] [.Name (Str.ofString "VALID_XDATA_GROUP_CODES") p3] p4) (.ref I) (vEnv C cd q) rows.length
      (gJ s g (hvJ h₀ L m lg C I l)) (gY s g (fun i v h => v = .bool true ∧ hvJ h₀ L m lg C I l (i + 1) h)) := by
  rintro i s' hi ⟨h, tk, gn, rfl, hgb, hgz, oC, oI, mC, F, N, hns, ci, di⟩
  have hI := N _ (List.Mem.head _)
  have hoffI : ∀ p ∈ (C, oC) :: lg, p.1 ≠ I := by
    intro p hp
    rcases List.mem_cons.mp hp with rfl | hp
    · exact Nat.ne_of_gt hIC
    · exact hlI p hp
  have hl5 := (N (l, tagsObj dl vs ln) (List.Mem.tail _ (List.Mem.tail _ hl))).1
  obtain ⟨x, d, tkx, u, hx1, hxm, hdm, hud⟩ := tagAt hT hi
  refine next_item ⟨oI, hI.1, ci, di⟩ ⟨_, _, hl5, rfl⟩ (by simpa using hx1) fun h6 hit6 hs6 => ?_
  obtain ⟨oI6, ho6, c6, d6⟩ := hit6
  have F6 := F.change hs6 hI.2.1 hI.2.2
  have N6 := News.setIn (own := []) N (fun _ q => by cases q) hoffI hs6 ho6
  refine ⟨_, rfl, ?_⟩
  show wpAny _ _ (pure ()) _ _ _
  refine wpAny_pure ?_
  have hC6 := N6 (C, oC) (List.Mem.tail _ (List.Mem.head _))
  have hns6 : h6.Ns C mC := hns.sameBut hs6 (Nat.ne_of_gt hIC)
  have hsub : ∀ p ∈ (I, oI6) :: lg, p ∈ (I, oI6) :: (C, oC) :: lg := by
    intro p hp
    rcases List.mem_cons.mp hp with rfl | hp
    · exact List.Mem.head _
    · exact List.Mem.tail _ (List.Mem.tail _ hp)
  have hneC : ∀ p ∈ (I, oI6) :: lg, p.1 ≠ C := by
    intro p hp
    rcases List.mem_cons.mp hp with rfl | hp
    · exact Nat.ne_of_lt hIC
    · exact hlC p hp
  have Fg := fr_genH (news := (I, oI6) :: (C, oC) :: lg) hns6 (Nat.le_of_lt (Heap.lt_size hC6.1))
  have Ng : News (gcut h6 C _) C h6 ((I, oI6) :: lg) := news_genH (news := (I, oI6) :: (C, oC) :: lg) fun p hp => ⟨(N6 p (hsub p hp)).1, hneC p hp, .inl (List.mem_map_of_mem (hsub p hp))⟩
  have cx7 := cx_genH (c := c) (cenv := vEnv C cd q) cx hloc F6 N6 hLC hc rfl rfl
  refine wpAny_assign_Name (wpAny_storeName_local rfl Fg.ns (fun h7 hn7 hs7 => ?_) rfl)
  have F7 := Fg.set hn7 hs7
  have N7 := Ng.set hs7
  refine elt_valid cx7 F7 N7 (by omega) (by omega) (x := x) (dx := d) (c := (rowAt rows i).1) (tk := tkx) (v := u) (by simp) (List.Mem.tail _ hxm) (List.Mem.tail _ hdm) (hcod i hi) fun h8 tk8 F8 N8 => ?_
  obtain ⟨oC8, es8, ep8, hoC8, r8⟩ := id F8.ns
  have B := news_backH F6 N6 hLC N8 (fun p hp => .inl (hsub p hp))
  refine ⟨h8, tk8, gn, rfl, hgb, hgz, rfl, oC8, oI6, _, gen_backH F6 N6 hLC F8, ?_, F8.ns, c6, d6⟩
  intro p hp
  rcases List.mem_cons.mp hp with rfl | hp
  · exact B _ (List.Mem.head _)
  rcases List.mem_cons.mp hp with rfl | hp
  · exact ⟨hoC8, hC6.2⟩
  · exact B _ (List.Mem.tail _ hp)
def hvD (h₀ : Heap) (L : Addr) (m : Str → Option Value) (lg : List (Addr × Obj)) (h : Heap) : Prop := Fr h₀ L h m ∧ News h₀ L h lg
theorem done_hv {w : World} {A : Around} {s : Shared} {h₀ : Heap} {L : Addr} {m : Str → Option Value} {lg : List (Addr × Obj)} {C I l g dl : Addr} {rows : List Row} {vs : List Value} {ln : Nat} (hh : A.handled = none)
    (hIC : @LT.lt Nat _ I C) (hlI : ∀ p ∈ lg, p.1 ≠ I) (hl : (l, tagsObj dl vs ln) ∈ lg) (hT : TagsIn lg vs rows) (s' : Shared) (hJ : gJ s g (hvJ h₀ L m lg C I l) rows.length s') :
    wpAny (model Challenge.rw_fy0015_01.row.toRowW.1 w) A (pyNext (.ref I)) (fun r s₁ => r = none ∧ gD s g (hvD h₀ L m lg) s₁) (fun _ _ => False) s' := by
  obtain ⟨h, tk, gn, rfl, hgb, hgz, oC, oI, mC, F, N, hns, ci, di⟩ := hJ
  have hI := N _ (List.Mem.head _)
  have hoffI : ∀ p ∈ (C, oC) :: lg, p.1 ≠ I := by
    intro p hp
    rcases List.mem_cons.mp hp with rfl | hp
    · exact Nat.ne_of_gt hIC
    · exact hlI p hp
  have hl5 := (N (l, tagsObj dl vs ln) (List.Mem.tail _ (List.Mem.tail _ hl))).1
  refine next_end (i := rows.length) hh ⟨oI, hI.1, ci, di⟩ ⟨_, _, hl5, rfl⟩ (by simp [hT.length]) fun h6 hs6 => ?_
  obtain ⟨F6, N6⟩ := ext_off F N hoffI hs6
  exact ⟨rfl, h6, tk, gn, rfl, hgb, hgz, F6, news_sub N6 fun p hp => List.Mem.tail _ hp⟩
theorem all_valid {w : World} {A A₀ : Around} {s : Shared} {base h₀ : Heap} {outer : List Env} {env : Env} {L : Addr} {m mg mb : Str → Option Value} {p₀ : Program} {loose : List Str} {E : Value → Shared → Prop} {Q : Value → Shared → Prop} {C I l g a dl : Addr} {rows : List Row} {vs : List Value} {ln : Nat} {lg : List (Addr × Obj)} {oa : Obj} {nm qn : Value} {cd : Value} {q : Str} {iter : PySem.Expr} {p0 p1 p2 p3 p4 pos : Pos}
    (cx : Cx w A A₀ base h₀ outer env L mg mb p₀ loose) (hloc : env.locals = L) (hr : A.depth + 60 < recursionLimit) (hu : A.units + 400 < cLine)
    (ha : (a, oa) ∈ lg) (hag : oa.cls = .type "generator" ∧ oa.data = .fields #[.int g 0, nm, qn] ∧ oa.slots = #[])
    (hgs : s.gens[g]? = some (.fresh (gxStart (.Compare (.Attribute (.Name (Str.ofString "tag") p1) (Str.ofString "code") p2) [.In] [.Name (Str.ofString "VALID_XDATA_GROUP_CODES") p3] p4) (.Name (Str.ofString "tag") p0) iter vScope pos (.ref I) (vEnv C cd q))))
    (hJ : hvJ h₀ L m lg C I l 0 s.heap)
    (hLC : @LT.lt Nat _ L C) (hIC : @LT.lt Nat _ I C) (hlC : ∀ p ∈ lg, p.1 ≠ C) (hlI : ∀ p ∈ lg, p.1 ≠ I) (hl : (l, tagsObj dl vs ln) ∈ lg) (hT : TagsIn lg vs rows) (hcod : ∀ i, i < rows.length → (rowAt rows i).1 ∈ vCodes)
    (h : ∀ h' tk gn, Fr h₀ L h' m → News h₀ L h' lg → (AllBare s.gens → AllBare gn) → Q (.bool true) (gSt s h' tk gn)) :
    wpAny (model Challenge.rw_fy0015_01.row.toRowW.1 w) A (call (.builtin "all") [.ref a]) Q E s := by
  have cx' : Cx w A.in1 A₀ base h₀ outer env L mg mb p₀ loose := ⟨cx.B, cx.X, cx.T, cx.hh, cx.hA, cx.hf, cx.hk⟩
  refine all_gen (n := rows.length) cx.hh (by omega) hgs (hvJ h₀ L m lg C I l) (hvD h₀ L m lg) ?go hJ ?src ?fin
  case go =>
    intro s' hJ'
    refine ⟨rfl, ?_⟩
    rw [Nat.sub_zero]
    refine gx_start (A := A.in1.in1) rfl ?_ ?_ ?_ s' s' hJ'
    · refine turn_hv (c := gxLoop (.Compare (.Attribute (.Name (Str.ofString "tag") p1) (Str.ofString "code") p2) [.In] [.Name (Str.ofString "VALID_XDATA_GROUP_CODES") p3] p4) (.Name (Str.ofString "tag") p0) iter vScope pos (.ref I) (vEnv C cd q)) cx' hloc rfl ?_ ?_ hLC hIC hlC hlI hl hT hcod
      · show A.depth + 0 + 1 + 40 < _; omega
      · show A.in1.in1.units + 0 + 3 + 200 < _; simp only [units_in1]; omega
    · intro s5 hJ5
      refine done_hv (w := w) ?_ hIC hlI hl hT s5 hJ5
      exact cx.hh
    · rintro s5 ⟨h5, tk, gn, rfl, hgb, hgz, oC5, oI, mC5, F5, N5, hns5, ci, di⟩
      exact wpAny_pyIter_listiter (i := 0) ⟨oI, (N5 _ (List.Mem.head _)).1, ci, di⟩ ⟨rfl, rfl⟩
  case src =>
    rintro i h5 ⟨oC5, oI, mC5, F5, N5, hns5, ci, di⟩
    exact ⟨cx.T.nolimit.keeps F5.keep, ⟨_, _, _, (N5 (a, oa) (List.Mem.tail _ (List.Mem.tail _ ha))).1, hag.1, hag.2.1, hag.2.2⟩⟩
  case fin =>
    rintro h5 h6 tk gn ⟨F5, N5⟩ hk hb9
    exact h h6 tk gn (F5.keeps hk) (N5.grown hk) hb9
end

/- part MHvS -/
theorem fresh_MHvS : True ∧ True := by
  w_top off
  first
    | (walk1; done)
    | exact ⟨True.intro, True.intro⟩
section
theorem len366 {w : World} : findIn (hd.heap_39 w.params) (.ref 366) "__len__" = some (some (.builtin "list.__len__")) := by kernel_rfl
theorem itr366 {w : World} : findIn (hd.heap_39 w.params) (.ref 366) "__iter__" = some (some (.builtin "list.__iter__")) := by kernel_rfl
theorem gim366 {w : World} : findIn (hd.heap_39 w.params) (.ref 366) "__getitem__" = some (some (.builtin "list.__getitem__")) := by kernel_rfl
theorem dim366 {w : World} : findIn (hd.heap_39 w.params) (.ref 366) "__delitem__" = some (some (.builtin "list.__delitem__")) := by kernel_rfl
theorem dq366 {w : World} : mroIn (hd.heap_39 w.params) 366 (.type "collections.deque") = some false := by kernel_rfl
theorem tags_iter {w : World} {A : Around} {E : Value → Shared → Prop} {s : Shared} {l dl : Addr} {vs : List Value} {n : Nat} {Q : Value → Shared → Prop} {h₀ : Heap} {L : Addr} {m : Str → Option Value} {news : List (Addr × Obj)} (F : Fr h₀ L s.heap m) (X₀ : (hd.heap_39 w.params).In h₀) (N : News h₀ L s.heap news) (hl : (l, tagsObj dl vs n) ∈ news)
    (hQ : Q (.ref s.heap.objs.size) { s with heap := s.heap.push (listIter l 0) }) : wpAny (model Challenge.rw_fy0015_01.row.toRowW.1 w) A (pyIter (.ref l)) Q E s :=
  sub_pyIter (X₀.keeps F.keep) (subAt_of (X₀.keeps F.keep) (N _ hl).1 lst366) itr366 hQ
set_option maxHeartbeats 2000000 in
theorem hv_spec {w : World} {A A₀ : Around} {s : Shared} {base h₀ : Heap} {outer : List Env} {env : Env} {L : Addr} {m mg mb : Str → Option Value} {p₀ : Program} {loose : List Str} {news : List (Addr × Obj)} {E : Value → Shared → Prop} {Q : Value → Shared → Prop} {l dl : Addr} {vs : List Value} {rows : List Row} {n : Nat} {ps : Array Value} (hb : Bm mg h₀) (cx : Cx w A A₀ base h₀ outer env L mg mb p₀ loose) (F : Fr h₀ L s.heap m) (N : News h₀ L s.heap ((408, tabObj ps) :: news)) (hr : A.depth + 80 < recursionLimit) (hu : A.units + 1000 < cLine)
    (hps : TriplesOk ps.toList) (hoff : ∀ p ∈ news, p.1 ≠ 408)
    (hl : (l, tagsObj dl vs n) ∈ news) (hT : TagsIn news vs rows) (hcod : ∀ i, i < rows.length → (rowAt rows i).1 ∈ vCodes)
    (h : ∀ ps' h' tk gn, Fr h₀ L h' m → News h₀ L h' ((408, tabObj ps') :: news) → TriplesOk ps'.toList → (AllBare s.gens → AllBare gn) → Q (.bool true) (gSt s h' tk gn)) :
    wpAny (model Challenge.rw_fy0015_01.row.toRowW.1 w) A (call (.ref 413) [.ref l]) Q E s := by
  obtain ⟨B, X₀, T, hh, hA, hf, hk⟩ := cx
  revert X₀
  k_fill
  intro X₀
  obtain ⟨_, _, _, _, _⟩ := A
  obtain ⟨⟨_, _, _, _, _⟩, _, _, _, _, _, _, _, _⟩ := env
  dsimp only at hA hf hk hh hr hu
  subst hA hf hk hh
  refine wpAny_call ?_
  k_enter
  k_steps
  rename_i g' L' h1 FG F1 N1 B1 X1 T1 l1 hlt
  refine gx_make F1 rfl rfl (by decide +kernel) rfl rfl (by k_room) rfl rfl (codeHd_of_K (c := 412) (P := 408) X1 (by kernel_rfl)) (hb.keeps FG.keep) T1.nolimit ?_ (fun _ => rfl)
  k_steps
  refine tags_iter F1 X1 N1 (List.Mem.tail _ hl) ?_
  have F2 := F1.push (listIter l 0)
  have N2 := N1.push F1 (listIter l 0)
  have hI : TopLe ((408, tabObj ps) :: news) h1.objs.size := topLe_news N1
  refine ⟨(h1.objs.size, listIter l 0) :: news, ps, F2, news_sub N2 ?_, hps, ?_, ?_⟩
  · intro p hp
    rcases List.mem_cons.mp hp with rfl | hp
    · exact List.Mem.tail _ (List.Mem.head _)
    rcases List.mem_cons.mp hp with rfl | hp
    · exact List.Mem.head _
    · exact List.Mem.tail _ (List.Mem.tail _ hp)
  · intro p hp
    rcases List.mem_cons.mp hp with rfl | hp
    · exact Nat.ne_of_gt hI.head
    · exact hoff p hp
  intro C a h5 tk ps' code oC t1 t2 F3 N3 hps' hns hC hLC hCa
  clear F2 N2
  k_steps
  have hIlt : @LT.lt Nat _ h1.objs.size C := hC.lt _ (List.Mem.tail _ (List.Mem.head _))
  have hlg : ∀ p ∈ (a, genObj s.gens.size t1 t2 (Str.ofString "has_valid_xdata_group_codes" ++ ".<locals>." ++ "<genexpr>")) :: (408, tabObj ps') :: news, p.1 ≠ C ∧ p.1 ≠ h1.objs.size := by
    intro p hp
    rcases List.mem_cons.mp hp with rfl | hp
    · exact ⟨Nat.ne_of_gt hCa, Nat.ne_of_gt (Nat.lt_trans hIlt hCa)⟩
    rcases List.mem_cons.mp hp with rfl | hp
    · exact ⟨Nat.ne_of_lt hC.head, Nat.ne_of_lt hI.head⟩
    · exact ⟨Nat.ne_of_lt (hC.lt _ (List.Mem.tail _ (List.Mem.tail _ hp))), Nat.ne_of_lt (hI.lt _ (List.Mem.tail _ hp))⟩
  refine all_valid (g := s.gens.size) (lg := (a, genObj s.gens.size t1 t2 (Str.ofString "has_valid_xdata_group_codes" ++ ".<locals>." ++ "<genexpr>")) :: (408, tabObj ps') :: news) (rows := rows) (by exact ⟨B1, X1, T1, rfl, rfl, rfl, rfl⟩) rfl (by k_room) (by k_units) (List.Mem.head _) ⟨rfl, rfl, rfl⟩ Array.getElem?_push_size ⟨oC, listIter l 0, _, F3, news_sub N3 ?_, hns, rfl, rfl⟩ hLC hIlt (fun p hp => (hlg p hp).1) (fun p hp => (hlg p hp).2) (List.Mem.tail _ (List.Mem.tail _ hl)) (hT.mono fun p hp => List.Mem.tail _ (List.Mem.tail _ hp)) hcod fun h6 tk6 gn6 F6 N6 hb6 => ?_
  · intro p hp
    rcases List.mem_cons.mp hp with rfl | hp
    · exact List.Mem.tail _ (List.Mem.tail _ (List.Mem.tail _ (List.Mem.head _)))
    rcases List.mem_cons.mp hp with rfl | hp
    · exact List.Mem.tail _ (List.Mem.head _)
    rcases List.mem_cons.mp hp with rfl | hp
    · exact List.Mem.head _
    rcases List.mem_cons.mp hp with rfl | hp
    · exact List.Mem.tail _ (List.Mem.tail _ (List.Mem.head _))
    · exact List.Mem.tail _ (List.Mem.tail _ (List.Mem.tail _ (List.Mem.tail _ hp)))
  · refine leaveK_ F6 (news_sub N6 (l' := (408, tabObj ps') :: news) fun p hp => List.Mem.tail _ hp) fun F7 N7 => ?_
    exact h ps' h6 tk6 gn6 F7 N7 hps' fun z => hb6 (AllBare.push z rfl)
end

/- part MXd -/
theorem fresh_MXd : True ∧ True := by
  w_top off
  first
    | (walk1; done)
    | exact ⟨True.intro, True.intro⟩
section
namespace LF
theorem tc0 : checkTypeCall "dict" ⟨[], []⟩ = pure () := by kernel_rfl
theorem nc0 : checkBuiltinCall "dict.__new__" ⟨[.type "dict"], []⟩ = pure () := by kernel_rfl
theorem ic0 (a : Value) : argsOk "dict.__init__" ⟨[a], []⟩ := by unfold argsOk; kernel_rfl
end LF
section
variable {prog : Program} {w : World} {A : Around} {E : Value → Shared → Prop} {s : Shared} {h₀ : Heap} {L : Addr} {m : Str → Option Value} {news : List (Addr × Obj)}
theorem call_dict0 {Q : Value → Shared → Prop} (h : Q (.ref s.heap.objs.size) { s with heap := s.heap.push emptyDict }) : wpAny (model prog w) A (call (.type "dict") []) Q E s := by
  refine callType_codes (Q₁ := fun obj s₁ => obj = .ref s.heap.objs.size ∧ s₁ = { s with heap := s.heap.push emptyDict }) PySem.F.kt_called_dict LF.tc0 PySem.F.entry_dict_init ?_ ?_
  · refine codeAny_call_builtin PySem.F.kt_plain_dict_new PySem.F.kt_entry_dict_new (wpAny_of_eq LF.nc0 ?_)
    have hsub := PySem.F.kt_sub_dict
    have hmro := PySem.F.kt_mro_dict
    obtain ⟨hp, g, d, tk, os⟩ := s
    unfold Builtin.«dict.__new__»
    wp_walk
    exact ⟨rfl, rfl⟩
  rintro obj s₁ ⟨rfl, rfl⟩
  have hT : ({ s with heap := s.heap.push emptyDict } : Shared).TypeIs (.ref s.heap.objs.size) "dict" := ⟨_, Heap.get?_push_size _ rfl, rfl⟩
  refine ⟨hT, LF.ic0 _, ?_⟩
  unfold Builtin.«dict.__init__»
  refine wpAny_bind ?_
  unfold Builtin.Dict.selfAndRest
  refine wpAny_bind (wpAny_notOrdered_dict hT ?_)
  show wpAny _ _ (pure (s.heap.objs.size, [])) _ _ _
  refine wpAny_pure ?_
  show wpAny _ _ (Builtin.Dict.addKeywords s.heap.objs.size [] >>= _) _ _ _
  exact wpAny_bind (wpAny_pure (wpAny_pure ⟨rfl, h⟩))
theorem dict0 {Q : Value → Shared → Prop} (F : Fr h₀ L s.heap m) (N : News h₀ L s.heap news)
    (h : ∀ (d : Nat) h' o, Fr h₀ L h' m → News h₀ L h' ((d, o) :: news) → TopLe news d → o.IsDictOf (strKind prog w) [] → Q (.ref d) { s with heap := h' }) : wpAny (model prog w) A (call (.type "dict") []) Q E s := by
  refine call_dict0 ?_
  obtain ⟨o, ho, hd⟩ := Heap.dictOf_iff.mp (Heap.DictOf.new (knd := strKind prog w) s.heap)
  rw [Heap.get?_push_size _ rfl] at ho
  obtain rfl := Option.some.inj ho
  exact h _ _ _ (F.push _) (News.push F N _) (topLe_news N) hd
end
local macro_rules | `(tactic| walk_at "call type:dict") => `(tactic| (k_here; (with_reducible show wpAny _ _ (call (Value.type "dict") []) _ _ _); k_dflt (refine' dict0 ?F ?N ?_; (case F => k_asm); (case N => k_asm); k_whole); intro d' h' o' F' N' l1 hd'; (first | (have hlt := TopLe.head l1; dsimp only at hlt) | (have hlt := TopLe.num l1; (try simp only [top_app, Nat.max_le] at hlt)))))
abbrev xAttrs (w : World) (tk : Tok) (d : Addr) (n : Nat) : Obj := dictOf [⟨PyData.keyHash w.params (Str.ofString "data"), .str (Str.ofString "data") tk, .ref d⟩] n
set_option maxHeartbeats 2000000 in
theorem xd_spec {w : World} {A A₀ : Around} {s : Shared} {base h₀ : Heap} {outer : List Env} {env : Env} {L : Addr} {m mg mb : Str → Option Value} {p₀ : Program} {loose : List Str} {news : List (Addr × Obj)} {E : Value → Shared → Prop} {Q : Value → Shared → Prop} (cx : Cx w A A₀ base h₀ outer env L mg mb p₀ loose) (F : Fr h₀ L s.heap m) (N : News h₀ L s.heap news) (hr : A.depth + 80 < recursionLimit) (hu : A.units + 1000 < cLine)
    (h : ∀ (x xd d : Nat) o tk n h' tk', Fr h₀ L h' m → News h₀ L h' ((d, o) :: (x, instObj 525 xd) :: (xd, xAttrs w tk d n) :: news) → o.IsDictOf (strKind Challenge.rw_fy0015_01.row.toRowW.1 w) [] → TopLe news xd → xd < x → x < d → Q (.ref x) { s with heap := h', toks := tk' }) :
    wpAny (model Challenge.rw_fy0015_01.row.toRowW.1 w) A (call (.ref 525) []) Q E s := by
  obtain ⟨B, X₀, T, hh, hA, hf, hk⟩ := cx
  revert X₀
  k_fill
  intro X₀
  obtain ⟨_, _, _, _, _⟩ := A
  obtain ⟨⟨_, _, _, _, _⟩, _, _, _, _, _, _, _, _⟩ := env
  dsimp only at hA hf hk hh hr hu
  subst hA hf hk hh
  k_steps
  exact h _ _ _ _ _ _ _ _ (by assumption) (by assumption) (by assumption) (by assumption) (by omega) (by omega)
end

/- part MTl -/
section
def StopC (prog : Program) (w : World) (A : Around) (f : Value) (args : List Value) (Q : Value → Shared → Prop) (E : Value → Shared → Prop) (s : Shared) : Prop := wpAny (model prog w) A (call f args) Q E s
def StopCmp (prog : Program) (w : World) (A : Around) (op : CmpOp) (a b : Value) (Q : Value → Shared → Prop) (E : Value → Shared → Prop) (s : Shared) : Prop := wpAny (model prog w) A (compareOp op a b) Q E s
theorem stop_cmp {prog : Program} {w : World} {A : Around} {op : CmpOp} {a b : Value} {Q : Value → Shared → Prop} {E : Value → Shared → Prop} {s : Shared} (h : StopCmp prog w A op a b Q E s) : wpAny (model prog w) A (compareOp op a b) Q E s := h
theorem cmp_go {prog : Program} {w : World} {A : Around} {op : CmpOp} {a b : Value} {Q : Value → Shared → Prop} {E : Value → Shared → Prop} {s : Shared} (h : wpAny (model prog w) A (compareOp op a b) Q E s) : StopCmp prog w A op a b Q E s := h
theorem dat_any {l l' : List (Addr × Obj)} {u : Value} {c : Cell} (h : DatIn l u c.dat) : DatIn l' u c.dat := by
  cases c with
  | s x => cases h; exact DatIn.str _ _
  | i x => cases h; exact DatIn.int _ _
theorem stop_at {prog : Program} {w : World} {A : Around} {f : Value} {args : List Value} {Q : Value → Shared → Prop} {E : Value → Shared → Prop} {s : Shared} (h : StopC prog w A f args Q E s) : wpAny (model prog w) A (call f args) Q E s := h
def StopSub (prog : Program) (w : World) (A : Around) (value slice : PySem.Expr) (a b : Value) (Q : Value → Shared → Prop) (E : Value → Shared → Prop) (s : Shared) : Prop := wpAny (model prog w) A (subscriptTail value slice a b) Q E s
theorem stop_sub {prog : Program} {w : World} {A : Around} {value slice : PySem.Expr} {a b : Value} {Q : Value → Shared → Prop} {E : Value → Shared → Prop} {s : Shared} (h : StopSub prog w A value slice a b Q E s) : wpAny (model prog w) A (subscriptTail value slice a b) Q E s := h
theorem sub_go {prog : Program} {w : World} {A : Around} {value slice : PySem.Expr} {a b : Value} {Q : Value → Shared → Prop} {E : Value → Shared → Prop} {s : Shared} (h : wpAny (model prog w) A (subscriptTail value slice a b) Q E s) : StopSub prog w A value slice a b Q E s := h
theorem stop_go {prog : Program} {w : World} {A : Around} {f : Value} {args : List Value} {Q : Value → Shared → Prop} {E : Value → Shared → Prop} {s : Shared} (h : wpAny (model prog w) A (call f args) Q E s) : StopC prog w A f args Q E s := h
section
variable {w : World} {A : Around} {E : Value → Shared → Prop} {s : Shared} {h₀ : Heap} {L l dl : Addr} {m : Str → Option Value} {news : List (Addr × Obj)} {vs : List Value} {n : Nat} {Q : Value → Shared → Prop}
theorem tlen (F : Fr h₀ L s.heap m) (X₀ : (hd.heap_39 w.params).In h₀) (N : News h₀ L s.heap news) (hl : (l, tagsObj dl vs n) ∈ news) (hz : vs.length ≤ 1000) (h : Q (.int (vs.length : Int) (s.toks + 1)) { s with toks := s.toks + 1 + 1 }) :
    wpAny (model Challenge.rw_fy0015_01.row.toRowW.1 w) A (call (.builtin "len") [.ref l]) Q E s := by
  have X := X₀.keeps F.keep
  refine sub_len X (subAt_of X (N _ hl).1 lst366) ⟨_, _, (N _ hl).1, rfl⟩ len366 (by simp; omega) ?_
  simpa using h
theorem titem {value slice : PySem.Expr} {k : Int} {u : Tok} {v : Value} (F : Fr h₀ L s.heap m) (X₀ : (hd.heap_39 w.params).In h₀) (N : News h₀ L s.heap news) (hl : (l, tagsObj dl vs n) ∈ news) (h0 : 0 ≤ k) (h1 : k < 1000) (hx : vs[k.toNat]? = some v) (h : Q v s)
    (hs : subscripted slice false (.ref l) (.int k u) = operate [.ref l, .int k u] (getItem (.ref l) (.int k u)) := by with_unfolding_all rfl) :
    wpAny (model Challenge.rw_fy0015_01.row.toRowW.1 w) A (subscriptTail value slice (.ref l) (.int k u)) Q E s := by
  have X := X₀.keeps F.keep
  have Y : SubAt (model Challenge.rw_fy0015_01.row.toRowW.1 w) s.heap (hd.heap_39 w.params) 366 l := subAt_of X (N _ hl).1 lst366
  exact sub_tail X Y gim366 (sub_item X Y ⟨_, _, (N _ hl).1, rfl⟩ dq366 gim366 h0 (by omega) (by simpa using hx) h) hs
end
section
variable {prog : Program} {w : World} {A : Around} {E : Value → Shared → Prop} {s : Shared} {h₀ : Heap} {L : Addr} {m : Str → Option Value} {lg rest : List (Addr × Obj)}
theorem dput {d : Addr} {od : Obj} {kvs : List (Str × Value)} {x : Str} {t : Tok} {v : Value} {Q : Unit → Shared → Prop} (F : Fr h₀ L s.heap m) (N : News h₀ L s.heap lg) (hsub : ∀ p ∈ (d, od) :: rest, p ∈ lg) (off : ∀ p ∈ rest, p.1 ≠ d) (hod : od.IsDictOf (strKind prog w) kvs) (hz : kvs.length ≤ 1000)
    (h : ∀ h' od', Fr h₀ L h' m → News h₀ L h' ((d, od') :: rest) → od'.IsDictOf (strKind prog w) (stored kvs x v) → Q () { s with heap := h', toks := s.toks + 1 }) : wpAny (model prog w) A (setItem (.ref d) (.str x t) v) Q E s := by
  have N2 := news_sub N hsub
  have hm := N2 (d, od) (List.Mem.head _)
  refine wpAny_setItem_pairs (hsz := by rw [sizeLine_eq]; omega) (strKind_is prog w x t) (Heap.dictOf_iff.mpr ⟨od, hm.1, hod⟩) fun h' hmm hs => ?_
  obtain ⟨o', ho', hd'⟩ := Heap.dictOf_iff.mp hmm
  exact h h' o' (F.change hs hm.2.1 hm.2.2) (News.setIn (own := []) N2 (fun _ q => by cases q) off hs ho') hd'
end
end

/- part MAdd0 -/
theorem fresh_MAdd0 : True ∧ True := by
  w_top off
  first
    | (walk1; done)
    | exact ⟨True.intro, True.intro⟩
section
local macro_rules | `(tactic| walk_at "call builtin:len") => `(tactic| (k_here; (with_reducible show wpAny _ _ (call (Value.builtin "len") [Value.ref _]) _ _ _); k_dflt (refine' tlen ?F ?X ?N ?a ?z ?_; (case F => k_asm); (case X => k_asm); (case N => k_asm); (case a => k_mem); (case z => with_reducible assumption); k_whole)))
local macro_rules | `(tactic| walk_at "subscriptTail Name Name ref int") => `(tactic| (k_here; (with_reducible show wpAny _ _ (subscriptTail _ _ (Value.ref _) (Value.int _ _)) _ _ _); k_dflt (refine' titem ?F ?X ?N ?a ?b ?c ?d ?_; (case F => k_asm); (case X => k_asm); (case N => k_asm); (case a => k_mem); (case d => with_reducible assumption); (case b => omega); (case c => omega); k_whole)))
local macro_rules | `(tactic| walk_at "subscriptTail Name BinOp ref int") => `(tactic| (k_here; (with_reducible show wpAny _ _ (subscriptTail _ _ (Value.ref _) (Value.int _ _)) _ _ _); k_dflt (refine' titem ?F ?X ?N ?a ?b ?c ?d ?_; (case F => k_asm); (case X => k_asm); (case N => k_asm); (case a => k_mem); (case d => with_reducible assumption); (case b => omega); (case c => omega); k_whole)))
local macro_rules | `(tactic| walk_at "subscriptTail Name Constant ref int") => `(tactic| (k_here; (with_reducible show wpAny _ _ (subscriptTail _ _ (Value.ref _) (Value.int _ _)) _ _ _); k_dflt (refine' titem ?F ?X ?N ?a ?b ?c ?d ?_; (case F => k_asm); (case X => k_asm); (case N => k_asm); (case a => k_mem); (case d => with_reducible assumption); (case b => omega); (case c => omega); k_whole)))
local macro_rules | `(tactic| walk_at "subscriptTail Name UnaryOp ref int") => `(tactic| (k_here; (with_reducible show wpAny _ _ (subscriptTail _ _ (Value.ref _) (Value.int _ _)) _ _ _); k_dflt (refine' titem ?F ?X ?N ?a ?b ?c ?d ?_; (case F => k_asm); (case X => k_asm); (case N => k_asm); (case a => k_mem); (case d => with_reducible assumption); (case b => omega); (case c => omega); k_whole)))
local macro_rules | `(tactic| walk_at "subscriptTail Subscript Name ref int") => `(tactic| (k_here; (with_reducible show wpAny _ _ (subscriptTail _ _ (Value.ref _) (Value.int _ _)) _ _ _); k_dflt (refine' titem ?F ?X ?N ?a ?b ?c ?d ?_; (case F => k_asm); (case X => k_asm); (case N => k_asm); (case a => k_mem); (case d => with_reducible assumption); (case b => omega); (case c => omega); k_whole)))
local macro_rules | `(tactic| walk_at "subscriptTail Subscript BinOp ref int") => `(tactic| (k_here; (with_reducible show wpAny _ _ (subscriptTail _ _ (Value.ref _) (Value.int _ _)) _ _ _); k_dflt (refine' titem ?F ?X ?N ?a ?b ?c ?d ?_; (case F => k_asm); (case X => k_asm); (case N => k_asm); (case a => k_mem); (case d => with_reducible assumption); (case b => omega); (case c => omega); k_whole)))
local macro_rules | `(tactic| walk_at "subscriptTail Subscript Constant ref int") => `(tactic| (k_here; (with_reducible show wpAny _ _ (subscriptTail _ _ (Value.ref _) (Value.int _ _)) _ _ _); k_dflt (refine' titem ?F ?X ?N ?a ?b ?c ?d ?_; (case F => k_asm); (case X => k_asm); (case N => k_asm); (case a => k_mem); (case d => with_reducible assumption); (case b => omega); (case c => omega); k_whole)))
local macro_rules | `(tactic| walk_at "subscriptTail Subscript UnaryOp ref int") => `(tactic| (k_here; (with_reducible show wpAny _ _ (subscriptTail _ _ (Value.ref _) (Value.int _ _)) _ _ _); k_dflt (refine' titem ?F ?X ?N ?a ?b ?c ?d ?_; (case F => k_asm); (case X => k_asm); (case N => k_asm); (case a => k_mem); (case d => with_reducible assumption); (case b => omega); (case c => omega); k_whole)))
local macro_rules | `(tactic| walk_at "getAttr ref") => `(tactic| (k_here; (with_reducible show wpAny _ _ (getAttr (Value.ref _) (PySem.Str.ofString "code") _) _ _ _); k_dflt (refine' code_specX ?cx ?F ?N ?r ?u ?a ?b ?_; (case cx => (refine' ⟨?cB, ?cX, ?cT, ?ca, ?cb, ?cc, ?cd⟩; (case ca => exact rfl); (case cb => exact rfl); (case cc => exact rfl); (case cd => exact rfl); (case cB => k_asm); (case cX => k_asm); (case cT => k_asm))); (case F => k_asm); (case N => k_asm); (case r => k_room); (case u => k_units); (case a => k_mem); (case b => k_mem); k_whole); intro h' tk' F' N'))
local macro_rules | `(tactic| walk_at "getAttr ref") => `(tactic| (k_here; (with_reducible show wpAny _ _ (getAttr (Value.ref _) (PySem.Str.ofString "value") _) _ _ _); k_dflt (refine' value_specX ?v ?cx ?F ?N ?r ?u ?a ?b ?_; (case cx => (refine' ⟨?cB, ?cX, ?cT, ?ca, ?cb, ?cc, ?cd⟩; (case ca => exact rfl); (case cb => exact rfl); (case cc => exact rfl); (case cd => exact rfl); (case cB => k_asm); (case cX => k_asm); (case cT => k_asm))); (case F => k_asm); (case N => k_asm); (case r => k_room); (case u => k_units); (case a => k_mem); (case b => k_mem); (case v => first | rfl | with_reducible assumption); k_whole); intro h' tk' F' N'))
local macro_rules | `(tactic| walk_at "call ref") => `(tactic| (k_here; (first | (with_reducible show wpAny _ _ (call (Value.ref 366) _) _ _ _) | (with_reducible show wpAny _ _ (call (Value.ref 413) _) _ _ _) | (with_reducible show wpAny _ _ (call (Value.ref 466) _) _ _ _) | (with_reducible show wpAny _ _ (call (Value.ref 473) _) _ _ _) | (with_reducible show wpAny _ _ (call (Value.ref 480) _) _ _ _) | (with_reducible show wpAny _ _ (call (Value.ref 379) _) _ _ _) | (with_reducible show wpAny _ _ (call (Value.ref 386) _) _ _ _) | (with_reducible show wpAny _ _ (call (Value.ref 406) _) _ _ _) | (with_reducible show wpAny _ _ (call (Value.ref 501) _) _ _ _) | (with_reducible show wpAny _ _ (call (Value.ref 515) _) _ _ _) | (with_reducible show wpAny _ _ (call (Value.ref 206) _) _ _ _) | (with_reducible show wpAny _ _ (call (Value.ref 536) _) _ _ _) | (with_reducible show wpAny _ _ (call (Value.ref 551) _) _ _ _) | (with_reducible show wpAny _ _ (call (Value.ref 544) _) _ _ _) | (with_reducible show wpAny _ _ (call (Value.ref 556) _) _ _ _) | (with_reducible show wpAny _ _ (call (Value.ref 563) _) _ _ _) | (with_reducible show wpAny _ _ (call (Value.ref 570) _) _ _ _) | (with_reducible show wpAny _ _ (call (Value.ref 525) _) _ _ _) ); refine stop_at ?_))
section
set_option maxHeartbeats 2000000 in
theorem add0_spec {w : World} {A A₀ : Around} {s : Shared} {base h₀ : Heap} {outer : List Env} {env : Env} {L : Addr} {m mg mb : Str → Option Value} {p₀ : Program} {loose : List Str} {news : List (Addr × Obj)} {E : Value → Shared → Prop} {Q : Value → Shared → Prop} {xo xd d l dl : Addr} {od : Obj} {tkx : Tok} {nx : Nat} {kvs : List (Str × Value)} {vs : List Value} {rows : List Row} {n : Nat} {ps : Array Value} {app : Str} {c0 : Int} {rest : List Row} (hb : Bm mg h₀) (cx : Cx w A A₀ base h₀ outer env L mg mb p₀ loose) (F : Fr h₀ L s.heap m)
    (N : News h₀ L s.heap ((408, tabObj ps) :: (d, od) :: news)) (hr : A.depth + 120 < recursionLimit) (hu : A.units + 2000 < cLine) (hps : TriplesOk ps.toList) (hoff : ∀ p ∈ news, p.1 ≠ 408) (hoffd : ∀ p ∈ news, p.1 ≠ d) (hd408 : @LT.lt Nat _ 408 d)
    (hx : (xo, instObj 525 xd) ∈ news) (hxd : (xd, xAttrs w tkx d nx) ∈ news) (hod : od.IsDictOf (strKind Challenge.rw_fy0015_01.row.toRowW.1 w) kvs) (hkz : kvs.length ≤ 1000)
    (hl : (l, tagsObj dl vs n) ∈ news) (hT : TagsIn news vs rows) (hz : rows.length ≤ 1000) (hcod : ∀ i, i < rows.length → (rowAt rows i).1 ∈ vCodes) (h0 : rows = (c0, .s app) :: rest)
    (h : ∀ (ps' : Array Value) od' (x dx : Nat) nn h' tk gn, Fr h₀ L h' m → News h₀ L h' ((408, tabObj ps') :: (d, od') :: (x, tagsObj dx vs nn) :: (dx, emptyDict) :: news) → TriplesOk ps'.toList → od'.IsDictOf (strKind Challenge.rw_fy0015_01.row.toRowW.1 w) (stored kvs app (.ref x)) →
      TopLe ((408, tabObj ps) :: (d, od) :: news) dx → dx < x → (AllBare s.gens → AllBare gn) → Q .none (gSt s h' tk gn)) :
    wpAny (model Challenge.rw_fy0015_01.row.toRowW.1 w) A (call (.ref 466) [.ref xo, .ref l]) Q E s := by
  obtain ⟨B, X₀, T, hh, hA, hf, hk⟩ := cx
  revert X₀
  k_fill
  intro X₀
  obtain ⟨_, _, _, _, _⟩ := A
  obtain ⟨⟨_, _, _, _, _⟩, _, _, _, _, _, _, _, _⟩ := env
  dsimp only at hA hf hk hh hr hu
  subst hA hf hk hh
  refine wpAny_call ?_
  k_enter
  k_steps
  rename_i g1 L1 h1 FG1 F1 N1 B1 X1 T1 l1 hlt1
  have hne : vs ≠ [] := by
    intro e
    have := hT.length
    rw [e, h0] at this
    simp at this
  have hvz : vs.length ≤ 1000 := by rw [hT.length]; exact hz
  refine stop_go ?_
  refine tags_tags (by exact ⟨B1, X1, T1, rfl, rfl, rfl, rfl⟩) F1 N1 (by k_room) (by k_units) (List.Mem.tail _ (List.Mem.tail _ hl)) hvz hne fun x dx h2 tk2 n2 F2 N2 ldx lx => ?_
  have hv0 : ∃ x0 d0 t0 u0, vs[((0 : Int)).toNat]? = some (.ref x0) ∧ (x0, tagObj d0 c0 t0 u0) ∈ news ∧ (d0, dictOf [] 0) ∈ news ∧ DatIn news u0 (Cell.s app).dat := by
    have := tagAt hT (i := 0) (by rw [h0]; simp)
    rw [h0] at this
    exact this
  obtain ⟨x0, d0, t0, u0, hv0, hx0, hd0, hu0⟩ := hv0
  have hpos : 0 < (vs.length : Int) := by
    have : vs.length ≠ 0 := fun z => hne (List.eq_nil_of_length_eq_zero z)
    omega
  cases hu0 with
  | str _ t1 =>
    k_steps
    · rename_i hq3 tq3 Fq3 Nq3
      refine stop_go (hv_spec (news := (x, tagsObj dx vs n2) :: (dx, emptyDict) :: (d, od) :: news) (rows := rows) (hb.keeps FG1.keep) (by exact ⟨B1, X1, T1, rfl, rfl, rfl, rfl⟩) Fq3 (news_sub Nq3 ?_) (by k_room) (by k_units) hps ?_ (List.Mem.head _) (hT.mono ?_) hcod fun ps4 h4 tk4 gn4 F4 N4 hps4 hb4 => ?_)
      · (intro p hp; (repeat' (rcases List.mem_cons.mp hp with rfl | hp)) <;> (repeat (first | exact List.Mem.head _ | exact hp | exact List.mem_append_right _ hp | refine List.Mem.tail _ ?_)))
      · intro p hp
        rcases List.mem_cons.mp hp with rfl | hp
        · exact Nat.ne_of_gt (Nat.lt_trans ldx.head lx)
        rcases List.mem_cons.mp hp with rfl | hp
        · exact Nat.ne_of_gt ldx.head
        rcases List.mem_cons.mp hp with rfl | hp
        · exact Nat.ne_of_gt hd408
        · exact hoff p hp
      · exact fun p hp => List.Mem.tail _ (List.Mem.tail _ (List.Mem.tail _ hp))
      k_steps
      refine dput (rest := (408, tabObj ps4) :: (x, tagsObj dx vs n2) :: (dx, emptyDict) :: news) F4 N4 (by intro p hp; (repeat' (rcases List.mem_cons.mp hp with rfl | hp)) <;> (repeat (first | exact List.Mem.head _ | exact hp | exact List.mem_append_right _ hp | refine List.Mem.tail _ ?_))) ?_ hod hkz fun h5 od5 F5 N5 hod5 => ?_
      · intro p hp
        rcases List.mem_cons.mp hp with rfl | hp
        · exact Nat.ne_of_lt hd408
        rcases List.mem_cons.mp hp with rfl | hp
        · exact Nat.ne_of_gt (Nat.lt_trans (ldx.lt _ (List.Mem.tail _ (List.Mem.head _))) lx)
        rcases List.mem_cons.mp hp with rfl | hp
        · exact Nat.ne_of_gt (ldx.lt _ (List.Mem.tail _ (List.Mem.head _)))
        · exact hoffd p hp
      k_steps
      exact h ps4 od5 x dx n2 _ _ _ (by assumption) (news_sub (by assumption) (by intro p hp; (repeat' (rcases List.mem_cons.mp hp with rfl | hp)) <;> (repeat (first | exact List.Mem.head _ | exact hp | exact List.mem_append_right _ hp | refine List.Mem.tail _ ?_)))) hps4 hod5 ldx lx hb4
    · omega
end

/- part MNe -/
section
section
variable {prog : Program} {w : World} {A : Around} {E : Value → Shared → Prop} {s : Shared} {K : Frag} {x C L f : Addr} {h₀ : Heap} {m : Str → Option Value} {ox : Obj} {od : Option Obj} {b tb : Value}
theorem ifBound_B {M : Model} {args : List Value} {name : Str} {id : String} {Q : Option Value → Shared → Prop} (X : K.In s.heap) (I : InstAt s.heap x ox C od) (hs : findIn K (.ref C) name = some (some (.builtin id))) (hb : bindSpecial (.builtin id) (.ref x) = pure (.builtin id, [.ref x]))
    (h : wpAny M A (call (.builtin id) (.ref x :: args)) (fun v => Q (some v)) E s) : wpAny M A (callSpecialIfBound? (.ref x) name args) Q E s := by
  simp only [callSpecialIfBound?, bindSpecialIfBound?]
  refine wpAny_holding (wpAny_bind (wpAny_bind (wpAny_bind (I.type.here ((looks_findIn X hs).here ?_)))))
  simp only [hb]
  refine wpAny_bind (wpAny_askSetting (wpAny_ite ?_))
  have fin : wpAny M A (call (.builtin id) ([.ref x] ++ args) >>= fun v => pure (some v)) Q E s := wpAny_bind (wpAny_mono h (fun v s' h' => wpAny_pure h') fun _ _ h' => h')
  split
  · exact wpAny_bind (wpAny_pure (wpAny_pure (by exact fin)))
  · exact wpAny_tryCatch (wpAny_bind (wpAny_pure (wpAny_pure (by exact fin))))
theorem ne_own {Q : Value → Shared → Prop} (hu : A.units + 100 < cLine) (X : K.In s.heap) (I : InstAt s.heap x ox C od) (hT : Looks (model prog w) s.heap (typeOf b) tb) (hn : notFirst K C tb = true)
    (hne : findIn K (.ref C) "__ne__" = some (some (.builtin "object.__ne__"))) (hso : mroIn K C (.type "object") = some true) (hs : findIn K (.ref C) "__eq__" = some (some (.ref f))) (hf : isFn K (.ref f) = true)
    (h : wpAny (model prog w) A.in1 (call (.ref f) [.ref x, b]) (fun v s' => ∃ r, v = .bool r ∧ Q (.bool (!r)) s') E s) : wpAny (model prog w) A (compareOp .NotEq (.ref x) b) Q E s := by
  have one : wpAny (model prog w) A (tryCompare (.ref x) (cmpInfo .NotEq).2.1 b) (fun r s' => ∃ v, r = some v ∧ Q v s') E s := by
    unfold tryCompare
    have hio : Looks (model prog w) s.heap (isInstance (.ref x) (.type "object")) true := I.type.andThen (looks_mroIn X hso)
    refine wpAny_bind (ifBound_B X I hne (PySem.F.slot_object_ne.bind _) (wpAny_call (codeAny_call_builtin PySem.F.slot_object_ne.plain PySem.F.entry_object_ne (@check_slot (model prog w) _ _ _ "object.__ne__" "object" "__ne__" (.ref x) [b] [] _ (by decide +kernel) (by decide +kernel) hio (PySem.F.args_object_ne_2 _ _) ?_))))
    unfold Builtin.«object.__ne__»
    refine wpAny_bind (m := slotArgs "__ne__" 1 _) (wpAny_pure ?_)
    refine wpAny_bind (wpAny_cRoomFor (by simp only [units_in1]; omega) ?_)
    refine wpAny_bind (ifBound_K X I hs hf (wpAny_mono h (fun v s' hv => ?_) fun _ _ e => e))
    obtain ⟨r, rfl, hq⟩ := hv
    refine wpAny_bind (wpAny_truthy_bool (wpAny_pure (wpAny_pure ⟨_, rfl, hq⟩)))
  show wpAny (model prog w) A (richCompare .NotEq (.ref x) b) Q E s
  unfold richCompare
  simp only [oneThing_ref]
  refine wpAny_holding (wpAny_bind (wpAny_cRoomFor (by omega) ?_))
  refine wpAny_bind (I.type.here (wpAny_bind (hT.here ?_)))
  split
  · rename_i q
    have e : subIn K tb (.ref C) = some false := by
      rcases Bool.or_eq_true_iff.mp hn with e | e
      · rw [beq_iff_eq.mp e] at q; simp at q
      · exact beq_iff_eq.mp e
    refine wpAny_bind ((looks_subIn X e).here ?_)
    simp only [Bool.false_eq_true, if_false]
    refine wpAny_bind (wpAny_mono one (fun r s' z => ?_) fun _ _ e => e)
    obtain ⟨v, rfl, hq⟩ := z
    exact wpAny_pure hq
  · refine wpAny_bind (wpAny_pure ?_)
    simp only [Bool.false_eq_true, if_false]
    refine wpAny_bind (wpAny_mono one (fun r s' z => ?_) fun _ _ e => e)
    obtain ⟨v, rfl, hq⟩ := z
    exact wpAny_pure hq
theorem eq_own {Q : Value → Shared → Prop} (hu : A.units + 100 < cLine) (X : K.In s.heap) (I : InstAt s.heap x ox C od) (hT : Looks (model prog w) s.heap (typeOf b) tb) (hn : notFirst K C tb = true)
    (hs : findIn K (.ref C) "__eq__" = some (some (.ref f))) (hf : isFn K (.ref f) = true)
    (h : wpAny (model prog w) A (call (.ref f) [.ref x, b]) (fun v s' => ∃ r, v = .bool r ∧ Q (.bool r) s') E s) : wpAny (model prog w) A (compareOp .Eq (.ref x) b) Q E s := by
  have one : wpAny (model prog w) A (tryCompare (.ref x) (cmpInfo .Eq).2.1 b) (fun r s' => ∃ v, r = some v ∧ Q v s') E s := by
    unfold tryCompare
    refine wpAny_bind (ifBound_K X I hs hf (wpAny_mono h (fun v s' hv => ?_) fun _ _ e => e))
    obtain ⟨r, rfl, hq⟩ := hv
    exact wpAny_pure ⟨_, rfl, hq⟩
  show wpAny (model prog w) A (richCompare .Eq (.ref x) b) Q E s
  unfold richCompare
  simp only [oneThing_ref]
  refine wpAny_holding (wpAny_bind (wpAny_cRoomFor (by omega) ?_))
  refine wpAny_bind (I.type.here (wpAny_bind (hT.here ?_)))
  split
  · rename_i q
    have e : subIn K tb (.ref C) = some false := by
      rcases Bool.or_eq_true_iff.mp hn with e | e
      · rw [beq_iff_eq.mp e] at q; simp at q
      · exact beq_iff_eq.mp e
    refine wpAny_bind ((looks_subIn X e).here ?_)
    simp only [Bool.false_eq_true, if_false]
    refine wpAny_bind (wpAny_mono one (fun r s' z => ?_) fun _ _ e => e)
    obtain ⟨v, rfl, hq⟩ := z
    exact wpAny_pure hq
  · refine wpAny_bind (wpAny_pure ?_)
    simp only [Bool.false_eq_true, if_false]
    refine wpAny_bind (wpAny_mono one (fun r s' z => ?_) fun _ _ e => e)
    obtain ⟨v, rfl, hq⟩ := z
    exact wpAny_pure hq
end
theorem ne113 {w : World} : findIn (hd.heap_39 w.params) (.ref 113) "__ne__" = some (some (.builtin "object.__ne__")) := by kernel_rfl
theorem eq113 {w : World} : findIn (hd.heap_39 w.params) (.ref 113) "__eq__" = some (some (.ref 88)) := by kernel_rfl
theorem fn88 {w : World} : isFn (hd.heap_39 w.params) (.ref 88) = true := by kernel_rfl
theorem obj113 {w : World} : mroIn (hd.heap_39 w.params) 113 (.type "object") = some true := by kernel_rfl
theorem nf113 {w : World} : notFirst (hd.heap_39 w.params) 113 (.type "tuple") = true := by kernel_rfl
section
theorem tag_ne {w : World} {A A₀ : Around} {s : Shared} {base h₀ : Heap} {outer : List Env} {env : Env} {L : Addr} {m mg mb : Str → Option Value} {p₀ : Program} {loose : List Str} {news : List (Addr × Obj)} {E : Value → Shared → Prop} {Q : Value → Shared → Prop} {c : Int} {tk : Tok} {x dx b : Addr} {v : Value} {cell : Cell} {r2 : Row} {l : List (Addr × Obj)} (cx : Cx w A A₀ base h₀ outer env L mg mb p₀ loose) (F : Fr h₀ L s.heap m) (N : News h₀ L s.heap news) (hr : A.depth + 20 < recursionLimit) (hu : A.units + 400 < cLine)
    (h1 : (x, tagObj dx c tk v) ∈ news) (h2 : (dx, dictOf [] 0) ∈ news) (hd : DatIn l v cell.dat) (hb : RowV h₀ news b r2) (ok1 : rowOk (c, cell) = true) (ok2 : rowOk r2 = true)
    (h : ∀ h' tk', Fr h₀ L h' m → News h₀ L h' news → Q (.bool (!decide ((c, cell) = r2))) { s with heap := h', toks := tk' }) :
    wpAny (model Challenge.rw_fy0015_01.row.toRowW.1 w) A (compareOp .NotEq (.ref x) (.ref b)) Q E s := by
  have X := cx.X.keeps F.keep
  have I : InstAt s.heap x (tagObj dx c tk v) 113 (some (dictOf [] 0)) := ⟨(N _ h1).1, rfl, rfl, (N _ h2).1⟩
  have cx' : Cx w A.in1 A₀ base h₀ outer env L mg mb p₀ loose := ⟨cx.B, cx.X, cx.T, cx.hh, cx.hA, cx.hf, cx.hk⟩
  have hT : Looks (model Challenge.rw_fy0015_01.row.toRowW.1 w) s.heap (typeOf (.ref b)) (.type "tuple") := hb.isTuple F N
  refine ne_own (by omega) X I hT nf113 ne113 obj113 eq113 fn88 ?_
  exact dxfeq_spec (handed_dat hd) cx' F N (by simpa using hr) (by simp only [units_in1]; omega) h1 h2 hd hb ok1 ok2 fun h' tk' F' N' => ⟨_, rfl, h h' tk' F' N'⟩
theorem tag_eq {w : World} {A A₀ : Around} {s : Shared} {base h₀ : Heap} {outer : List Env} {env : Env} {L : Addr} {m mg mb : Str → Option Value} {p₀ : Program} {loose : List Str} {news : List (Addr × Obj)} {E : Value → Shared → Prop} {Q : Value → Shared → Prop} {c : Int} {tk : Tok} {x dx b : Addr} {v : Value} {cell : Cell} {r2 : Row} {l : List (Addr × Obj)} (cx : Cx w A A₀ base h₀ outer env L mg mb p₀ loose) (F : Fr h₀ L s.heap m) (N : News h₀ L s.heap news) (hr : A.depth + 20 < recursionLimit) (hu : A.units + 400 < cLine)
    (h1 : (x, tagObj dx c tk v) ∈ news) (h2 : (dx, dictOf [] 0) ∈ news) (hd : DatIn l v cell.dat) (hb : RowV h₀ news b r2) (ok1 : rowOk (c, cell) = true) (ok2 : rowOk r2 = true)
    (h : ∀ h' tk', Fr h₀ L h' m → News h₀ L h' news → Q (.bool (decide ((c, cell) = r2))) { s with heap := h', toks := tk' }) :
    wpAny (model Challenge.rw_fy0015_01.row.toRowW.1 w) A (compareOp .Eq (.ref x) (.ref b)) Q E s := by
  have X := cx.X.keeps F.keep
  have I : InstAt s.heap x (tagObj dx c tk v) 113 (some (dictOf [] 0)) := ⟨(N _ h1).1, rfl, rfl, (N _ h2).1⟩
  have hT : Looks (model Challenge.rw_fy0015_01.row.toRowW.1 w) s.heap (typeOf (.ref b)) (.type "tuple") := hb.isTuple F N
  refine eq_own (by omega) X I hT nf113 eq113 fn88 ?_
  exact dxfeq_spec (handed_dat hd) cx F N (by simpa using hr) (by omega) h1 h2 hd hb ok1 ok2 fun h' tk' F' N' => ⟨_, rfl, h h' tk' F' N'⟩
end
end

/- part MIns -/
section
theorem gab366 {w : World} : findIn (hd.heap_39 w.params) (.ref 366) "__getattribute__" = some (some (.builtin "list.__getattribute__")) := by kernel_rfl
theorem gat366 {w : World} : findIn (hd.heap_39 w.params) (.ref 366) "__getattr__" = some none := by kernel_rfl
theorem ins366 {w : World} : findIn (hd.heap_39 w.params) (.ref 366) "insert" = some (some (.builtin "list.insert")) := by kernel_rfl
theorem can_gab : (Manifest.canonical "list.__getattribute__" != "object.__getattribute__") = false := by kernel_rfl
section
variable {w : World} {A : Around} {E : Value → Shared → Prop} {s : Shared} {h₀ : Heap} {L l dl : Addr} {m : Str → Option Value} {news : List (Addr × Obj)} {vs : List Value} {n : Nat}
theorem tmeth_ins {pl : Sem Bool} {Q : Value × List Value → Shared → Prop} (F : Fr h₀ L s.heap m) (X₀ : (hd.heap_39 w.params).In h₀) (N : News h₀ L s.heap news) (hl : (l, tagsObj dl vs n) ∈ news) (hdd : (dl, emptyDict) ∈ news) (h : Q (.builtin "list.insert", [.ref l]) s) :
    wpAny (model Challenge.rw_fy0015_01.row.toRowW.1 w) A (getMethod (.ref l) (Str.ofString "insert") pl) Q E s := by
  have X := X₀.keeps F.keep
  have Y : SubAt (model Challenge.rw_fy0015_01.row.toRowW.1 w) s.heap (hd.heap_39 w.params) 366 l := subAt_of X (N _ hl).1 lst366
  unfold getMethod
  refine wpAny_bind (m := specialOf _ _) (wpAny_bind (Y.typ.here ((looks_findIn X gab366).here ?_)))
  simp only [can_gab, Bool.false_eq_true, if_false]
  refine wpAny_bind (m := specialOf _ _) (wpAny_bind (Y.typ.here ((looks_findIn X gat366).here ?_)))
  simp only [Option.isSome_none, Bool.false_eq_true, if_false]
  refine wpAny_bind (m := specialOf _ _) (wpAny_bind (Y.typ.here ((looks_findIn X ins366).here ?_)))
  refine wpAny_bind (wpAny_of_eq PySem.F.type_list_insert ?_)
  have e1 : (Value.type "method_descriptor" != Value.type "function" && Value.type "method_descriptor" != Value.type "method_descriptor" && Value.type "method_descriptor" != Value.type "wrapper_descriptor") = false := by decide
  simp only [e1, Bool.false_eq_true, if_false]
  refine wpAny_bind (wpAny_loadPart (N _ hl).1 ?_)
  dsimp only
  refine wpAny_bind (m := nsGet dl _) ?_
  · unfold nsGet
    refine wpAny_bind (wpAny_loadPart (N _ hdd).1 ?_)
    show wpAny _ _ (pure none) _ _ _
    refine wpAny_pure ?_
    simp only [Option.isSome_none, Bool.false_eq_true, if_false]
    exact wpAny_bind (wpAny_rule (wpAny_pure h))
theorem tins {k : Tok} {v : Value} {pre post : List (Addr × Obj)} {Q : Value → Shared → Prop} (F : Fr h₀ L s.heap m) (X₀ : (hd.heap_39 w.params).In h₀) (N : News h₀ L s.heap (pre ++ (l, tagsObj dl vs n) :: post)) (h1 : ∀ p ∈ pre, p.1 ≠ l) (h2 : ∀ p ∈ post, p.1 ≠ l) (hz : vs.length ≤ 1000)
    (h : ∀ h' n', Fr h₀ L h' m → News h₀ L h' (pre ++ (l, tagsObj dl (v :: vs) n') :: post) → Q .none { s with heap := h' }) :
    wpAny (model Challenge.rw_fy0015_01.row.toRowW.1 w) A (call (.builtin "list.insert") [.ref l, .int 0 k, v]) Q E s := by
  have X := X₀.keeps F.keep
  have ho := (N (l, tagsObj dl vs n) (by simp)).1
  have Y : SubAt (model Challenge.rw_fy0015_01.row.toRowW.1 w) s.heap (hd.heap_39 w.params) 366 l := subAt_of X ho lst366
  refine wpAny_call (sub_callM Y (n := "insert") (by decide +kernel) (by decide +kernel) PySem.F.entry_list_insert (by decide +kernel) (PySem.F.args_list_insert_3 _ _ _) ?_)
  have e : (fun xs : Array Value => have k := if (0 : Int) < 0 then ((0 : Int) + (xs.size : Int)).toNat else min (0 : Int).toNat xs.size; (xs.extract 0 k).push v ++ xs.extract k) vs.toArray = (v :: vs).toArray := by
    simp
  have hz' : ((fun xs : Array Value => have k := if (0 : Int) < 0 then ((0 : Int) + (xs.size : Int)).toNat else min (0 : Int).toNat xs.size; (xs.extract 0 k).push v ++ xs.extract k) vs.toArray).size ≤ sizeLine + 1 := by rw [e]; simp [sizeLine_eq]; omega
  have hs1 : vs.toArray.size ≤ sizeLine := by simp [sizeLine_eq]; omega
  have gen : ∀ f : Array Value → Array Value, f vs.toArray = (v :: vs).toArray → Q .none { s with heap := s.heap.update l (Obj.mapSeq f) } := by
    intro f hf
    obtain ⟨n2, e2⟩ := mapSeq_lst (C := 366) (dx := dl) (xs := vs.toArray) (n := n) f
    rw [hf] at e2
    obtain ⟨F2, N2⟩ := news_upd (f := Obj.mapSeq f) F N h1 h2 e2 rfl
    exact h _ n2 F2 N2
  have fin := gen (fun xs : Array Value => have k := if (0 : Int) < 0 then ((0 : Int) + (xs.size : Int)).toNat else min (0 : Int).toNat xs.size; (xs.extract 0 k).push v ++ xs.extract k) e
  clear h N F X Y X₀ gen
  obtain ⟨hp, g, d, tk, os⟩ := s
  have f1 := PySem.AutoSeq1.idx_int
  dsimp only at ho fin ⊢
  unfold Builtin.«list.insert»
  wp_walk using (wpAny_updateSeq ho rfl (hz := hs1) (_hz' := hz'))
  exact fin
end
end

/- part MAdd -/
theorem fresh_MAdd : True ∧ True := by
  w_top off
  first
    | (walk1; done)
    | exact ⟨True.intro, True.intro⟩
section
local macro_rules | `(tactic| walk_at "compareOp NotEq ref ref") => `(tactic| (k_here; (with_reducible show wpAny _ _ (compareOp CmpOp.NotEq (Value.ref _) (Value.ref _)) _ _ _); refine stop_cmp ?_))
local macro_rules | `(tactic| walk_at "compareOp Eq ref ref") => `(tactic| (k_here; (with_reducible show wpAny _ _ (compareOp CmpOp.Eq (Value.ref _) (Value.ref _)) _ _ _); refine stop_cmp ?_))
local macro_rules | `(tactic| walk_at "call ref") => `(tactic| (k_here; (with_reducible show wpAny _ _ (call (Value.ref 131) _) _ _ _); k_dflt (refine' dxftag_spec ?cx ?F ?N ?r ?u ?_; (case cx => (refine' ⟨?cB, ?cX, ?cT, ?ca, ?cb, ?cc, ?cd⟩; (case ca => exact rfl); (case cb => exact rfl); (case cc => exact rfl); (case cd => exact rfl); (case cB => k_asm); (case cX => k_asm); (case cT => k_asm))); (case F => k_asm); (case N => k_asm); (case r => k_room); (case u => k_units); k_whole); intro x' dx' h' tk' F' N' l1 l2; (first | (have hlt := TopLe.head l1; dsimp only at hlt) | (have hlt := TopLe.num l1; (try simp only [top_app, Nat.max_le] at hlt)))))
local macro_rules | `(tactic| walk_at "getMethod ref") => `(tactic| (k_here; (with_reducible show wpAny _ _ (getMethod (Value.ref _) (PySem.Str.ofString "insert") _) _ _ _); k_dflt (refine' tmeth_ins ?F ?X ?N ?a ?b ?_; (case F => k_asm); (case X => k_asm); (case N => k_asm); (case a => k_mem); (case b => k_mem); k_whole)))
section
def outRows (rows : List Row) (app : Str) : List Row := if rows.head? = some (1001, .s app) then rows else (1001, .s app) :: rows
def SrcObj (ol : Obj) (rvs : List Value) : Prop := ∃ n, ol = listOf rvs.toArray n ∨ ∃ dl, ol = tagsObj dl rvs n
theorem src_iter {w : World} {A : Around} {E : Value → Shared → Prop} {s : Shared} {l : Addr} {ol : Obj} {vs : List Value} {Q : Value → Shared → Prop} {h₀ : Heap} {L : Addr} {m : Str → Option Value} {news : List (Addr × Obj)} (F : Fr h₀ L s.heap m) (X₀ : (hd.heap_39 w.params).In h₀) (N : News h₀ L s.heap news) (hl : (l, ol) ∈ news) (ho : SrcObj ol vs)
    (hQ : Q (.ref s.heap.objs.size) { s with heap := s.heap.push (listIter l 0) }) : wpAny (model Challenge.rw_fy0015_01.row.toRowW.1 w) A (pyIter (.ref l)) Q E s := by
  obtain ⟨n, rfl | ⟨dl, rfl⟩⟩ := ho
  · exact wpAny_pyIter_list (N.isList hl) hQ
  · exact tags_iter F X₀ N hl hQ
theorem src_seq {ol : Obj} {vs : List Value} (ho : SrcObj ol vs) : ∃ n, ol.data = .seq vs.toArray n := by
  obtain ⟨n, rfl | ⟨dl, rfl⟩⟩ := ho
  · exact ⟨n, rfl⟩
  · exact ⟨n, rfl⟩
set_option maxHeartbeats 4000000 in
theorem add_spec {w : World} {A A₀ : Around} {s : Shared} {base h₀ : Heap} {outer : List Env} {env : Env} {L : Addr} {m mg mb : Str → Option Value} {p₀ : Program} {loose : List Str} {news : List (Addr × Obj)} {E : Value → Shared → Prop} {Q : Value → Shared → Prop} {xo xd d l : Addr} {od ol : Obj} {tkx ta : Tok} {nx : Nat} {kvs : List (Str × Value)} {vs : List Value} {rows : List Row} {ps1 ps : Array Value} {app : Str} (hb : Bm mg h₀) (cx : Cx w A A₀ base h₀ outer env L mg mb p₀ loose) (F : Fr h₀ L s.heap m)
    (N : News h₀ L s.heap ((468, tabObj ps1) :: (408, tabObj ps) :: (d, od) :: news)) (hr : A.depth + 160 < recursionLimit) (hu : A.units + 3000 < cLine) (hps1 : TriplesOk ps1.toList) (hps : TriplesOk ps.toList)
    (hoff1 : ∀ p ∈ news, p.1 ≠ 468) (hoff : ∀ p ∈ news, p.1 ≠ 408) (hoffd : ∀ p ∈ news, p.1 ≠ d) (hd408 : @LT.lt Nat _ 468 d)
    (hx : (xo, instObj 525 xd) ∈ news) (hxd : (xd, xAttrs w tkx d nx) ∈ news) (hod : od.IsDictOf (strKind Challenge.rw_fy0015_01.row.toRowW.1 w) kvs) (hkz : kvs.length ≤ 1000)
    (hl : (l, ol) ∈ news) (hol : SrcObj ol vs) (hT : SrcIn news vs rows) (hz : rows.length ≤ 900) (hne : rows ≠ []) (hcod : ∀ r ∈ rows, r.1 ∈ vCodes) (hok : ∀ r ∈ rows, rowOk r = true) (hok2 : rowOk (1001, .s app) = true)
    (h : ∀ (ps1' ps' : Array Value) od' (x dx : Nat) vs' nn add h' tk gn, Fr h₀ L h' m → News h₀ L h' ((468, tabObj ps1') :: (408, tabObj ps') :: (d, od') :: (x, tagsObj dx vs' nn) :: (add ++ news)) → TriplesOk ps1'.toList → TriplesOk ps'.toList →
      od'.IsDictOf (strKind Challenge.rw_fy0015_01.row.toRowW.1 w) (stored kvs app (.ref x)) → TagsIn add vs' (outRows rows app) → (∀ p ∈ add, top ((468, tabObj ps1) :: (408, tabObj ps) :: (d, od) :: news) ≤ p.1 ∧ p.1 ≠ x) → top ((468, tabObj ps1) :: (408, tabObj ps) :: (d, od) :: news) ≤ x → (AllBare s.gens → AllBare gn) → Q .none (gSt s h' tk gn)) :
    wpAny (model Challenge.rw_fy0015_01.row.toRowW.1 w) A (call (.ref 473) [.ref xo, .str app ta, .ref l]) Q E s := by
  obtain ⟨B, X₀, T, hh, hA, hf, hk⟩ := cx
  revert X₀
  k_fill
  intro X₀
  obtain ⟨_, _, _, _, _⟩ := A
  obtain ⟨⟨_, _, _, _, _⟩, _, _, _, _, _, _, _, _⟩ := env
  dsimp only at hA hf hk hh hr hu
  subst hA hf hk hh
  refine wpAny_call ?_
  k_enter
  k_steps
  rename_i g1 L1 h1 FG1 F1 N1 B1 X1 T1 l1 hlt1
  refine gx_make F1 rfl rfl (by decide +kernel) rfl rfl (by k_room) rfl rfl (codeHd_of_K (c := 472) (P := 468) X1 (by kernel_rfl)) (hb.keeps FG1.keep) T1.nolimit ?_ (fun _ => rfl)
  k_steps
  refine src_iter F1 X1 N1 (List.Mem.tail _ (List.Mem.tail _ (List.Mem.tail _ hl))) hol ?_
  have F2 := F1.push (listIter l 0)
  have N2 := N1.push F1 (listIter l 0)
  have hI := topLe_news N1
  refine ⟨(h1.objs.size, listIter l 0) :: (408, tabObj ps) :: (d, od) :: news, ps1, F2, news_sub N2 ?_, hps1, ?_, ?_⟩
  · (intro p hp; (repeat' (rcases List.mem_cons.mp hp with rfl | hp)) <;> (repeat (first | exact List.Mem.head _ | exact hp | exact List.mem_append_right _ hp | refine List.Mem.tail _ ?_)))
  · intro p hp
    rcases List.mem_cons.mp hp with rfl | hp
    · exact Nat.ne_of_gt hI.head
    rcases List.mem_cons.mp hp with rfl | hp
    · show @Ne Nat 408 468; decide
    rcases List.mem_cons.mp hp with rfl | hp
    · exact Nat.ne_of_gt hd408
    · exact hoff1 p hp
  intro C a h5 tk ps1' code oC t1 t2 F3 N3 hps1' hns hC hLC hCa
  clear F2 N2
  k_steps
  obtain ⟨nl, hseq⟩ := src_seq hol
  have hIlt : @LT.lt Nat _ h1.objs.size C := hC.lt _ (List.Mem.tail _ (List.Mem.head _))
  refine stop_go (tags_src (nm := Str.ofString "dxftag") (oC := oC) (l := l) (I := h1.objs.size) (g := s.gens.size) (ol := ol) (ln := nl) (rvs := vs) (rows := rows) (qq := Str.ofString "XData.add" ++ ".<locals>." ++ "<genexpr>") (t1 := t1) (t2 := t2) (news := (468, tabObj ps1') :: (408, tabObj ps) :: (d, od) :: news) elt_dxf (by exact ⟨B1, X1, T1, rfl, rfl, rfl, rfl⟩) rfl F3 (news_sub N3 ?_) (by k_room) (by k_units) hns Array.getElem?_push_size hLC hIlt hCa ?_ ?_ (List.Mem.tail _ (List.Mem.tail _ (List.Mem.tail _ hl))) hseq ⟨hT.1, fun i hi => ?_⟩ (by omega) fun x dx vs2 nn2 add h6 tk6 gn6 F6 N6 hT6 hadd6 hax hdx hb6 => ?_)
  · (intro p hp; (repeat' (rcases List.mem_cons.mp hp with rfl | hp)) <;> (repeat (first | exact List.Mem.head _ | exact hp | exact List.mem_append_right _ hp | refine List.Mem.tail _ ?_)))
  · intro p hp
    rcases List.mem_cons.mp hp with rfl | hp
    · exact hC.head
    · exact hC.lt p (List.Mem.tail _ (List.Mem.tail _ hp))
  · intro p hp
    rcases List.mem_cons.mp hp with rfl | hp
    · exact Nat.ne_of_lt hI.head
    · exact Nat.ne_of_lt (hI.lt p (List.Mem.tail _ hp))
  · obtain ⟨a, q1, q2⟩ := hT.2 i hi
    exact ⟨a, q1, q2.mono fun p hp => List.Mem.tail _ (List.Mem.tail _ (List.Mem.tail _ hp))⟩
  have hvz : vs2.length ≤ 1000 := by rw [hT6.length]; omega
  have hrl : 0 < rows.length := List.length_pos_iff.mpr hne
  obtain ⟨x0, d0, t0, u0, hv0, hx0, hd0, hu0⟩ := tagAt hT6 hrl
  have hv0 : vs2[((0 : Int)).toNat]? = some (.ref x0) := hv0
  have hpos : 0 < (vs2.length : Int) := by rw [hT6.length]; omega
  have hz2 : ((vs2.length : Int) == 0) = false := beq_eq_false_iff_ne.mpr (by omega)
  have N7 : News g1 L1 h6 ((x, tagsObj dx vs2 nn2) :: (468, tabObj ps1') :: (408, tabObj ps) :: (d, od) :: (dx, emptyDict) :: (add ++ news)) := news_sub N6 (by
    intro p hp
    (repeat' (rcases List.mem_cons.mp hp with rfl | hp)) <;> (try rcases List.mem_append.mp hp with hp | hp) <;> (repeat (first | exact List.Mem.head _ | exact hp | exact List.mem_append_left _ hp | refine List.Mem.tail _ ?_ | refine List.mem_append_right _ ?_)))
  clear N6 N3
  have hr0 : rowAt rows 0 ∈ rows := by
    unfold rowAt
    rw [List.getD_eq_getElem?_getD, List.getElem?_eq_getElem hrl]
    exact List.getElem_mem hrl
  k_steps
  rename_i D8 h8 F8 N8 l8 hlt8
  have hcode : ∀ i, i < rows.length → (rowAt rows i).1 ∈ vCodes := fun i hi => by
    refine hcod _ ?_
    unfold rowAt
    rw [List.getD_eq_getElem?_getD, List.getElem?_eq_getElem hi]
    exact List.getElem_mem hi
  have htop := l1.num
  have hdL : @LT.lt Nat _ d L1 := l1.lt (d, od) (List.Mem.tail _ (List.Mem.tail _ (List.Mem.head _)))
  have h408L : @LT.lt Nat _ 408 L1 := l1.lt (408, tabObj ps) (List.Mem.tail _ (List.Mem.head _))
  have hLCn : @LT.lt Nat _ L1 C := hLC
  have hCan : @LT.lt Nat _ C a := hCa
  have haxn : @LT.lt Nat _ a dx := hax
  have hdxn : @LT.lt Nat _ dx x := hdx
  have hxge : ∀ p ∈ add, @LT.lt Nat _ x p.1 := hadd6
  refine cmp_go (tag_ne (c := (rowAt rows 0).1) (cell := (rowAt rows 0).2) (r2 := (1001, .s app)) (tk := t0) (dx := d0) (by exact ⟨B1, X1, T1, rfl, rfl, rfl, rfl⟩) F8 N8 (by k_room) (by k_units) ?_ ?_ hu0 (RowV.new (n := 0) (List.Mem.head _) (DatIn.str (news := []) _ _)) (hok _ hr0) hok2 fun h9 tk9 F9 N9 => ?_)
  · repeat (first | exact List.mem_append_left _ hx0 | refine List.Mem.tail _ ?_)
  · repeat (first | exact List.mem_append_left _ hd0 | refine List.Mem.tail _ ?_)
  by_cases e : rowAt rows 0 = (1001, .s app)
  · have e9 : (!decide (((rowAt rows 0).1, (rowAt rows 0).2) = ((1001, .s app) : Row))) = false := by rw [decide_eq_true (show ((rowAt rows 0).1, (rowAt rows 0).2) = ((1001, .s app) : Row) from e)]; rfl
    rw [e9]
    clear F8 N8
    k_steps
    have hrows : rows = ((1001, .s app) : Row) :: rows.tail := by
      cases rows with
      | nil => exact absurd rfl hne
      | cons r rs => rw [show r = ((1001, .s app) : Row) from e]; rfl
    refine stop_go (add0_spec (xd := xd) (n := nn2) (dl := dx) (news := (D8, _) :: (x, tagsObj dx vs2 nn2) :: (468, tabObj ps1') :: (dx, emptyDict) :: (add ++ news)) (od := od) (kvs := kvs) (tkx := tkx) (nx := nx) (rows := rows) (c0 := 1001) (app := app) (rest := rows.tail) (hb.keeps FG1.keep) (by exact ⟨B1, X1, T1, rfl, rfl, rfl, rfl⟩) F9 (news_sub N9 (by intro p hp; (repeat' (rcases List.mem_cons.mp hp with rfl | hp)) <;> (repeat (first | exact List.Mem.head _ | exact hp | exact List.mem_append_right _ hp | refine List.Mem.tail _ ?_)))) (by k_room) (by k_units) hps ?_ ?_ (Nat.lt_trans (by decide) hd408) ?_ ?_ hod hkz (List.Mem.tail _ (List.Mem.head _)) (hT6.mono ?_) (by omega) hcode hrows fun ps' od' x' dx' nn' h10 tk10 gn10 F10 N10 hps' hod' hlx' hdx' hb10 => ?_)
    · intro p hp
      rcases List.mem_cons.mp hp with rfl | hp
      · show @Ne Nat D8 408; omega
      rcases List.mem_cons.mp hp with rfl | hp
      · show @Ne Nat x 408; omega
      rcases List.mem_cons.mp hp with rfl | hp
      · show @Ne Nat 468 408; decide
      rcases List.mem_cons.mp hp with rfl | hp
      · show @Ne Nat dx 408; omega
      rcases List.mem_append.mp hp with hp | hp
      · have := hxge p hp; show @Ne Nat p.1 408; omega
      · exact hoff p hp
    · intro p hp
      rcases List.mem_cons.mp hp with rfl | hp
      · show @Ne Nat D8 d; omega
      rcases List.mem_cons.mp hp with rfl | hp
      · show @Ne Nat x d; omega
      rcases List.mem_cons.mp hp with rfl | hp
      · exact Nat.ne_of_lt hd408
      rcases List.mem_cons.mp hp with rfl | hp
      · show @Ne Nat dx d; omega
      rcases List.mem_append.mp hp with hp | hp
      · have := hxge p hp; show @Ne Nat p.1 d; omega
      · exact hoffd p hp
    · exact List.Mem.tail _ (List.Mem.tail _ (List.Mem.tail _ (List.Mem.tail _ (List.mem_append_right _ hx))))
    · exact List.Mem.tail _ (List.Mem.tail _ (List.Mem.tail _ (List.Mem.tail _ (List.mem_append_right _ hxd))))
    · exact fun p hp => List.Mem.tail _ (List.Mem.tail _ (List.Mem.tail _ (List.Mem.tail _ (List.mem_append_left _ hp))))
    have hxx : @LT.lt Nat _ x dx' := hlx'.lt (x, _) (List.Mem.tail _ (List.Mem.tail _ (List.Mem.tail _ (List.Mem.head _))))
    have hDx : @LT.lt Nat _ D8 dx' := hlx'.lt (D8, _) (List.Mem.tail _ (List.Mem.tail _ (List.Mem.head _)))
    k_steps
    refine h ps1' ps' od' x' dx' vs2 nn' ((dx', emptyDict) :: (D8, _) :: (x, tagsObj dx vs2 nn2) :: (dx, emptyDict) :: add) _ _ _ (by assumption) (news_sub (by assumption) (by intro p hp; (repeat' (rcases List.mem_cons.mp hp with rfl | hp)) <;> (repeat (first | exact List.Mem.head _ | exact hp | exact List.mem_append_right _ hp | refine List.Mem.tail _ ?_)))) hps1' hps' hod' ?_ ?_ (by omega) (fun z => hb10 (hb6 (AllBare.push z rfl)))
    · have eo : outRows rows app = rows := by rw [hrows]; exact if_pos rfl
      rw [eo]
      exact hT6.mono fun p hp => List.Mem.tail _ (List.Mem.tail _ (List.Mem.tail _ (List.Mem.tail _ hp)))
    · intro p hp
      rcases List.mem_cons.mp hp with rfl | hp
      · exact ⟨by show top _ ≤ dx'; omega, by show @Ne Nat dx' x'; omega⟩
      rcases List.mem_cons.mp hp with rfl | hp
      · exact ⟨by show top _ ≤ D8; omega, by show @Ne Nat D8 x'; omega⟩
      rcases List.mem_cons.mp hp with rfl | hp
      · exact ⟨by show top _ ≤ x; omega, by show @Ne Nat x x'; omega⟩
      rcases List.mem_cons.mp hp with rfl | hp
      · exact ⟨by show top _ ≤ dx; omega, by show @Ne Nat dx x'; omega⟩
      · have h3 := hxge p hp
        have h4 : @LT.lt Nat _ p.1 dx' := hlx'.lt p (List.Mem.tail _ (List.Mem.tail _ (List.Mem.tail _ (List.Mem.tail _ (List.Mem.tail _ (List.Mem.tail _ (List.mem_append_left _ hp)))))))
        exact ⟨by omega, by show @Ne Nat p.1 x'; omega⟩
  · have e9 : (!decide (((rowAt rows 0).1, (rowAt rows 0).2) = ((1001, .s app) : Row))) = true := by rw [decide_eq_false (show ¬ ((rowAt rows 0).1, (rowAt rows 0).2) = ((1001, .s app) : Row) from e)]; rfl
    rw [e9]
    clear F8 N8
    k_steps
    rename_i y dy h10 tk10 F10 N10 l10 l11 hlt10
    refine tins (vs := vs2) (n := nn2) (dl := dx) (pre := [(y, _), (dy, _), (D8, _)]) (post := (468, tabObj ps1') :: (408, tabObj ps) :: (d, od) :: (dx, emptyDict) :: (add ++ news)) F10 X1 N10 ?_ ?_ hvz fun h11 n11 F11 N11 => ?_
    · intro p hp
      rcases List.mem_cons.mp hp with rfl | hp
      · show @Ne Nat y x; omega
      rcases List.mem_cons.mp hp with rfl | hp
      · show @Ne Nat dy x; omega
      rcases List.mem_cons.mp hp with rfl | hp
      · show @Ne Nat D8 x; omega
      · cases hp
    · intro p hp
      rcases List.mem_cons.mp hp with rfl | hp
      · show @Ne Nat 468 x; omega
      rcases List.mem_cons.mp hp with rfl | hp
      · show @Ne Nat 408 x; omega
      rcases List.mem_cons.mp hp with rfl | hp
      · show @Ne Nat d x; omega
      rcases List.mem_cons.mp hp with rfl | hp
      · show @Ne Nat dx x; omega
      rcases List.mem_append.mp hp with hp | hp
      · have := hxge p hp; show @Ne Nat p.1 x; omega
      · have : @LT.lt Nat _ p.1 L1 := l1.lt p (List.Mem.tail _ (List.Mem.tail _ (List.Mem.tail _ hp)))
        show @Ne Nat p.1 x; omega
    have hvz2 : (Value.ref y :: vs2).length ≤ 1000 := by rw [List.length_cons, hT6.length]; omega
    clear N10 F10
    k_steps
    refine stop_go (add0_spec (xd := xd) (n := n11) (dl := dx) (vs := .ref y :: vs2) (news := (y, _) :: (dy, _) :: (D8, _) :: (x, tagsObj dx (.ref y :: vs2) n11) :: (468, tabObj ps1') :: (dx, emptyDict) :: (add ++ news)) (od := od) (kvs := kvs) (tkx := tkx) (nx := nx) (rows := (1001, .s app) :: rows) (c0 := 1001) (app := app) (rest := rows) (hb.keeps FG1.keep) (by exact ⟨B1, X1, T1, rfl, rfl, rfl, rfl⟩) F11 (news_sub N11 (by intro p hp; (repeat' (rcases List.mem_cons.mp hp with rfl | hp)) <;> (repeat (first | exact List.Mem.head _ | exact hp | exact List.mem_append_right _ hp | refine List.Mem.tail _ ?_)))) (by k_room) (by k_units) hps ?_ ?_ (Nat.lt_trans (by decide) hd408) ?_ ?_ hod hkz (List.Mem.tail _ (List.Mem.tail _ (List.Mem.tail _ (List.Mem.head _)))) ?_ (by rw [List.length_cons]; omega) ?_ rfl fun ps' od' x' dx' nn' h12 tk12 gn12 F12 N12 hps' hod' hlx' hdx' hb10 => ?_)
    · intro p hp
      rcases List.mem_cons.mp hp with rfl | hp
      · show @Ne Nat y 408; omega
      rcases List.mem_cons.mp hp with rfl | hp
      · show @Ne Nat dy 408; omega
      rcases List.mem_cons.mp hp with rfl | hp
      · show @Ne Nat D8 408; omega
      rcases List.mem_cons.mp hp with rfl | hp
      · show @Ne Nat x 408; omega
      rcases List.mem_cons.mp hp with rfl | hp
      · show @Ne Nat 468 408; decide
      rcases List.mem_cons.mp hp with rfl | hp
      · show @Ne Nat dx 408; omega
      rcases List.mem_append.mp hp with hp | hp
      · have := hxge p hp; show @Ne Nat p.1 408; omega
      · exact hoff p hp
    · intro p hp
      rcases List.mem_cons.mp hp with rfl | hp
      · show @Ne Nat y d; omega
      rcases List.mem_cons.mp hp with rfl | hp
      · show @Ne Nat dy d; omega
      rcases List.mem_cons.mp hp with rfl | hp
      · show @Ne Nat D8 d; omega
      rcases List.mem_cons.mp hp with rfl | hp
      · show @Ne Nat x d; omega
      rcases List.mem_cons.mp hp with rfl | hp
      · exact Nat.ne_of_lt hd408
      rcases List.mem_cons.mp hp with rfl | hp
      · show @Ne Nat dx d; omega
      rcases List.mem_append.mp hp with hp | hp
      · have := hxge p hp; show @Ne Nat p.1 d; omega
      · exact hoffd p hp
    · exact List.Mem.tail _ (List.Mem.tail _ (List.Mem.tail _ (List.Mem.tail _ (List.Mem.tail _ (List.Mem.tail _ (List.mem_append_right _ hx))))))
    · exact List.Mem.tail _ (List.Mem.tail _ (List.Mem.tail _ (List.Mem.tail _ (List.Mem.tail _ (List.Mem.tail _ (List.mem_append_right _ hxd))))))
    · exact TagsIn.cons (r := (1001, .s app)) (List.Mem.head _) (List.Mem.tail _ (List.Mem.head _)) (DatIn.str _ _) (hT6.mono fun p hp => List.Mem.tail _ (List.Mem.tail _ (List.Mem.tail _ (List.Mem.tail _ (List.Mem.tail _ (List.Mem.tail _ (List.mem_append_left _ hp)))))))
    · intro i hi
      cases i with
      | zero => show (1001 : Int) ∈ vCodes; decide
      | succ i => exact hcode i (by simpa using hi)
    have hxx : @LT.lt Nat _ x dx' := hlx'.lt (x, _) (List.Mem.tail _ (List.Mem.tail _ (List.Mem.tail _ (List.Mem.tail _ (List.Mem.tail _ (List.Mem.head _))))))
    have hyx : @LT.lt Nat _ y dx' := hlx'.lt (y, _) (List.Mem.tail _ (List.Mem.tail _ (List.Mem.head _)))
    k_steps
    refine h ps1' ps' od' x' dx' (.ref y :: vs2) nn' ((dx', emptyDict) :: (y, _) :: (dy, _) :: (D8, _) :: (x, tagsObj dx (.ref y :: vs2) n11) :: (dx, emptyDict) :: add) _ _ _ (by assumption) (news_sub (by assumption) (by intro p hp; (repeat' (rcases List.mem_cons.mp hp with rfl | hp)) <;> (repeat (first | exact List.Mem.head _ | exact hp | exact List.mem_append_right _ hp | refine List.Mem.tail _ ?_)))) hps1' hps' hod' ?_ ?_ (by omega) (fun z => hb10 (hb6 (AllBare.push z rfl)))
    · have eo : outRows rows app = (1001, .s app) :: rows := by
        refine if_neg fun z => e ?_
        cases rows with
        | nil => exact absurd rfl hne
        | cons r rs => exact Option.some.inj z
      rw [eo]
      exact TagsIn.cons (r := (1001, .s app)) (List.Mem.tail _ (List.Mem.head _)) (List.Mem.tail _ (List.Mem.tail _ (List.Mem.head _))) (DatIn.str _ _) (hT6.mono fun p hp => List.Mem.tail _ (List.Mem.tail _ (List.Mem.tail _ (List.Mem.tail _ (List.Mem.tail _ (List.Mem.tail _ hp))))))
    · intro p hp
      rcases List.mem_cons.mp hp with rfl | hp
      · exact ⟨by show top _ ≤ dx'; omega, by show @Ne Nat dx' x'; omega⟩
      rcases List.mem_cons.mp hp with rfl | hp
      · exact ⟨by show top _ ≤ y; omega, by show @Ne Nat y x'; omega⟩
      rcases List.mem_cons.mp hp with rfl | hp
      · exact ⟨by show top _ ≤ dy; omega, by show @Ne Nat dy x'; omega⟩
      rcases List.mem_cons.mp hp with rfl | hp
      · exact ⟨by show top _ ≤ D8; omega, by show @Ne Nat D8 x'; omega⟩
      rcases List.mem_cons.mp hp with rfl | hp
      · exact ⟨by show top _ ≤ x; omega, by show @Ne Nat x x'; omega⟩
      rcases List.mem_cons.mp hp with rfl | hp
      · exact ⟨by show top _ ≤ dx; omega, by show @Ne Nat dx x'; omega⟩
      · have h3 := hxge p hp
        have h4 : @LT.lt Nat _ p.1 dx' := hlx'.lt p (List.Mem.tail _ (List.Mem.tail _ (List.Mem.tail _ (List.Mem.tail _ (List.Mem.tail _ (List.Mem.tail _ (List.Mem.tail _ (List.Mem.tail _ (List.mem_append_left _ hp)))))))))
        exact ⟨by omega, by show @Ne Nat p.1 x'; omega⟩
end

/- part MGet -/
end
end
theorem fresh_MGet : True ∧ True := by
  w_top off
  first
    | (walk1; done)
    | exact ⟨True.intro, True.intro⟩
section
section
variable {prog : Program} {w : World} {A : Around} {E : Value → Shared → Prop} {s : Shared} {h₀ : Heap} {L d : Addr} {m : Str → Option Value} {news : List (Addr × Obj)} {od : Obj} {kvs : List (Str × Value)}
theorem dcontains {x : Str} {t : Tok} {Q : Bool → Shared → Prop} (N : News h₀ L s.heap news) (hm : (d, od) ∈ news) (hod : od.IsDictOf (strKind prog w) kvs) (hlt : @LT.lt Nat _ 100 d) (h : Q (valueAt kvs x).isSome { s with toks := s.toks + 1 }) :
    wpAny (model prog w) A (contains (.ref d) (.str x t)) Q E s := by
  have hD : s.heap.DictOf (strKind prog w) d kvs := Heap.dictOf_iff.mpr ⟨od, (N _ hm).1, hod⟩
  have hm' := hD.mapOf
  have hkey := strKind_is prog w x t
  have hd : (d == sysModules) = false := beq_eq_false_iff_ne.mpr (Nat.ne_of_gt (Nat.lt_trans (by decide) hlt))
  unfold contains
  try with_reducible refine wpAny_holding ?_
  refine wpAny_bind (wpAny_specialOf hm'.typeIs slot_dict_contains.lookup ?_)
  show wpAny _ _ (if (some (Value.builtin "dict.__contains__") == some Value.none) = true then _ else _) _ E s
  rw [if_neg (by rw [beq_builtin_none]; exact Bool.false_ne_true)]
  refine wpAny_bind (wpAny_callSpecialUnlessNone?_slot (name := Str.ofString "__contains__") hm'.typeIs slot_dict_contains
    (wpAny_call_entry slot_dict_contains hm'.typeIs entry_dict_contains ?_ (args_dict_contains _ _)))
  show wpAny _ _ (dictGet d (.str x t) >>= _) _ _ s
  refine wpAny_bind (wpAny_dictGet_of hkey hm' ?_)
  cases hf : valueAt kvs x with
  | some v =>
    rw [hf] at h
    show wpAny _ _ (ret (.bool true)) _ _ _
    exact wpAny_pure ⟨_, rfl, wpAny_truthy_bool h⟩
  | none =>
    rw [hf] at h
    show wpAny _ _ (Builtin.Dict.pendingKey? d (.str x t) >>= _) _ _ _
    exact wpAny_bind (wpAny_pendingKey_other hd (wpAny_pure ⟨_, rfl, wpAny_truthy_bool h⟩))
theorem din {x : Str} {t : Tok} {Q : Value → Shared → Prop} (N : News h₀ L s.heap news) (hm : (d, od) ∈ news) (hod : od.IsDictOf (strKind prog w) kvs) (hd : @LT.lt Nat _ 100 d) (h : Q (.bool (valueAt kvs x).isSome) { s with toks := s.toks + 1 }) :
    wpAny (model prog w) A (compareOp .In (.str x t) (.ref d)) Q E s := by
  show wpAny _ _ (do return .bool (← contains (.ref d) (.str x t))) Q E s
  exact wpAny_bind (dcontains N hm hod hd (wpAny_pure h))
theorem dnotin {x : Str} {t : Tok} {Q : Value → Shared → Prop} (N : News h₀ L s.heap news) (hm : (d, od) ∈ news) (hod : od.IsDictOf (strKind prog w) kvs) (hd : @LT.lt Nat _ 100 d) (h : Q (.bool (!(valueAt kvs x).isSome)) { s with toks := s.toks + 1 }) :
    wpAny (model prog w) A (compareOp .NotIn (.str x t) (.ref d)) Q E s := by
  show wpAny _ _ (do return .bool (!(← contains (.ref d) (.str x t)))) Q E s
  exact wpAny_bind (dcontains N hm hod hd (wpAny_pure h))
theorem dget {x : Str} {t : Tok} {v : Value} {Q : Value → Shared → Prop} (N : News h₀ L s.heap news) (hm : (d, od) ∈ news) (hod : od.IsDictOf (strKind prog w) kvs) (hv : valueAt kvs x = some v) (h : Q v { s with toks := s.toks + 1 }) :
    wpAny (model prog w) A (getItem (.ref d) (.str x t)) Q E s := by
  have hD : s.heap.DictOf (strKind prog w) d kvs := Heap.dictOf_iff.mpr ⟨od, (N _ hm).1, hod⟩
  exact wpAny_getItem_of (strKind_is prog w x t) hD.mapOf hv h
theorem dsub {value slice : PySem.Expr} {x : Str} {t : Tok} {v : Value} {Q : Value → Shared → Prop} (N : News h₀ L s.heap news) (hm : (d, od) ∈ news) (hod : od.IsDictOf (strKind prog w) kvs) (hv : valueAt kvs x = some v) (h : Q v { s with toks := s.toks + 1 })
    (hs : subscripted slice false (.ref d) (.str x t) = operate [.ref d, .str x t] (getItem (.ref d) (.str x t)) := by with_unfolding_all rfl) :
    wpAny (model prog w) A (subscriptTail value slice (.ref d) (.str x t)) Q E s := by
  have hD : s.heap.DictOf (strKind prog w) d kvs := Heap.dictOf_iff.mpr ⟨od, (N _ hm).1, hod⟩
  exact tail_any hD.typeIs slot_dict_getitem.lookup (dget N hm hod hv h) hs
end
local macro_rules | `(tactic| walk_at "compareOp In str ref") => `(tactic| (k_here; k_dflt (refine' din ?N ?a ?b ?c ?_; (case N => k_asm); (case a => k_mem); (case b => with_reducible assumption); (case c => with_reducible assumption); k_whole)))
set_option maxHeartbeats 800000 in
theorem get_spec {w : World} {A A₀ : Around} {s : Shared} {base h₀ : Heap} {outer : List Env} {env : Env} {L : Addr} {m mg mb : Str → Option Value} {p₀ : Program} {loose : List Str} {news : List (Addr × Obj)} {E : Value → Shared → Prop} {Q : Value → Shared → Prop} {xo xd d : Addr} {od : Obj} {tkx ta : Tok} {nx : Nat} {kvs : List (Str × Value)} {app : Str} {y : Addr} (cx : Cx w A A₀ base h₀ outer env L mg mb p₀ loose) (F : Fr h₀ L s.heap m) (N : News h₀ L s.heap news) (hr : A.depth + 20 < recursionLimit) (hu : A.units + 100 < cLine)
    (hx : (xo, instObj 525 xd) ∈ news) (hxd : (xd, xAttrs w tkx d nx) ∈ news) (hdm : (d, od) ∈ news) (hod : od.IsDictOf (strKind Challenge.rw_fy0015_01.row.toRowW.1 w) kvs) (hd : @LT.lt Nat _ 100 d) (hv : valueAt kvs app = some (.ref y))
    (h : ∀ h' tk, Fr h₀ L h' m → News h₀ L h' news → Q (.ref y) { s with heap := h', toks := tk }) :
    wpAny (model Challenge.rw_fy0015_01.row.toRowW.1 w) A (call (.ref 480) [.ref xo, .str app ta]) Q E s := by
  obtain ⟨B, X₀, T, hh, hA, hf, hk⟩ := cx
  revert X₀
  k_fill
  intro X₀
  obtain ⟨_, _, _, _, _⟩ := A
  obtain ⟨⟨_, _, _, _, _⟩, _, _, _, _, _, _, _, _⟩ := env
  dsimp only at hA hf hk hh hr hu
  subst hA hf hk hh
  have hsm : (valueAt kvs app).isSome = true := by rw [hv]; rfl
  refine wpAny_call ?_
  k_enter
  k_steps
  rename_i g1 L1 h1 FG1 F1 N1 B1 X1 T1 l1 hlt1
  refine dsub N1 hdm hod hv ?_
  k_steps
  exact h _ _ (by assumption) (by assumption)
end

/- part MRaise -/
section
section
variable {prog : Program} {w : World} {A : Around} {E : Value → Shared → Prop} {s : Shared} {K : Frag} {name : Str} {scope : Scope} {L a C : Addr} {cd : Value} {h₀ : Heap} {m mg mb : Str → Option Value} {p : Program} {loose : List Str} {x : Str} {B newId initId : String} {bm : List Value} {np pos : Pos} {Q : Flow → Shared → Prop}
theorem isType_K {A : Around} {E : Value → Shared → Prop} {Qb : Bool → Shared → Prop} {s : Shared} {cdt : ClassData} (X : K.In s.heap) (hcl : clsIn K C = some cdt) (h : Qb true s) : wpAny (model prog w) A (isType (.ref C)) Qb E s := by
  unfold clsIn at hcl
  split at hcl
  · rename_i ho
    cases hcl
    simp only [isType, loadHead]
    exact wpAny_bind (wpAny_loadPart (X _ _ ho) (wpAny_pure h))
  · cases hcl
/-- raise C, C an exception class of the text's own, without a call -/
theorem Raise_clsK {cdt : ClassData} (F : Fr h₀ L s.heap m) (X₀ : K.In h₀) (TR : TopRead p loose mg mb h₀) (ex : nsIn K mainGlobals x = some (some (.ref C))) (q : excIn K C bm newId = true) (FB : ExcBaseFacts B newId initId bm) (hh : A.handled = none)
    (hb : mroIn K C (.type "BaseException") = some true) (hs : mroIn K C (.ref C) = some true) (ht : typeIn K (.ref C) = some (.type "type")) (hcl : clsIn K C = some cdt)
    (h : ∀ h' e, Heap.MadeExcOf s.heap h' e (.ref C) [] → E (.ref e) { s with heap := h' })
    (hk : scope.kind = .function := by rfl) (hx : (envOf name scope L a cd).kindOf x = some .globalImplicit := by rfl) (hd : (x == ("__debug__" : Str)) = false := by decide) :
    wpAny (model prog w) A (exec (.Raise (some (.Name x np)) none pos) (envOf name scope L a cd)) Q E s := by
  have X := X₀.keeps F.keep
  have O := own_of_in X₀ TR ex q
  obtain ⟨tl, Nn, nm, qn, bs, hdct, sn, sub, ab, col, dd, k0, k1, k2, k3, k5, mN, hC, hN, hni, T⟩ := (O.keeps F.keep).obj
  show wpAny (model prog w) A (do standAt pos; raiseStmt (envOf name scope L a cd) (some (do let v ← eval (.Name x np) (envOf name scope L a cd); standAt pos; pure v)) none) Q E s
  refine wpAny_bind (wpAny_standAt ?_)
  unfold raiseStmt
  dsimp only
  refine wpAny_bind (wpAny_bind (ld_own F TR.g O (wpAny_bind (wpAny_standAt (wpAny_pure ?_))) hk hx hd))
  refine wpAny_bind (wpAny_pure ?_)
  dsimp only
  refine wpAny_bind (wpAny_holding ?_)
  unfold excFromValue isExcClass
  refine wpAny_bind (wpAny_bind (isType_K X hcl ?_))
  simp only [if_true]
  refine (looks_mroIn X hb).here ?_
  simp only [if_true]
  obtain ⟨hp, g, d, tk, os⟩ := s
  refine wpAny_bind (wpAny_call_exc_subT FB T hC hN hni fun h' e hm => ?_)
  have X' := X.keeps hm.keeps
  obtain ⟨t, ht', htn, htt⟩ := hm.there
  have tye : Looks (model prog w) h' (typeOf (.ref e)) (.ref C) := (Looks.ld ht').andThen .now
  have tyb : Looks (model prog w) h' (isInstance (.ref e) (.type "BaseException")) true := tye.andThen (looks_mroIn X' hb)
  refine wpAny_bind (tyb.here ?_)
  simp only [Bool.not_true, Bool.false_eq_true, if_false]
  refine wpAny_pure ?_
  refine wpAny_bind (isType_K X' hcl ?_)
  simp only [if_true]
  refine wpAny_bind (wpAny_holding ?_)
  unfold raisedFor
  simp only [Bool.false_eq_true, if_false]
  refine wpAny_bind (tye.here ?_)
  have one : ∀ Qv : Value → Shared → Prop, Qv (.bool true) ⟨h', g, d, tk, os⟩ → wpAny (model prog w) A (call (.builtin "issubclass") [.ref C, .ref C]) Qv E ⟨h', g, d, tk, os⟩ := by
    intro Qv hq
    refine call_function_tree PySem.F.kind_issubclass PySem.F.plain_issubclass PySem.F.entry_issubclass (PySem.F.args_issubclass_2 _ _) ?_
    refine issubclass_outer ?_
    unfold Builtin.«issubclass.nested»
    refine wpAny_bind ((looks_typeIn X' ht).here ?_)
    simp only [beq_self_eq_true, if_true]
    refine wpAny_bind ?_
    show wpAny _ _ (isType (Value.ref C) >>= _) _ _ _
    refine wpAny_bind (isType_K X' hcl ?_)
    refine wpAny_bind (isType_K X' hcl ?_)
    simp only [Bool.and_self, if_true]
    refine (looks_mroIn X' hs).here ?_
    exact wpAny_pure hq
  refine wpAny_bind (one _ (wpAny_bind (wpAny_truthy_bool ?_)))
  simp only [if_true]
  refine wpAny_pure ?_
  unfold setFlight raiseNew
  refine wpAny_bind (wpAny_bind (wpAny_field (i := 1) (x := Value.none) ht' rfl rfl ?_))
  rw [if_neg (by decide)]
  refine wpAny_pure (wpAny_bind (wpAny_handled ?_))
  rw [hh]
  first
    | exact wpAny_throw (h h' e hm)
    | exact wpAny_bind (wpAny_pure (wpAny_throw (h h' e hm)))
end
end

/- part MCtx -/
section
/-! An exception on its way of which the context field is known to be empty: what `raise` inside an except clause reads. -/
section
variable {M : Model} {A : Around} {E : Value → Shared → Prop} {s : Shared}
/-- the record e: class, args, traceback T (in flight to fl), no context -/
def TrC (h base : Heap) (e : Addr) (cls a0 fl : Value) : Prop :=
  ∃ oe vs T oT ts, h.get? e = some oe ∧ (oe.cls = cls ∧ vs[0]? = some a0 ∧ vs[2]? = some .none) ∧ oe.data = .fields vs ∧ vs[1]? = some (.ref T) ∧ base.get? T = none ∧ T ≠ e ∧ h.get? T = some oT ∧ oT.data = .fields ts ∧ ts[3]? = some fl
theorem TrC.w {h base : Heap} {e : Addr} {cls a0 fl : Value} (x : TrC h base e cls a0 fl) : h.TracedAtW base e cls a0 fl := by
  obtain ⟨oe, vs, T, oT, ts, he, hc, r⟩ := x
  exact ⟨oe, vs, T, oT, ts, he, ⟨hc.1, hc.2.1⟩, r⟩
theorem TrC.ctx {h base : Heap} {e : Addr} {cls a0 fl : Value} (x : TrC h base e cls a0 fl) : ∃ oe vs, h.get? e = some oe ∧ oe.data = .fields vs ∧ vs[2]? = some .none := by
  obtain ⟨oe, vs, T, oT, ts, he, hc, hd, _⟩ := x
  exact ⟨oe, vs, he, hd, hc.2.2⟩
def FlC (base : Heap) (l : List Env) (e : Addr) (cls a0 fl : Value) (h : Heap) : Prop := base.StaysIn h ∧ base.get? e = none ∧ h.FunFrames base l ∧ TrC h base e cls a0 fl
theorem FlC.flying {base h : Heap} {l : List Env} {e : Addr} {cls a0 : Value} (x : FlC base l e cls a0 .none h) : Heap.FlyingW base l e cls a0 h := ⟨x.1, x.2.1, x.2.2.1, x.2.2.2.w⟩
theorem FlC.inner {base h : Heap} {env : Env} {l : List Env} {e : Addr} {cls a0 fl : Value} (x : FlC base (env :: l) e cls a0 fl h) : FlC base l e cls a0 fl h := ⟨x.1, x.2.1, x.2.2.1.2.2, x.2.2.2⟩
/-- the entry that a frame writes into the exception's traceback -/
theorem entryC {base : Heap} {env : Env} {outer : List Env} {L e : Addr} {oe : Obj} {vs : Array Value} {head a0 : Value} {hadNext : Bool} {Q : Unit → Shared → Prop}
    (hfr : A.frames = some (env :: outer)) (hl : s.heap.FunFrames base (env :: outer)) (hf : env.frame = some L)
    (he : s.heap.get? e = some oe) (hkb : base.StaysIn s.heap) (hen : base.get? e = none) (hdt : oe.data = .fields vs) (hsz : 1 < vs.size) (h0 : vs[0]? = some a0) (h2 : vs[2]? = some .none)
    (h : ∀ h', FlC base (env :: outer) e oe.cls a0 (rawInt L) h' → s.heap.UpToSlots h' → Q () { s with heap := h' }) :
    wpAny M A (do let a ← frameOf env; let pl ← entryPlaceOf L hadNext; let b ← EntryCells.newEntry head a .none (rawInt L) .none pl; setField (.ref e) 1 b) Q E s := by
  have nf : e ∉ (env :: outer).filterMap (·.frame) := fun hm => by
    obtain ⟨_, o, ho, hnf⟩ := hl.mem hm
    rw [he] at ho
    cases ho
    exact hnf vs hdt
  refine wpAny_bind (wpAny_frameOf_fun hfr hl hf fun h₁ S => ?_)
  obtain ⟨_, So, Ss⟩ := S
  refine wpAny_bind (wpAny_entryPlaceOf fun pl hpl => ?_)
  unfold EntryCells.newEntry newFields
  refine wpAny_bind (wpAny_newObj_type ?_ (hpl.sizeOk5 _ _ _ _ _))
  have e1 : h₁.get? e = some oe := (So e nf).trans he
  have st1 : base.StaysIn h₁ := fun b o hb => (So b fun hm => by rw [(hl.mem hm).1] at hb; cases hb).trans (hkb b o hb)
  generalize hw : ([head, .ref L, .none, rawInt L, .none] ++ (if pl.isEmpty then List.replicate 6 Value.none else pl)).toArray = ws
  have hw3 : ws[3]? = some (rawInt L) := by
    rw [← hw]
    simp
  have ne : h₁.objs.size ≠ e := Nat.ne_of_gt (Heap.lt_size e1)
  have hd2 := Obj.data_mapFields hdt (·.setIfInBounds 1 (Value.ref h₁.objs.size))
  refine wpAny_setField (Heap.get?_push_of_some _ e1) hdt hsz (h _ ?_ ?_)
  · refine ⟨fun b o hb => ?_, hen, hl.of_keeps fun b o hb hnf => ?_, ?_⟩
    · rw [Heap.get?_update_other _ _ (fun z => by rw [← z, hen] at hb; cases hb)]
      exact Heap.get?_push_of_some _ (st1 b o hb)
    · obtain ⟨sl, hs⟩ := Ss b o hb
      refine ⟨{ o with slots := sl }, ?_, rfl⟩
      rw [Heap.get?_update_other _ _ (fun z => by rw [← z, he] at hb; cases hb; exact hnf vs hdt)]
      exact Heap.get?_push_of_some _ hs
    · refine ⟨_, _, h₁.objs.size, { cls := .type "traceback", dict := none, data := .fields ws }, ws, Heap.get?_update_self _ (Heap.get?_push_of_some _ e1) (Obj.isFreed_of_fields hd2), ⟨Obj.cls_mapFields _ _, ?_, ?_⟩, hd2, by simp [hsz], st1.fresh, ne, ?_, rfl, hw3⟩
      · rw [Array.getElem?_setIfInBounds_ne (by decide)]; exact h0
      · rw [Array.getElem?_setIfInBounds_ne (by decide)]; exact h2
      · rw [Heap.get?_update_other _ _ (Ne.symm ne)]
        exact Heap.get?_push_size h₁ rfl
  · intro b o hb hnf
    obtain ⟨sl, hs⟩ := Ss b o hb
    refine ⟨sl, ?_⟩
    rw [Heap.get?_update_other _ _ (fun z => by rw [← z, he] at hb; cases hb; exact hnf vs hdt)]
    exact Heap.get?_push_of_some _ hs
/-- setting field 3 of the traceback -/
theorem flightC {base : Heap} {l : List Env} {e : Addr} {cls a0 fl : Value} {Q : Unit → Shared → Prop} (x : FlC base l e cls a0 fl s.heap)
    (h : ∀ h', FlC base l e cls a0 .none h' → s.heap.UpToSlots h' → Q () { s with heap := h' }) : wpAny M A (setFlight (.ref e) none) Q E s := by
  obtain ⟨st, hen, hl, oe, vs, T, oT, ts, he, hc, hdt, h1, hnT, ne, hT, hdT, h3⟩ := x
  have oth : ∀ b o, s.heap.get? b = some o → b ≠ T → (s.heap.update T (Obj.mapFields (·.setIfInBounds 3 Value.none))).get? b = some o := fun b o hb hn => (Heap.get?_update_other _ _ (Ne.symm hn)).trans hb
  have nr : ∀ b o, s.heap.get? b = some o → (∀ vs, o.data ≠ .fields vs) → b ≠ T := fun b o hb hnf z => by rw [z, hT] at hb; cases hb; exact hnf ts hdT
  have h3s := (Array.getElem?_eq_some_iff.mp h3).1
  unfold setFlight
  refine wpAny_bind (wpAny_field he hdt h1 ?_)
  rw [if_pos (show (Value.ref T != Value.none) = true by simp)]
  refine wpAny_setField hT hdT h3s (h _ ⟨fun b o hb => oth b o (st b o hb) (fun z => by rw [z, hnT] at hb; cases hb), hen, hl.of_keeps fun b o hb hnf => ⟨o, oth b o hb (nr b o hb hnf), rfl⟩, ?_⟩ fun b o hb hnf => ⟨o.slots, oth b o hb (nr b o hb hnf)⟩)
  exact ⟨oe, vs, T, _, _, oth e oe he (Ne.symm ne), hc, hdt, h1, hnT, ne, Heap.get?_update_self _ hT (Obj.isFreed_of_fields (Obj.data_mapFields hdT _)), Obj.data_mapFields hdT _, by simp [h3s]⟩
theorem note1C {base : Heap} {env : Env} {outer : List Env} {L e : Addr} {oe : Obj} {vs : Array Value} {a0 : Value} {Q : Unit → Shared → Prop}
    (hfr : A.frames = some (env :: outer)) (hl : s.heap.FunFrames base (env :: outer)) (hf : env.frame = some L)
    (he : s.heap.get? e = some oe) (hkb : base.StaysIn s.heap) (hen : base.get? e = none) (hdt : oe.data = .fields vs) (h1 : vs[1]? = some .none) (h0 : vs[0]? = some a0) (h2 : vs[2]? = some .none)
    (h : ∀ h', FlC base (env :: outer) e oe.cls a0 (rawInt L) h' → s.heap.UpToSlots h' → Q () { s with heap := h' }) : wpAny M A (noteFrame (.ref e) env) Q E s := by
  unfold noteFrame
  simp only [hf]
  refine wpAny_bind (wpAny_field he hdt h1 ?_)
  rw [if_neg (by decide)]
  exact entryC hfr hl hf he hkb hen hdt (Array.getElem?_eq_some_iff.mp h1).1 h0 h2 h
theorem noteC {base : Heap} {env : Env} {outer : List Env} {L e : Addr} {cls a0 : Value} {Q : Unit → Shared → Prop} (hfr : A.frames = some (env :: outer)) (hf : env.frame = some L) (x : FlC base (env :: outer) e cls a0 .none s.heap)
    (h : ∀ h', FlC base (env :: outer) e cls a0 (rawInt L) h' → s.heap.UpToSlots h' → Q () { s with heap := h' }) : wpAny M A (noteFrame (.ref e) env) Q E s := by
  obtain ⟨st, hen, hl, oe, vs, T, oT, ts, he, ⟨rfl, h0, h2⟩, hdt, h1, hnT, ne, hT, hdT, h3⟩ := x
  have oth : ∀ b o, s.heap.get? b = some o → b ≠ T → (s.heap.update T (Obj.mapFields (·.setIfInBounds 3 Value.none))).get? b = some o := fun b o hb hn => (Heap.get?_update_other _ _ (Ne.symm hn)).trans hb
  have nr : ∀ b o, s.heap.get? b = some o → (∀ vs, o.data ≠ .fields vs) → b ≠ T := fun b o hb hnf z => by rw [z, hT] at hb; cases hb; exact hnf ts hdT
  unfold noteFrame
  simp only [hf]
  refine wpAny_bind (wpAny_field he hdt h1 ?_)
  rw [if_pos (show (Value.ref T != Value.none) = true by simp)]
  refine wpAny_bind (wpAny_field hT hdT h3 ?_)
  rw [if_neg (show ¬ ((Value.none == rawInt L) = true) by simp [rawInt])]
  refine wpAny_bind (wpAny_setField hT hdT (Array.getElem?_eq_some_iff.mp h3).1 ?_)
  refine entryC hfr (hl.of_keeps fun b o hb hnf => ⟨o, oth b o hb (nr b o hb hnf), rfl⟩) hf (oth e oe he (Ne.symm ne)) (fun b o hb => oth b o (st b o hb) fun z => by rw [z, hnT] at hb; cases hb) hen hdt (Array.getElem?_eq_some_iff.mp h1).1 h0 h2 fun h' f u => ?_
  exact h h' f fun b o hb hnf => u b o (oth b o hb (nr b o hb hnf)) hnf
end
/-- RaisedS, with the context known to be empty -/
def RaisedC (base G : Heap) (l : List Env) (e : Addr) (cls : Value) (t : Addr) (vs : List Value) (news : List (Addr × Obj)) (h : Heap) : Prop :=
  (∃ B, base.StaysIn B ∧ (∀ b o, G.get? b = some o → b ∉ l.filterMap (·.frame) → B.get? b = some o) ∧ (∀ q ∈ news, B.get? q.1 = some q.2 ∧ G.get? q.1 = none ∧ base.get? q.1 = none) ∧ FlC B l e cls (.ref t) .none h ∧ B.get? t = none) ∧ h.TupAt t vs
theorem RaisedC.s {base G : Heap} {l : List Env} {e t : Addr} {cls : Value} {vs : List Value} {news : List (Addr × Obj)} {h : Heap} (R : RaisedC base G l e cls t vs news h) : RaisedS base G l e cls t vs news h := by
  obtain ⟨⟨B, a, b, c, d, f⟩, g⟩ := R
  exact ⟨⟨B, a, b, c, d.flying, f⟩, g⟩
section
variable {M : Model} {A : Around} {E : Value → Shared → Prop} {s' : Shared} {base g g₂ h : Heap} {outer : List Env} {L a e t : Addr} {m : Str → Option Value} {name : Str} {scope : Scope} {cd : Value} {Q : Unit → Shared → Prop} {news : List (Addr × Obj)}
theorem leave_raiseC {cls : Value} {vs : List Value} (K : Below A base outer g) (hx : Heap.MadeExcOf h s'.heap e cls vs) (F : Fr g L h m) (N : News g L h news)
    (hQ : ∀ h' t, RaisedC base g outer e cls t vs news h' → g.UpToSlots h' → Q () { s' with heap := h' }) (hk : scope.kind = .function := by rfl) :
    wpAny M (A.deeper (envOf name scope L a cd)) (leaving (envOf name scope L a cd) (.ref e)) Q E s' := by
  have K' := K.push (name := name) (a := a) (cd := cd) F hk
  have hin : ∀ env ∈ (envOf name scope L a cd :: outer), ∀ b, env.frame = some b → b ∈ (envOf name scope L a cd :: outer).filterMap (·.frame) := fun env he b hb => List.mem_filterMap.mpr ⟨env, he, hb⟩
  have st : base.StaysIn (hideAll h ((envOf name scope L a cd :: outer).filterMap (·.frame))) := fun b o q => hideAll_get _ (K'.stays b o q) fun hm => by
    rw [(K'.frames.mem hm).1] at q; cases q
  have sg : ∀ b o, g.get? b = some o → b ∉ outer.filterMap (·.frame) → (hideAll h ((envOf name scope L a cd :: outer).filterMap (·.frame))).get? b = some o := fun b o q nm => hideAll_get _ (F.keep b o q) fun hm => by
    rcases kts_mem hm with z | z
    · rw [z, kts_self F] at q
      cases q
    · exact nm z
  have hl : ∀ q ∈ news, (hideAll h ((envOf name scope L a cd :: outer).filterMap (·.frame))).get? q.1 = some q.2 ∧ g.get? q.1 = none ∧ base.get? q.1 = none := fun q hq => by
    refine ⟨hideAll_get _ (N q hq).1 fun hm => ?_, (N q hq).2.2, fresh_of_stays K.stays (N q hq).2.2⟩
    obtain ⟨env, he, hf⟩ := List.mem_filterMap.mp hm
    rcases List.mem_cons.mp he with rfl | he
    · exact (N q hq).2.1 (Option.some.inj hf).symm
    · obtain ⟨o, ho, _⟩ := (K.frames.mem (List.mem_filterMap.mpr ⟨env, he, hf⟩)).2
      rw [(N q hq).2.2] at ho; cases ho
  obtain ⟨t, he, htn, ht⟩ := hx.there
  have fr2 : ∀ b, h.get? b = none → (hideAll h ((envOf name scope L a cd :: outer).filterMap (·.frame))).get? b = none := fun b hb => by
    cases q : (hideAll h ((envOf name scope L a cd :: outer).filterMap (·.frame))).get? b with
    | none => rfl
    | some o => have := of_hideAll _ q; rw [hb] at this; cases this
  unfold leaving
  refine wpAny_bind (note1C (a0 := .ref t) K'.stack ((funFrames_hide K'.frames hin).of_keeps fun b o hb _ => ⟨o, hx.keeps b o hb, rfl⟩) rfl he (fun b o hb => hx.keeps b o (of_hideAll _ hb)) (fr2 e hx.new) rfl rfl rfl rfl fun h1 f1 u1 => ?_)
  refine flightC f1 fun h2 f2 u2 => ?_
  have k4 := u1.trans u2
  exact hQ h2 t ⟨⟨_, st, sg, hl, f2.inner, fr2 t htn⟩, Heap.TupAt.of_slots ⟨_, _, ht, rfl, rfl⟩ k4⟩ (((Heap.UpToSlots.of_keeps F.keep).trans (Heap.UpToSlots.of_keeps hx.keeps)).trans k4)
theorem leave_onC {cls : Value} {vs : List Value} (K : Below A base outer g) (F : Fr g L g₂ m) (R : RaisedC base g₂ (envOf name scope L a cd :: outer) e cls t vs news s'.heap) (hsm : g₂.UpToSlots s'.heap)
    (hQ : ∀ h', RaisedC base g outer e cls t vs news h' → g.UpToSlots h' → Q () { s' with heap := h' }) :
    wpAny M (A.deeper (envOf name scope L a cd)) (leaving (envOf name scope L a cd) (.ref e)) Q E s' := by
  obtain ⟨⟨B, hB, hBG, hl, hfl, hnew⟩, htup⟩ := R
  unfold leaving
  refine wpAny_bind (noteC (Around.frames_deeper K.stack) rfl hfl fun h1 f1 u1 => ?_)
  refine flightC f1 fun h2 f2 u2 => ?_
  refine hQ h2 ⟨⟨B, hB, fun b o q nm => hBG b o (F.keep b o q) (fun hm => ?_), fun q hq => ⟨(hl q hq).1, kts_none F.keep (hl q hq).2.1, (hl q hq).2.2⟩, f2.inner, hnew⟩, htup.of_slots (u1.trans u2)⟩ ((Heap.UpToSlots.of_keeps F.keep).trans (hsm.trans (u1.trans u2)))
  rcases kts_mem hm with z | z
  · rw [z, kts_self F] at q
    cases q
  · exact nm z
end
section
variable {prog : Program} {w : World} {A₀ : Around} {E : Value → Shared → Prop} {s' : Shared} {base g g₀ G : Heap} {outer : List Env} {L a e t C : Addr} {m : Str → Option Value} {name : Str} {scope : Scope} {cd : Value}
  {vs : List Value} {b₀ : Stmt} {suite : List Stmt} {pos np : Pos} {rest : List ExceptHandler} {Q : Flow → Shared → Prop} {news : List (Addr × Obj)} {KF : Frag}
  {p : Program} {loose : List Str} {mean : ExcName → Option Value} {mg mb : Str → Option Value} {x : Str}
/-- `except C:` catches it; the handler sees an exception without context -/
theorem caughtC (R : RaisedC base G (envOf name scope L a cd :: outer) e (.ref C) t vs news s'.heap) (F : Fr g L G m) (K : Below A₀ base outer g) (hsm : G.UpToSlots s'.heap) (XB : KF.In base) (TB : Top p loose mean mg mb base)
    (D : KtsDicts (outer.filterMap (·.frame)) g) (T0 : KtsTurn (outer.filterMap (·.frame)) g₀ g) (ex : nsIn KF mainGlobals x = some (some (.ref C))) (q : ktsIn KF C "BaseException" = true)
    (k : ∀ h' g', KtsTurn (outer.filterMap (·.frame)) g₀ g' → Fr g' L h' m → (∃ oe ws, News g' L h' ((e, oe) :: news) ∧ oe.data = .fields ws ∧ ws[2]? = some .none) → Below A₀ base outer g' → KF.In g' → Top p loose mean mg mb g' → KtsDicts (outer.filterMap (·.frame)) g' →
      wpAny (model prog w) ((A₀.deeper (envOf name scope L a cd)).mark (some (.ref e))) (execs (b₀ :: suite) (envOf name scope L a cd)) Q E { s' with heap := h' })
    (hE : PassesOwnAt (model prog w) ((A₀.deeper (envOf name scope L a cd)).mark (some (.ref e))) (A₀.deeper (envOf name scope L a cd)) (envOf name scope L a cd) E)
    (hk : scope.kind = .function := by rfl) (hx : (envOf name scope L a cd).kindOf x = some .globalImplicit := by rfl) (hdb : (x == ("__debug__" : Str)) = false := by decide) :
    wpAny (model prog w) (A₀.deeper (envOf name scope L a cd)) (noteFrame (.ref e) (envOf name scope L a cd))
      (fun _ s₂ => wpAny (model prog w) (A₀.deeper (envOf name scope L a cd)) (setFlight (.ref e) none) (fun _ s₃ =>
        wpAny (model prog w) (A₀.deeper (envOf name scope L a cd)) (handleBy (.ref e) (envOf name scope L a cd) (.ExceptHandler (some (.Name x np)) none (b₀ :: suite) pos :: rest)) Q E s₃) E s₂) E s' := by
  obtain ⟨⟨B, hB, hBG, hl, hfl, hnew⟩, htup⟩ := R
  have hL : B.get? L = none := by
    obtain ⟨_, ⟨L', _, hf, hn', _⟩, _⟩ := hfl.2.2.1
    obtain rfl : L = L' := Option.some.inj hf
    exact hn'
  refine noteC (Around.frames_deeper K.stack) rfl hfl fun h4 f4 u4 => ?_
  refine flightC f4 fun h5 f5 u5' => ?_
  have u5 := u4.trans u5'
  obtain ⟨g5, T5, F5, K5⟩ := kts_ground K F hBG f5.1 (hsm.trans u5)
  have X5 : KF.In g5 := XB.keeps K5.stays
  have P5 : TopRead p loose mg mb g5 := topRead_of (TB.keeps K5.stays)
  obtain ⟨ob, hob, hobc⟩ := f5.flying.there
  obtain ⟨nm, q', Nn, bs, bm, hdct, sn, sub, ab, col, dd, k0, k1, k2, k3, k5, newId, hC, hbase, hbT⟩ := kts_cls X5 q
  have hC5 := F5.keep _ _ hC
  refine wpAny_handleBy_cons (codeAny_handlers_test (name_K F5 X5 P5 ex ?_ hk hx hdb)) (by intro q; cases q)
  refine wpAny_excMatches_sub_self hC5 hob hobc hbase (codeAny_handlers_suite ?_)
  refine flightC f5 fun h6 f6 u6' => ?_
  have u6 := u5.trans u6'
  obtain ⟨g6, T6, F6, K6⟩ := kts_ground K F hBG f6.1 (hsm.trans u6)
  have Nl : News g6 L h6 news := fun q hq => ⟨f6.1 _ _ (hl q hq).1, (fun z => by have := (hl q hq).1; rw [z, hL] at this; cases this), T6.none_ _ (kts_none F.keep (hl q hq).2.1)⟩
  obtain ⟨oe, ws, hoe, hoed, ho2⟩ := f6.2.2.2.ctx
  have ne6 : g6.get? e = none := T6.none_ _ (kts_fresh F hBG f6.2.1 fun o ho hm => by
    obtain ⟨_, o', ho', hnf⟩ := K.frames.mem hm
    rw [ho] at ho'
    cases ho'
    obtain ⟨sl, hs⟩ := (hsm.trans u6) _ _ (F.keep _ _ ho) hnf
    rw [hoe] at hs
    cases hs
    exact hnf _ hoed)
  exact wpAny_passesOwnAt hE (k h6 g6 (T0.trans T6) F6 ⟨oe, ws, News.more F6 Nl hoe (fun es n q => by rw [hoed] at q; cases q) ne6, hoed, ho2⟩ K6 (XB.keeps K6.stays) (TB.keeps K6.stays) (D.turn T6))
end
/-- a turn of the inner frames seen from the caller's base -/
theorem turn_back {A₀ : Around} {base h₀ g g' : Heap} {env : Env} {outer : List Env} {L : Addr} {m : Str → Option Value} (B : Below A₀ base outer h₀) (F : Fr h₀ L g m) (hf : env.frame = some L) (T : KtsTurn ((env :: outer).filterMap (·.frame)) g g') :
    ∃ h₀', KtsTurn (outer.filterMap (·.frame)) h₀ h₀' ∧ Fr h₀' L g' m ∧ Below A₀ base outer h₀' := by
  have nL : h₀.get? L = none := kts_self F
  obtain ⟨T1, S1⟩ := kts_turn_at (h := g') (fs := outer.filterMap (·.frame)) (g := h₀)
    (fun b hb => by
      obtain ⟨_, o, ho, _⟩ := B.frames.mem hb
      exact ⟨o, ho⟩)
    (fun b o e nm => T.other b o (F.keep b o e) (fun q => by
      rw [List.filterMap_cons, hf] at q
      rcases List.mem_cons.mp q with z | z
      · rw [z, nL] at e
        cases e
      · exact nm z))
    (fun b o e hm => T.up (F.keep b o e))
  obtain ⟨o, es, ep, ho, hdt, r⟩ := F.ns
  obtain ⟨sl, hs⟩ := T.up ho
  refine ⟨_, T1, ⟨⟨_, es, ep, hs, hdt, r⟩, S1, by rw [T1.size]; exact F.above⟩, ⟨B.stack, fun b o e => T1.other b o (B.stays b o e) (fun hm => by
    rw [(B.frames.mem hm).1] at e
    cases e), B.frames.of_keeps fun b o e _ => ?_⟩⟩
  obtain ⟨sl', hs'⟩ := T1.up e
  exact ⟨_, hs', rfl⟩
theorem dicts_in {h₀ g : Heap} {env : Env} {outer : List Env} {L : Addr} {m : Str → Option Value} (D : KtsDicts (outer.filterMap (·.frame)) h₀) (F : Fr h₀ L g m) (hf : env.frame = some L) : KtsDicts ((env :: outer).filterMap (·.frame)) g := by
  intro b hb
  rw [List.filterMap_cons, hf] at hb
  rcases List.mem_cons.mp hb with rfl | hb
  · obtain ⟨o, es, ep, ho, hdt, _⟩ := F.ns
    exact ⟨o, es, ep, ho, hdt⟩
  · obtain ⟨o, es, n, ho, hdt⟩ := D b hb
    exact ⟨o, es, n, F.keep b o ho, hdt⟩
end

/- part MFg -/
section
/-! `for` inside a generator function: the loop's turns as segments. -/
section
variable {M : Model} {A : Around} {R : GenEnd} {Y : Protocol} {n : Nat} {s₀ : Shared} {c : Code} {fs : List Frame} {s : Shared} {env : Env} {K : Flow → Sem Fin} {H : Value → Sem Fin} {gd : Bool → Bool} {lv : List Value → List Value}
/-- what waits for the loop's end -/
def afterLoop (env : Env) (K : Flow → Sem Fin) (H : Value → Sem Fin) (gd : Bool → Bool) (lv : List Value → List Value) (r : Result) : Sem Fin :=
  ((match r with | .ok f => (.pure f : Sem Flow) | .error e => .raise e).onRaise fun (x : Value) => do
    if (← field x 1) == Value.none then unsupported "frame.own-activation:exception-without-traceback"
    setFlight x env.frame).wrap K H gd lv
abbrev loopRet (env : Env) (K : Flow → Sem Fin) (H : Value → Sem Fin) (gd : Bool → Bool) (lv : List Value → List Value) (c : Code) (p : Pos) : Frame := .ret (afterLoop env K H gd lv) none (gd false) (lv []) c p []
theorem seg_For {target iter : PySem.Expr} {body orelse : List Stmt} {pos : Pos} (hs : ∀ x, foldedSetIterable iter env x = pure x)
    (h : wpAny M (A.over c fs) (eval iter env) (fun xv s1 => wpAny M (A.over c fs) (pyIter xv) (fun it s2 => ∀ p, Seg M A R Y n s₀ (.forLoop target it body orelse env) (M.den (.forLoop target it body orelse env)) (loopRet env K H gd lv c p :: fs) s2)
      (fun x s' => Seg M A R Y n s₀ c (H x) fs s') s1) (fun x s' => Seg M A R Y n s₀ c (H x) fs s') s) :
    Seg M A R Y n s₀ c ((exec (.For target iter body orelse pos) env).wrap K H gd lv) fs s := by
  rw [arm_exec_For]
  refine seg_bind_wrap (wpAny_standAt ?_)
  refine seg_bind_wrap (wpAny_mono h (fun xv s1 h1 => ?_) fun _ _ e => e)
  rw [hs]
  refine seg_bind_wrap (wpAny_pure ?_)
  refine seg_bind_wrap (wpAny_standAt ?_)
  refine seg_bind_wrap (wpAny_holding (wpAny_mono h1 (fun it s2 h2 => ?_) fun _ _ e => e))
  exact seg_call h2
abbrev noted (env : Env) (e : Value) : Sem Fin := (do noteFrame e env; theTreesLotGoes e : Sem Unit).wrap (fun _ => .raise e) .raise id id
theorem bind_noted (env : Env) (e : Value) : (do noteFrame e env; theTreesLotGoes e : Sem Unit).bind (fun _ => (.raise e : Sem Fin)) = noted env e := by
  first | exact Sem.bind_eq_wrap _ _ | (rw [Sem.bind_eq_wrap])
end
section
variable {prog : Program} {w : World} {A : Around} {R : GenEnd} {Y : Protocol} {n : Nat} {s₀ : Shared} {fs : List Frame} {s : Shared} {env : Env}
abbrev bodyK (target : PySem.Expr) (it : Value) (body : List Stmt) (env : Env) (f : Flow) : Sem Fin := match f with
  | .next | .cont => .pure (.again (.forLoop target it body [] env))
  | .brk => .pure (.done .next)
  | .ret v => .pure (.done (.ret v))
/-- one turn of the loop -/
theorem seg_forLoop {x : Str} {px : Pos} {it : Value} {body : List Stmt}
    (h : wpAny (model prog w) (A.over (.forLoop (.Name x px) it body [] env) fs) (pyNext it) (fun r s1 => match r with
      | none => Seg (model prog w) A R Y n s₀ (.block [] env) ((model prog w).den (.block [] env)) fs s1
      | some v => wpAny (model prog w) (A.over (.forLoop (.Name x px) it body [] env) fs) (assign (.Name x px) env v) (fun _ s3 =>
          Seg (model prog w) A R Y n s₀ (.forLoop (.Name x px) it body [] env) ((execs body env).wrap (bodyK (.Name x px) it body env) (noted env) id id) fs s3) (fun _ _ => False) s1) (fun _ _ => False) s) :
    Seg (model prog w) A R Y n s₀ (.forLoop (.Name x px) it body [] env) ((model prog w).den (.forLoop (.Name x px) it body [] env)) fs s := by
  show Seg _ A R Y n s₀ _ ((forTurn (.Name x px) it body [] env).onRaise (fun x => do noteFrame x env; theTreesLotGoes x)) fs s
  unfold forTurn
  rw [Sem.onRaise_eq_wrap]
  refine seg_bind_wrap (wpAny_standAt ?_)
  refine seg_bind_wrap (wpAny_onRaise (wpAny_mono h (fun r s1 h1 => ?_) fun _ _ e => e.elim))
  cases r with
  | none => exact seg_again rfl h1
  | some v =>
    refine seg_bind_wrap (m := letOwnedTupleGo (.Name x px) it v) (wpAny_pure ?_)
    refine seg_bind_wrap (wpAny_mono h1 (fun _ s3 h3 => ?_) fun _ _ e => e.elim)
    rw [Sem.bind_eq_wrap', Sem.wrap_wrap]
    rw [Sem.wrap_congr (execs body env) _ _ (K' := bodyK (.Name x px) it body env) (H' := noted env)
      (fun f => by cases f <;> rfl) (fun e => by exact bind_noted env e)]
    exact h3
theorem seg_block0 (h : Seg (model prog w) A R Y n s₀ (.block [] env) (.pure (.done .next)) fs s) : Seg (model prog w) A R Y n s₀ (.block [] env) ((model prog w).den (.block [] env)) fs s := h
/-- a run of statements that does not yield -/
theorem execs_append_wrap {K : Flow → Sem Fin} {H : Value → Sem Fin} {gd : Bool → Bool} {lv : List Value → List Value} (l1 l2 : List Stmt) : (execs (l1 ++ l2) env).wrap K H gd lv = (execs l1 env).wrap (fun f => match f with | .next => (execs l2 env).wrap K H gd lv | f => K f) H gd lv := by
  induction l1 with
  | nil => rfl
  | cons a l ih =>
    rw [List.cons_append, execs_cons_wrap, execs_cons_wrap]
    refine Sem.wrap_congr _ _ _ (fun f => ?_) (fun _ => rfl)
    cases f with
    | next => exact ih
    | _ => rfl
theorem seg_execs_pre {K : Flow → Sem Fin} {H : Value → Sem Fin} {gd : Bool → Bool} {lv : List Value → List Value} {c : Code} {l1 l2 : List Stmt}
    (h : wpAny (model prog w) (A.over c fs) (execs l1 env) (fun f s' => f = .next ∧ Seg (model prog w) A R Y n s₀ c ((execs l2 env).wrap K H gd lv) fs s') (fun e s' => Seg (model prog w) A R Y n s₀ c (H e) fs s') s) :
    Seg (model prog w) A R Y n s₀ c ((execs (l1 ++ l2) env).wrap K H gd lv) fs s := by
  rw [execs_append_wrap]
  refine seg_wrap (wpAny_mono h (fun f s' h' => ?_) fun _ _ e => e)
  obtain ⟨rfl, h'⟩ := h'
  exact h'
end
end

/- part MFr -/
section
/-! An exception raised in the turn of a `for` inside a generator function leaves the loop and the function. -/
section
variable {M : Model} {A : Around} {E : Value → Shared → Prop} {s : Shared}
theorem flightX {base : Heap} {l : List Env} {e : Addr} {cls a0 fl : Value} {fr : Option Addr} {Q : Unit → Shared → Prop} (x : FlC base l e cls a0 fl s.heap)
    (h : ∀ h', FlC base l e cls a0 (fr.elim .none fun f => rawInt f) h' → s.heap.UpToSlots h' → Q () { s with heap := h' }) : wpAny M A (setFlight (.ref e) fr) Q E s := by
  obtain ⟨st, hen, hl, oe, vs, T, oT, ts, he, hc, hdt, h1, hnT, ne, hT, hdT, h3⟩ := x
  have oth : ∀ b o, s.heap.get? b = some o → b ≠ T → (s.heap.update T (Obj.mapFields (·.setIfInBounds 3 (fr.elim Value.none fun f => rawInt f)))).get? b = some o := fun b o hb hn => (Heap.get?_update_other _ _ (Ne.symm hn)).trans hb
  have nr : ∀ b o, s.heap.get? b = some o → (∀ vs, o.data ≠ .fields vs) → b ≠ T := fun b o hb hnf z => by rw [z, hT] at hb; cases hb; exact hnf ts hdT
  have h3s := (Array.getElem?_eq_some_iff.mp h3).1
  unfold setFlight
  refine wpAny_bind (wpAny_field he hdt h1 ?_)
  rw [if_pos (show (Value.ref T != Value.none) = true by simp)]
  refine wpAny_setField hT hdT h3s (h _ ⟨fun b o hb => oth b o (st b o hb) (fun z => by rw [z, hnT] at hb; cases hb), hen, hl.of_keeps fun b o hb hnf => ⟨o, oth b o hb (nr b o hb hnf), rfl⟩, ?_⟩ fun b o hb hnf => ⟨o.slots, oth b o hb (nr b o hb hnf)⟩)
  exact ⟨oe, vs, T, _, _, oth e oe he (Ne.symm ne), hc, hdt, h1, hnT, ne, Heap.get?_update_self _ hT (Obj.isFreed_of_fields (Obj.data_mapFields hdT _)), Obj.data_mapFields hdT _, by simp [h3s]⟩
theorem noteAgainC {base : Heap} {l : List Env} {env : Env} {L e : Addr} {cls a0 : Value} {Q : Unit → Shared → Prop} (hf : env.frame = some L) (x : FlC base l e cls a0 (rawInt L) s.heap) (h : Q () s) : wpAny M A (noteFrame (.ref e) env) Q E s := by
  obtain ⟨st, hen, hl, oe, vs, T, oT, ts, he, hc, hdt, h1, hnT, ne, hT, hdT, h3⟩ := x
  unfold noteFrame
  simp only [hf]
  refine wpAny_bind (wpAny_field he hdt h1 ?_)
  rw [if_pos (show (Value.ref T != Value.none) = true by simp)]
  refine wpAny_bind (wpAny_field hT hdT h3 ?_)
  rw [if_pos (show (rawInt L == rawInt L) = true by simp [rawInt])]
  exact wpAny_pure h
theorem checkC {base : Heap} {l : List Env} {e : Addr} {cls a0 fl : Value} {fr : Option Addr} {Q : Unit → Shared → Prop} (x : FlC base l e cls a0 fl s.heap) (h : wpAny M A (setFlight (.ref e) fr) Q E s) :
    wpAny M A (do
      if (← field (.ref e) 1) == Value.none then unsupported "frame.own-activation:exception-without-traceback"
      setFlight (.ref e) fr) Q E s := by
  obtain ⟨st, hen, hl, oe, vs, T, oT, ts, he, hc, hdt, h1, r⟩ := x
  refine wpAny_bind (wpAny_field he hdt h1 ?_)
  rw [if_neg (show ¬ ((Value.ref T == Value.none) = true) by simp)]
  exact h
end
/-- what leaves a generator function: what waits behind its body -/
abbrev funH (env : Env) (e : Value) : Sem Fin := (leaving env e).wrap (fun _ => .raise e) .raise id id
section
variable {M : Model} {A : Around} {R : GenEnd} {Y : Protocol} {n : Nat} {s₀ s : Shared} {base g h : Heap} {outer : List Env} {L a e : Addr} {m : Str → Option Value} {name : Str} {scope : Scope} {cd : Value} {news : List (Addr × Obj)} {c c2 : Code} {p : Pos} {Kf : Flow → Sem Fin} {E : Value → Shared → Prop}
/-- what the exception's frames and ledger give, whatever is written into it -/
theorem ground_of {cls : Value} {vs : List Value} {sh : Heap} (K : Below A base outer g) (hx : Heap.MadeExcOf h sh e cls vs) (F : Fr g L h m) (N : News g L h news) (hk : scope.kind = .function) :
    ∃ B t, base.StaysIn B ∧ (∀ b o, g.get? b = some o → b ∉ outer.filterMap (·.frame) → B.get? b = some o) ∧ (∀ q ∈ news, B.get? q.1 = some q.2 ∧ g.get? q.1 = none ∧ base.get? q.1 = none) ∧ B.get? t = none ∧ B.get? e = none ∧ B.StaysIn sh ∧
      sh.FunFrames B (envOf name scope L a cd :: outer) ∧ sh.TupAt t vs ∧ sh.get? e = some { cls := cls, data := .fields #[.ref t, .none, .none, .none, .bool false, .none] } := by
  have K' := K.push (name := name) (a := a) (cd := cd) F hk
  have hin : ∀ env ∈ (envOf name scope L a cd :: outer), ∀ b, env.frame = some b → b ∈ (envOf name scope L a cd :: outer).filterMap (·.frame) := fun env he b hb => List.mem_filterMap.mpr ⟨env, he, hb⟩
  have st : base.StaysIn (hideAll h ((envOf name scope L a cd :: outer).filterMap (·.frame))) := fun b o q => hideAll_get _ (K'.stays b o q) fun hm => by
    rw [(K'.frames.mem hm).1] at q; cases q
  have sg : ∀ b o, g.get? b = some o → b ∉ outer.filterMap (·.frame) → (hideAll h ((envOf name scope L a cd :: outer).filterMap (·.frame))).get? b = some o := fun b o q nm => hideAll_get _ (F.keep b o q) fun hm => by
    rcases kts_mem hm with z | z
    · rw [z, kts_self F] at q
      cases q
    · exact nm z
  have hl : ∀ q ∈ news, (hideAll h ((envOf name scope L a cd :: outer).filterMap (·.frame))).get? q.1 = some q.2 ∧ g.get? q.1 = none ∧ base.get? q.1 = none := fun q hq => by
    refine ⟨hideAll_get _ (N q hq).1 fun hm => ?_, (N q hq).2.2, fresh_of_stays K.stays (N q hq).2.2⟩
    obtain ⟨env, he, hf⟩ := List.mem_filterMap.mp hm
    rcases List.mem_cons.mp he with rfl | he
    · exact (N q hq).2.1 (Option.some.inj hf).symm
    · obtain ⟨o, ho, _⟩ := (K.frames.mem (List.mem_filterMap.mpr ⟨env, he, hf⟩)).2
      rw [(N q hq).2.2] at ho; cases ho
  obtain ⟨t, he, htn, ht⟩ := hx.there
  have fr2 : ∀ b, h.get? b = none → (hideAll h ((envOf name scope L a cd :: outer).filterMap (·.frame))).get? b = none := fun b hb => by
    cases q : (hideAll h ((envOf name scope L a cd :: outer).filterMap (·.frame))).get? b with
    | none => rfl
    | some o => have := of_hideAll _ q; rw [hb] at this; cases this
  exact ⟨_, t, st, sg, hl, fr2 t htn, fr2 e hx.new, fun b o hb => hx.keeps b o (of_hideAll _ hb), (funFrames_hide K'.frames hin).of_keeps fun b o hb _ => ⟨o, hx.keeps b o hb, rfl⟩, ⟨_, _, ht, rfl, rfl⟩, he⟩
theorem seg_raised {cls : Value} {vs : List Value} (K : Below A base outer g) (hk : scope.kind = .function) (hx : Heap.MadeExcOf h s.heap e cls vs) (F : Fr g L h m) (N : News g L h news)
    (hf2 : (A.over c2 [loopRet (envOf name scope L a cd) Kf (funH (envOf name scope L a cd)) id id c p]).frames = some (envOf name scope L a cd :: outer)) (hf1 : (A.over c []).frames = some (envOf name scope L a cd :: outer))
    (hR : ∀ h' t, RaisedC base g outer e cls t vs news h' → g.UpToSlots h' → R n s₀ (.error (.ref e)) { s with heap := h' }) :
    Seg M A R Y n s₀ c2 (noted (envOf name scope L a cd) (.ref e)) [loopRet (envOf name scope L a cd) Kf (funH (envOf name scope L a cd)) id id c p] s := by
  obtain ⟨B, t, st, sg, hl, htn, hen, hst, hfr, htup, hoe⟩ := ground_of (name := name) (scope := scope) (a := a) (cd := cd) K hx F N hk
  refine seg_wrap (wpAny_bind (note1C (a0 := .ref t) hf2 hfr rfl hoe hst hen rfl rfl rfl rfl fun h1 f1 u1 => wpAny_theTreesLotGoes ?_))
  refine seg_leaf (.error (.ref e)) ?_
  show Seg M A R Y n s₀ c (((do
    if (← field (.ref e) 1) == Value.none then unsupported "frame.own-activation:exception-without-traceback"
    setFlight (.ref e) (envOf name scope L a cd).frame : Sem Unit).bind fun _ => (.raise (.ref e) : Sem Flow)).wrap Kf (funH (envOf name scope L a cd)) id id) [] _
  refine seg_bind_wrap (checkC f1 (flightX f1 fun h2 f2 u2 => ?_))
  show Seg M A R Y n s₀ c ((leaving (envOf name scope L a cd) (.ref e)).wrap (fun _ => .raise (.ref e)) .raise id id) [] _
  refine seg_wrap ?_
  unfold leaving
  refine wpAny_bind (noteAgainC (L := L) rfl f2 ?_)
  refine flightC f2 fun h3 f3 u3 => ?_
  have u := (u1.trans u2).trans u3
  refine seg_end (.error (.ref e)) (hR h3 t ⟨⟨B, st, sg, hl, f3.inner, htn⟩, htup.of_slots u⟩ (((Heap.UpToSlots.of_keeps F.keep).trans (Heap.UpToSlots.of_keeps hx.keeps)).trans u))
/-- the same for a raise behind the loop -/
theorem seg_raised0 {cls : Value} {vs : List Value} (K : Below A base outer g) (hk : scope.kind = .function) (hx : Heap.MadeExcOf h s.heap e cls vs) (F : Fr g L h m) (N : News g L h news)
    (hf1 : (A.over c []).frames = some (envOf name scope L a cd :: outer))
    (hR : ∀ h' t, RaisedC base g outer e cls t vs news h' → g.UpToSlots h' → R n s₀ (.error (.ref e)) { s with heap := h' }) :
    Seg M A R Y n s₀ c (funH (envOf name scope L a cd) (.ref e)) [] s := by
  obtain ⟨B, t, st, sg, hl, htn, hen, hst, hfr, htup, hoe⟩ := ground_of (name := name) (scope := scope) (a := a) (cd := cd) K hx F N hk
  refine seg_wrap ?_
  unfold leaving
  refine wpAny_bind (note1C (a0 := .ref t) hf1 hfr rfl hoe hst hen rfl rfl rfl rfl fun h1 f1 u1 => ?_)
  refine flightC f1 fun h2 f2 u2 => ?_
  exact seg_end (.error (.ref e)) (hR h2 t ⟨⟨B, st, sg, hl, f2.inner, htn⟩, htup.of_slots (u1.trans u2)⟩ (((Heap.UpToSlots.of_keeps F.keep).trans (Heap.UpToSlots.of_keeps hx.keeps)).trans (u1.trans u2)))
end
end

/- part MGse -/
theorem fresh_MGse : True ∧ True := by
  w_top off
  first
    | (walk1; done)
    | exact ⟨True.intro, True.intro⟩
section
local macro_rules | `(tactic| walk_at "call builtin:len") => `(tactic| (k_here; (with_reducible show wpAny _ _ (call (Value.builtin "len") [Value.ref _]) _ _ _); k_dflt (refine' tlen ?F ?X ?N ?a ?z ?_; (case F => k_asm); (case X => k_asm); (case N => k_asm); (case a => k_mem); (case z => with_reducible assumption); k_whole)))
local macro_rules | `(tactic| walk_at "subscriptTail Name Name ref int") => `(tactic| (k_here; (with_reducible show wpAny _ _ (subscriptTail _ _ (Value.ref _) (Value.int _ _)) _ _ _); k_dflt (refine' titem ?F ?X ?N ?a ?b ?c ?d ?_; (case F => k_asm); (case X => k_asm); (case N => k_asm); (case a => k_mem); (case d => with_reducible assumption); (case b => omega); (case c => omega); k_whole)))
local macro_rules | `(tactic| walk_at "subscriptTail Name BinOp ref int") => `(tactic| (k_here; (with_reducible show wpAny _ _ (subscriptTail _ _ (Value.ref _) (Value.int _ _)) _ _ _); k_dflt (refine' titem ?F ?X ?N ?a ?b ?c ?d ?_; (case F => k_asm); (case X => k_asm); (case N => k_asm); (case a => k_mem); (case d => with_reducible assumption); (case b => omega); (case c => omega); k_whole)))
local macro_rules | `(tactic| walk_at "subscriptTail Name Constant ref int") => `(tactic| (k_here; (with_reducible show wpAny _ _ (subscriptTail _ _ (Value.ref _) (Value.int _ _)) _ _ _); k_dflt (refine' titem ?F ?X ?N ?a ?b ?c ?d ?_; (case F => k_asm); (case X => k_asm); (case N => k_asm); (case a => k_mem); (case d => with_reducible assumption); (case b => omega); (case c => omega); k_whole)))
local macro_rules | `(tactic| walk_at "subscriptTail Name UnaryOp ref int") => `(tactic| (k_here; (with_reducible show wpAny _ _ (subscriptTail _ _ (Value.ref _) (Value.int _ _)) _ _ _); k_dflt (refine' titem ?F ?X ?N ?a ?b ?c ?d ?_; (case F => k_asm); (case X => k_asm); (case N => k_asm); (case a => k_mem); (case d => with_reducible assumption); (case b => omega); (case c => omega); k_whole)))
local macro_rules | `(tactic| walk_at "subscriptTail Subscript Name ref int") => `(tactic| (k_here; (with_reducible show wpAny _ _ (subscriptTail _ _ (Value.ref _) (Value.int _ _)) _ _ _); k_dflt (refine' titem ?F ?X ?N ?a ?b ?c ?d ?_; (case F => k_asm); (case X => k_asm); (case N => k_asm); (case a => k_mem); (case d => with_reducible assumption); (case b => omega); (case c => omega); k_whole)))
local macro_rules | `(tactic| walk_at "subscriptTail Subscript BinOp ref int") => `(tactic| (k_here; (with_reducible show wpAny _ _ (subscriptTail _ _ (Value.ref _) (Value.int _ _)) _ _ _); k_dflt (refine' titem ?F ?X ?N ?a ?b ?c ?d ?_; (case F => k_asm); (case X => k_asm); (case N => k_asm); (case a => k_mem); (case d => with_reducible assumption); (case b => omega); (case c => omega); k_whole)))
local macro_rules | `(tactic| walk_at "subscriptTail Subscript Constant ref int") => `(tactic| (k_here; (with_reducible show wpAny _ _ (subscriptTail _ _ (Value.ref _) (Value.int _ _)) _ _ _); k_dflt (refine' titem ?F ?X ?N ?a ?b ?c ?d ?_; (case F => k_asm); (case X => k_asm); (case N => k_asm); (case a => k_mem); (case d => with_reducible assumption); (case b => omega); (case c => omega); k_whole)))
local macro_rules | `(tactic| walk_at "subscriptTail Subscript UnaryOp ref int") => `(tactic| (k_here; (with_reducible show wpAny _ _ (subscriptTail _ _ (Value.ref _) (Value.int _ _)) _ _ _); k_dflt (refine' titem ?F ?X ?N ?a ?b ?c ?d ?_; (case F => k_asm); (case X => k_asm); (case N => k_asm); (case a => k_mem); (case d => with_reducible assumption); (case b => omega); (case c => omega); k_whole)))
local macro_rules | `(tactic| walk_at "getAttr ref") => `(tactic| (k_here; (with_reducible show wpAny _ _ (getAttr (Value.ref _) (PySem.Str.ofString "code") _) _ _ _); k_dflt (refine' code_specX ?cx ?F ?N ?r ?u ?a ?b ?_; (case cx => (refine' ⟨?cB, ?cX, ?cT, ?ca, ?cb, ?cc, ?cd⟩; (case ca => exact rfl); (case cb => exact rfl); (case cc => exact rfl); (case cd => exact rfl); (case cB => k_asm); (case cX => k_asm); (case cT => k_asm))); (case F => k_asm); (case N => k_asm); (case r => k_room); (case u => k_units); (case a => k_mem); (case b => k_mem); k_whole); intro h' tk' F' N'))
local macro_rules | `(tactic| walk_at "getAttr ref") => `(tactic| (k_here; (with_reducible show wpAny _ _ (getAttr (Value.ref _) (PySem.Str.ofString "value") _) _ _ _); k_dflt (refine' value_specX ?v ?cx ?F ?N ?r ?u ?a ?b ?_; (case cx => (refine' ⟨?cB, ?cX, ?cT, ?ca, ?cb, ?cc, ?cd⟩; (case ca => exact rfl); (case cb => exact rfl); (case cc => exact rfl); (case cd => exact rfl); (case cB => k_asm); (case cX => k_asm); (case cT => k_asm))); (case F => k_asm); (case N => k_asm); (case r => k_room); (case u => k_units); (case a => k_mem); (case b => k_mem); (case v => first | rfl | with_reducible assumption); k_whole); intro h' tk' F' N'))
local macro_rules | `(tactic| walk_at "call ref") => `(tactic| (k_here; (first | (with_reducible show wpAny _ _ (call (Value.ref 366) _) _ _ _) | (with_reducible show wpAny _ _ (call (Value.ref 413) _) _ _ _) | (with_reducible show wpAny _ _ (call (Value.ref 466) _) _ _ _) | (with_reducible show wpAny _ _ (call (Value.ref 473) _) _ _ _) | (with_reducible show wpAny _ _ (call (Value.ref 480) _) _ _ _) | (with_reducible show wpAny _ _ (call (Value.ref 379) _) _ _ _) | (with_reducible show wpAny _ _ (call (Value.ref 386) _) _ _ _) | (with_reducible show wpAny _ _ (call (Value.ref 406) _) _ _ _) | (with_reducible show wpAny _ _ (call (Value.ref 501) _) _ _ _) | (with_reducible show wpAny _ _ (call (Value.ref 515) _) _ _ _) | (with_reducible show wpAny _ _ (call (Value.ref 206) _) _ _ _) | (with_reducible show wpAny _ _ (call (Value.ref 536) _) _ _ _) | (with_reducible show wpAny _ _ (call (Value.ref 551) _) _ _ _) | (with_reducible show wpAny _ _ (call (Value.ref 544) _) _ _ _) | (with_reducible show wpAny _ _ (call (Value.ref 556) _) _ _ _) | (with_reducible show wpAny _ _ (call (Value.ref 563) _) _ _ _) | (with_reducible show wpAny _ _ (call (Value.ref 570) _) _ _ _) | (with_reducible show wpAny _ _ (call (Value.ref 525) _) _ _ _) ); refine stop_at ?_))
section
local macro_rules | `(tactic| walk_at "exec For") => `(tactic| (with_unfolding_all refine for_at ?_))
local macro_rules | `(tactic| walk_at "exec For Name Call cons nil") => `(tactic| (with_unfolding_all refine for_at ?_))
local macro_rules | `(tactic| walk_at "call type:range") => `(tactic| (k_here; (with_reducible show wpAny _ _ (call (Value.type "range") [Value.int _ _]) _ _ _); k_dflt (refine' range_at ?k1 ?k2 ?_; (case k1 => k_asm); (case k2 => k_asm); k_whole); intro r' t' u' v' tk' h' F' N' l1; (first | (have hlt := TopLe.head l1; dsimp only at hlt) | (have hlt := TopLe.num l1; (try simp only [top_app, Nat.max_le] at hlt))); (try k_sweep)))
section
theorem RowV.newS {h₀ : Heap} {news : List (Addr × Obj)} {t : Addr} {n : Nat} {c : Int} {tk t2 : Tok} {x : Str} (ht : (t, ({ cls := .type "tuple", data := .seq [Value.int c tk, Value.str x t2].toArray n } : Obj)) ∈ news) : RowV h₀ news t (c, .s x) := RowV.new ht (DatIn.str (news := []) x t2)
theorem tag_eq_r {w : World} {A A₀ : Around} {s : Shared} {base h₀ : Heap} {outer : List Env} {env : Env} {L : Addr} {m mg mb : Str → Option Value} {p₀ : Program} {loose : List Str} {news : List (Addr × Obj)} {E : Value → Shared → Prop} {Q : Value → Shared → Prop} {c : Int} {tk : Tok} {x dx b : Addr} {v : Value} {cell : Cell} {r2 : Row} {l : List (Addr × Obj)} {bb : Bool} (cx : Cx w A A₀ base h₀ outer env L mg mb p₀ loose) (F : Fr h₀ L s.heap m) (N : News h₀ L s.heap news) (hr : A.depth + 20 < recursionLimit) (hu : A.units + 400 < cLine)
    (h1 : (x, tagObj dx c tk v) ∈ news) (h2 : (dx, dictOf [] 0) ∈ news) (hd : DatIn l v cell.dat) (hb : RowV h₀ news b r2) (ok1 : rowOk (c, cell) = true) (ok2 : rowOk r2 = true) (e : decide ((c, cell) = r2) = bb)
    (h : ∀ h' tk', Fr h₀ L h' m → News h₀ L h' news → Q (.bool bb) { s with heap := h', toks := tk' }) :
    wpAny (model Challenge.rw_fy0015_01.row.toRowW.1 w) A (compareOp .Eq (.ref x) (.ref b)) Q E s :=
  tag_eq cx F N hr hu h1 h2 hd hb ok1 ok2 fun h' tk' F' N' => by rw [e]; exact h h' tk' F' N'
local macro_rules | `(tactic| walk_at "compareOp Eq ref ref") => `(tactic| (k_here; (with_reducible show wpAny _ _ (compareOp CmpOp.Eq (Value.ref _) (Value.ref _)) _ _ _); k_dflt (refine' tag_eq_r ?cx ?F ?N ?r ?u ?a ?b ?hd ?hb ?o1 ?o2 ?e ?_; (case cx => (refine' ⟨?cB, ?cX, ?cT, ?ca, ?cb, ?cc, ?cd⟩; (case ca => exact rfl); (case cb => exact rfl); (case cc => exact rfl); (case cd => exact rfl); (case cB => k_asm); (case cX => k_asm); (case cT => k_asm))); (case F => k_asm); (case N => k_asm); (case r => k_room); (case u => k_units); (case a => k_mem); (case b => k_mem); (case hd => with_reducible assumption); (case hb => first | exact RowV.newS (List.Mem.head _) | (refine' RowV.up ?rv (fun _ _ e => e) ?rs; (case rv => with_reducible assumption); (case rs => (intro p hp; repeat (first | exact hp | refine List.Mem.tail _ ?_))))); (case o1 => with_reducible assumption); (case o2 => first | with_reducible assumption | exact ok_open | exact ok_close); (case e => with_reducible assumption); k_whole); intro h' tk' F' N'))
def StV (st : Option Nat) (v : Value) : Prop := match st with
  | none => v = .none
  | some b => ∃ t, v = .int (b : Int) t
def GseJ (T : List Row) (x : Str) (tx : Tok) (l : Addr) (news : List (Addr × Obj)) (i : Nat) (m : Str → Option Value) (nx : List (Addr × Obj)) : Prop :=
  news = nx ∧ ∃ u lv t1 st stv, m = upds [(Str.ofString "start", stv), (Str.ofString "end", .none), (Str.ofString "level", .int lv t1), (Str.ofString "name", .str x tx), (Str.ofString "tags", .ref l)] u ∧ StV st stv ∧ scan T x i = ⟨st, lv, none⟩
theorem gseJ_mk {T : List Row} {x : Str} {tx : Tok} {l : Addr} {news : List (Addr × Obj)} {i : Nat} {m : Str → Option Value} {lv : Int} {t1 : Tok} {st : Option Nat} {stv : Value} (h1 : m (Str.ofString "start") = some stv) (h2 : m (Str.ofString "end") = some .none) (h3 : m (Str.ofString "level") = some (.int lv t1)) (h4 : m (Str.ofString "name") = some (.str x tx)) (h5 : m (Str.ofString "tags") = some (.ref l))
    (hst : StV st stv) (hs : scan T x i = ⟨st, lv, none⟩) : GseJ T x tx l news i m news := by
  refine ⟨rfl, m, lv, t1, st, stv, upds_self ?_, hst, hs⟩
  intro p hp
  simp only [List.mem_cons, List.not_mem_nil, or_false] at hp
  rcases hp with rfl | rfl | rfl | rfl | rfl <;> assumption
theorem turn_drop {h₀ : Heap} {L I : Addr} {oI : Obj} {Jn : (Str → Option Value) → List (Addr × Obj) → Prop} {Q : Flow → Shared → Prop} {s₁ : Shared} {h' : Heap} {tk' : Nat} {m' : Str → Option Value} {l nx : List (Addr × Obj)}
    (F : Fr h₀ L h' m') (N : News h₀ L h' l) (hs : ∀ p ∈ (I, oI) :: nx, p ∈ l) (ho : ∀ p ∈ nx, p.1 ≠ I) (hj : Jn m' nx) : TurnEnd h₀ L I oI Jn Q s₁ .next { s₁ with heap := h', toks := tk' } :=
  ⟨h', tk', m', nx, rfl, F, news_sub N hs, ho, hj⟩
theorem turn_brk {h₀ : Heap} {L I : Addr} {oI : Obj} {Jn : (Str → Option Value) → List (Addr × Obj) → Prop} {Q : Flow → Shared → Prop} {s₁ s₂ : Shared} (h : Q .next s₂) : TurnEnd h₀ L I oI Jn Q s₁ .brk s₂ := h
theorem scan_fin {T : List Row} {x : Str} {i b : Nat} {lv : Int} {e : Nat} (h : scan T x (i + 1) = ⟨some b, lv, some e⟩) (hi : i < T.length) : scan T x T.length = ⟨some b, lv, some e⟩ := by
  have := scan_stay h (by simp) (T.length - (i + 1))
  rwa [show i + 1 + (T.length - (i + 1)) = T.length by omega] at this
theorem sc_none_hit {T : List Row} {x : Str} {i : Nat} {lv : Int} (hs : scan T x i = ⟨none, lv, none⟩) (h1 : rowAt T i = (1000, .s x)) (h2 : rowAt T (i + 1) = opn) : scan T x (i + 1) = ⟨some i, lv, none⟩ := by
  rw [scan_succ, hs]; unfold scStep; exact if_pos ⟨h1, h2⟩
theorem sc_none_miss {T : List Row} {x : Str} {i : Nat} {lv : Int} (hs : scan T x i = ⟨none, lv, none⟩) (h : ¬ (rowAt T i = (1000, .s x) ∧ rowAt T (i + 1) = opn)) : scan T x (i + 1) = ⟨none, lv, none⟩ := by
  rw [scan_succ, hs]; unfold scStep; exact if_neg h
theorem sc_some {T : List Row} {x : Str} {i b : Nat} {lv d : Int} (hs : scan T x i = ⟨some b, lv, none⟩) (hd : del (rowAt T i) = d) (h : lv + d ≠ 0) : scan T x (i + 1) = ⟨some b, lv + d, none⟩ := by
  rw [scan_succ, hs]; unfold scStep; simp only [hd]; rw [if_neg h]
theorem sc_same {T : List Row} {x : Str} {i b : Nat} {lv : Int} (hs : scan T x i = ⟨some b, lv, none⟩) (hd : del (rowAt T i) = 0) (h : lv ≠ 0) : scan T x (i + 1) = ⟨some b, lv, none⟩ := by
  have := sc_some hs hd (by rwa [Int.add_zero]); rwa [Int.add_zero] at this
theorem sc_end {T : List Row} {x : Str} {i b : Nat} {lv d : Int} (hs : scan T x i = ⟨some b, lv, none⟩) (hd : del (rowAt T i) = d) (h : lv + d = 0) : scan T x (i + 1) = ⟨some b, 0, some i⟩ := by
  rw [scan_succ, hs]; unfold scStep; simp only [hd]; rw [if_pos h, h]
theorem open371 {w : World} {h₀ : Heap} {news : List (Addr × Obj)} (X : (hd.heap_39 w.params).In h₀) : RowV h₀ news 371 opn := RowV.old (tk := 668) (u := .str (Str.ofString "{") 669) (n := 0) X (by with_unfolding_all rfl) (DatIn.str (news := []) _ _)
theorem close372 {w : World} {h₀ : Heap} {news : List (Addr × Obj)} (X : (hd.heap_39 w.params).In h₀) : RowV h₀ news 372 clo := RowV.old (tk := 671) (u := .str (Str.ofString "}") 672) (n := 0) X (by with_unfolding_all rfl) (DatIn.str (news := []) _ _)
theorem exc396 {w : World} : excIn (hd.heap_39 w.params) 396 [.type "Exception", .type "BaseException", .type "object"] "Exception.__new__" = true := by kernel_rfl
theorem nm396 {w : World} : nsIn (hd.heap_39 w.params) mainGlobals (Str.ofString "NotFoundException") = some (some (.ref 396)) := by kernel_rfl
theorem mb396 {w : World} : mroIn (hd.heap_39 w.params) 396 (.type "BaseException") = some true := by kernel_rfl
theorem ms396 {w : World} : mroIn (hd.heap_39 w.params) 396 (.ref 396) = some true := by kernel_rfl
theorem ty396 {w : World} : typeIn (hd.heap_39 w.params) (.ref 396) = some (.type "type") := by kernel_rfl
theorem cl396 {w : World} : ∃ cdt, clsIn (hd.heap_39 w.params) 396 = some cdt := by
  have h : (clsIn (hd.heap_39 w.params) 396).isSome = true := by kernel_rfl
  exact Option.isSome_iff_exists.mp h
local macro_rules | `(tactic| walk_at "exec Raise some none") => `(tactic| (k_here; (with_reducible show wpAny _ _ (exec (Stmt.Raise (some (PySem.Expr.Name ("NotFoundException" : Str) _)) none _) _) _ _ _); k_dflt (obtain ⟨cdt9, hcl9⟩ := cl396 (w := _); refine' Raise_clsK ?F ?X ?T nm396 exc396 PySem.F.excBase_Exception ?hh mb396 ms396 ty396 hcl9 ?_ ?hk ?hx ?hd; (case F => k_asm); (case X => k_asm); (case T => k_asm); (case hh => first | rfl | assumption); (case hk => rfl); (case hx => rfl); (case hd => decide); k_whole); intro h' e' x'))
local macro_rules | `(tactic| walk_at "leaving ref") => `(tactic| (k_here; (refine' leave_raiseC ?k1 ?k0 ?k2 ?k3 ?_; (case k0 => assumption); (case k1 => assumption); (case k2 => assumption); (case k3 => k_asm); k_whole; intro h' t' R' U'; (try dsimp only at R' U' ⊢))))
set_option maxHeartbeats 8000000 in
theorem gse_spec {w : World} {A A₀ : Around} {s : Shared} {base h₀ : Heap} {outer : List Env} {env : Env} {L : Addr} {m mg mb : Str → Option Value} {p₀ : Program} {loose : List Str} {news : List (Addr × Obj)} {E : Value → Shared → Prop} {Q : Value → Shared → Prop} {l dl : Addr} {vs : List Value} {n : Nat} {rs : List Row} {x : Str} {tx : Tok} (cx : Cx w A A₀ base h₀ outer env L mg mb p₀ loose) (F : Fr h₀ L s.heap m) (N : News h₀ L s.heap news) (hr : A.depth + 40 < recursionLimit) (hu : A.units + 1000 < cLine)
    (hl : (l, tagsObj dl vs n) ∈ news) (hT : TagsIn news vs rs) (hz : rs.length ≤ 900) (hok : ∀ r ∈ rs, rowOk r = true) (hokx : rowOk (1000, .s x) = true) (hnx : ∀ i, i < rs.length → rowAt rs i = (1000, .s x) → i + 1 < rs.length)
    (hq : ∀ b e lv (t : Nat) t1 t2 nn h' tk', scan rs x rs.length = ⟨some b, lv, some e⟩ → Fr h₀ L h' m → News h₀ L h' ((t, ({ cls := .type "tuple", data := .seq [Value.int (b : Int) t1, .int ((e : Int) + 1) t2].toArray nn } : Obj)) :: news) → TopLe news t → Q (.ref t) { s with heap := h', toks := tk' })
    (hn : ∀ lv g e t h' tk', scan rs x rs.length = ⟨none, lv, none⟩ → Fr h₀ L g m → RaisedC base g (env :: outer) e (.ref 396) t [] news h' → g.UpToSlots h' → E (.ref e) { s with heap := h', toks := tk' })
    (hd : ∀ b lv g e t vs' h' tk', scan rs x rs.length = ⟨some b, lv, none⟩ → Fr h₀ L g m → RaisedS base g (env :: outer) e (.ref 154) t vs' news h' → g.UpToSlots h' → E (.ref e) { s with heap := h', toks := tk' }) :
    wpAny (model Challenge.rw_fy0015_01.row.toRowW.1 w) A (call (.ref 406) [.str x tx, .ref l]) Q E s := by
  obtain ⟨B, X₀, T, hh, hA, hf, hk⟩ := cx
  revert X₀
  k_fill
  intro X₀
  obtain ⟨_, _, _, _, _⟩ := A
  obtain ⟨⟨_, _, _, _, _⟩, _, _, _, _, _, _, _, _⟩ := env
  dsimp only at hA hf hk hh hr hu
  subst hA hf hk hh
  have hvl : vs.length = rs.length := hT.length
  have hvz : vs.length ≤ 1000 := by omega
  refine wpAny_call ?_
  k_enter
  rename_i g1 L1 h1 FG1 F1 N1 B1 X1 T1 l1 hlt1
  have hop : RowV g1 news 371 opn := open371 X1
  have hcl : RowV g1 news 372 clo := close372 X1
  have okop : rowOk opn = true := ok_open
  have okcl : rowOk clo = true := ok_close
  k_steps
  rename_i r9 t9 u9 v9 tk9 h9 F9 N9 lr9 hlr9
  refine for_range (n := vs.length) rfl rfl rfl ((N9 _ (List.Mem.head _)).1) (small_upto (by omega)) (size_upto _) (GseJ rs x tx l news) F9 (news_sub N9 fun p hp => List.Mem.tail _ hp) ?init (by passes_own) ?turn ?done
  case init =>
    exact gseJ_mk (stv := .none) (lv := 0) (st := none) (by (simp only [upds, ofString_eq, String.reduceEq, reduceIte] <;> exact rfl)) (by (simp only [upds, ofString_eq, String.reduceEq, reduceIte] <;> exact rfl)) (by (simp only [upds, ofString_eq, String.reduceEq, reduceIte] <;> exact rfl)) (by (simp only [upds, ofString_eq, String.reduceEq, reduceIte] <;> exact rfl)) (by (simp only [upds, ofString_eq, String.reduceEq, reduceIte] <;> exact rfl)) rfl rfl
  case turn =>
    rintro i k m9 nx I oI h tk hi ⟨rfl, u, lv, t1, st, stv, rfl, hst, hsc⟩ hIge ho F N
    rw [Int.zero_add] at F
    have hi' : i < rs.length := by omega
    obtain ⟨a, d, tka, ua, hxa, hma, hda, hua⟩ := tagAt hT hi'
    have hx0 : vs[((i : Nat) : Int).toNat]? = some (.ref a) := by rw [Int.toNat_natCast]; exact hxa
    have hrok : rowOk ((rowAt rs i).1, (rowAt rs i).2) = true := by
      refine hok _ ?_
      show rowAt rs i ∈ rs
      unfold rowAt
      rw [List.getD_eq_getElem?_getD, List.getElem?_eq_getElem hi']
      exact List.getElem_mem hi'
    cases st with
    | none =>
      have hst : stv = .none := hst
      subst hst
      by_cases e1 : rowAt rs i = (1000, .s x)
      · have e1d : decide (((rowAt rs i).1, (rowAt rs i).2) = ((1000, .s x) : Row)) = true := decide_eq_true e1
        have hi2 := hnx i hi' e1
        obtain ⟨a2, d2, tka2, ua2, hxa2, hma2, hda2, hua2⟩ := tagAt hT hi2
        have hx2 : vs[(((i : Nat) : Int) + 1).toNat]? = some (.ref a2) := by rw [show (((i : Nat) : Int) + 1).toNat = i + 1 by omega]; exact hxa2
        have hrok2 : rowOk ((rowAt rs (i + 1)).1, (rowAt rs (i + 1)).2) = true := by
          refine hok _ ?_
          show rowAt rs (i + 1) ∈ rs
          unfold rowAt
          rw [List.getD_eq_getElem?_getD, List.getElem?_eq_getElem hi2]
          exact List.getElem_mem hi2
        by_cases e2 : rowAt rs (i + 1) = opn
        · have e2d : decide (((rowAt rs (i + 1)).1, (rowAt rs (i + 1)).2) = opn) = true := decide_eq_true e2
          (try dsimp only)
          (try k_fold)
          k_steps
          rename_i hA FA NA
          show TurnEnd _ _ _ _ _ _ _ Flow.cont _
          exact turn_cont (turn_drop FA NA (by intro q hq; repeat (first | exact hq | exact List.mem_append_right _ hq | refine List.Mem.tail _ ?_)) ho (gseJ_mk (st := some i) (by (simp only [upds, ofString_eq, String.reduceEq, reduceIte] <;> exact rfl)) (by (simp only [upds, ofString_eq, String.reduceEq, reduceIte] <;> exact rfl)) (by (simp only [upds, ofString_eq, String.reduceEq, reduceIte] <;> exact rfl)) (by (simp only [upds, ofString_eq, String.reduceEq, reduceIte] <;> exact rfl)) (by (simp only [upds, ofString_eq, String.reduceEq, reduceIte] <;> exact rfl)) ⟨_, rfl⟩ (sc_none_hit hsc e1 e2)))
        · have e2d : decide (((rowAt rs (i + 1)).1, (rowAt rs (i + 1)).2) = opn) = false := decide_eq_false e2
          (try dsimp only)
          (try k_fold)
          k_steps
          rename_i hA FA NA
          exact turn_drop FA NA (by intro q hq; repeat (first | exact hq | exact List.mem_append_right _ hq | refine List.Mem.tail _ ?_)) ho (gseJ_mk (st := none) (by (simp only [upds, ofString_eq, String.reduceEq, reduceIte] <;> exact rfl)) (by (simp only [upds, ofString_eq, String.reduceEq, reduceIte] <;> exact rfl)) (by (simp only [upds, ofString_eq, String.reduceEq, reduceIte] <;> exact rfl)) (by (simp only [upds, ofString_eq, String.reduceEq, reduceIte] <;> exact rfl)) (by (simp only [upds, ofString_eq, String.reduceEq, reduceIte] <;> exact rfl)) rfl (sc_none_miss hsc fun z => e2 z.2))
      · have e1d : decide (((rowAt rs i).1, (rowAt rs i).2) = ((1000, .s x) : Row)) = false := decide_eq_false e1
        (try dsimp only)
        (try k_fold)
        k_steps
        rename_i hA FA NA
        exact turn_drop FA NA (by intro q hq; repeat (first | exact hq | exact List.mem_append_right _ hq | refine List.Mem.tail _ ?_)) ho (gseJ_mk (st := none) (by (simp only [upds, ofString_eq, String.reduceEq, reduceIte] <;> exact rfl)) (by (simp only [upds, ofString_eq, String.reduceEq, reduceIte] <;> exact rfl)) (by (simp only [upds, ofString_eq, String.reduceEq, reduceIte] <;> exact rfl)) (by (simp only [upds, ofString_eq, String.reduceEq, reduceIte] <;> exact rfl)) (by (simp only [upds, ofString_eq, String.reduceEq, reduceIte] <;> exact rfl)) rfl (sc_none_miss hsc fun z => e1 z.1))
    | some b =>
      obtain ⟨tb, rfl⟩ : ∃ t, stv = .int (b : Int) t := hst
      by_cases e1 : rowAt rs i = opn
      · have e1d : decide (((rowAt rs i).1, (rowAt rs i).2) = opn) = true := decide_eq_true e1
        have hdel : del (rowAt rs i) = 1 := by rw [e1]; rfl
        by_cases e2 : lv + 1 = 0
        · have e2d : ((lv + 1) == 0) = true := by rw [e2]; rfl
          (try dsimp only)
          (try k_fold)
          k_steps
          rename_i hA FA NA
          show TurnEnd _ _ _ _ _ _ _ Flow.brk _
          refine turn_brk ?_
          have NB := news_sub (l' := news) NA (by intro q hq; repeat (first | exact hq | exact List.mem_append_right _ hq | refine List.Mem.tail _ ?_))
          clear NA N ho hIge
          (try dsimp only)
          (try k_fold)
          k_steps
          have hfin := sc_end hsc hdel e2
          exact hq b i _ _ _ _ _ _ _ (scan_fin hfin hi') (by assumption) (by assumption) (by assumption)
        · have e2d : ((lv + 1) == 0) = false := beq_eq_false_iff_ne.mpr e2
          (try dsimp only)
          (try k_fold)
          k_steps
          rename_i hA FA NA
          exact turn_drop FA NA (by intro q hq; repeat (first | exact hq | exact List.mem_append_right _ hq | refine List.Mem.tail _ ?_)) ho (gseJ_mk (st := some b) (by (simp only [upds, ofString_eq, String.reduceEq, reduceIte] <;> exact rfl)) (by (simp only [upds, ofString_eq, String.reduceEq, reduceIte] <;> exact rfl)) (by (simp only [upds, ofString_eq, String.reduceEq, reduceIte] <;> exact rfl)) (by (simp only [upds, ofString_eq, String.reduceEq, reduceIte] <;> exact rfl)) (by (simp only [upds, ofString_eq, String.reduceEq, reduceIte] <;> exact rfl)) ⟨_, rfl⟩ (sc_some hsc hdel e2))
      · have e1d : decide (((rowAt rs i).1, (rowAt rs i).2) = opn) = false := decide_eq_false e1
        by_cases e3 : rowAt rs i = clo
        · have e3d : decide (((rowAt rs i).1, (rowAt rs i).2) = clo) = true := decide_eq_true e3
          have hdel : del (rowAt rs i) = -1 := by rw [e3]; decide +kernel
          by_cases e2 : lv - 1 = 0
          · have e2d : ((lv - 1) == 0) = true := by rw [e2]; rfl
            (try dsimp only)
            (try k_fold)
            k_steps
            rename_i hA FA NA
            show TurnEnd _ _ _ _ _ _ _ Flow.brk _
            refine turn_brk ?_
            have NB := news_sub (l' := news) NA (by intro q hq; repeat (first | exact hq | exact List.mem_append_right _ hq | refine List.Mem.tail _ ?_))
            clear NA N ho hIge
            (try dsimp only)
            (try k_fold)
            k_steps
            have hfin := sc_end hsc hdel (by omega)
            exact hq b i _ _ _ _ _ _ _ (scan_fin hfin hi') (by assumption) (by assumption) (by assumption)
          · have e2d : ((lv - 1) == 0) = false := beq_eq_false_iff_ne.mpr e2
            (try dsimp only)
            (try k_fold)
            k_steps
            rename_i hA FA NA
            exact turn_drop FA NA (by intro q hq; repeat (first | exact hq | exact List.mem_append_right _ hq | refine List.Mem.tail _ ?_)) ho (gseJ_mk (st := some b) (by (simp only [upds, ofString_eq, String.reduceEq, reduceIte] <;> exact rfl)) (by (simp only [upds, ofString_eq, String.reduceEq, reduceIte] <;> exact rfl)) (by (simp only [upds, ofString_eq, String.reduceEq, reduceIte] <;> exact rfl)) (by (simp only [upds, ofString_eq, String.reduceEq, reduceIte] <;> exact rfl)) (by (simp only [upds, ofString_eq, String.reduceEq, reduceIte] <;> exact rfl)) ⟨_, rfl⟩ (sc_some hsc hdel e2))
        · have e3d : decide (((rowAt rs i).1, (rowAt rs i).2) = clo) = false := decide_eq_false e3
          have hdel : del (rowAt rs i) = 0 := by unfold del; rw [if_neg e1, if_neg e3]
          by_cases e2 : lv = 0
          · have e2d : (lv == 0) = true := by rw [e2]; rfl
            (try dsimp only)
            (try k_fold)
            k_steps
            rename_i hA FA NA
            show TurnEnd _ _ _ _ _ _ _ Flow.brk _
            refine turn_brk ?_
            have NB := news_sub (l' := news) NA (by intro q hq; repeat (first | exact hq | exact List.mem_append_right _ hq | refine List.Mem.tail _ ?_))
            clear NA N ho hIge
            (try dsimp only)
            (try k_fold)
            k_steps
            have hfin := sc_end hsc hdel (by omega)
            exact hq b i _ _ _ _ _ _ _ (scan_fin hfin hi') (by assumption) (by assumption) (by assumption)
          · have e2d : (lv == 0) = false := beq_eq_false_iff_ne.mpr e2
            (try dsimp only)
            (try k_fold)
            k_steps
            rename_i hA FA NA
            exact turn_drop FA NA (by intro q hq; repeat (first | exact hq | exact List.mem_append_right _ hq | refine List.Mem.tail _ ?_)) ho (gseJ_mk (st := some b) (by (simp only [upds, ofString_eq, String.reduceEq, reduceIte] <;> exact rfl)) (by (simp only [upds, ofString_eq, String.reduceEq, reduceIte] <;> exact rfl)) (by (simp only [upds, ofString_eq, String.reduceEq, reduceIte] <;> exact rfl)) (by (simp only [upds, ofString_eq, String.reduceEq, reduceIte] <;> exact rfl)) (by (simp only [upds, ofString_eq, String.reduceEq, reduceIte] <;> exact rfl)) ⟨_, rfl⟩ (sc_same hsc hdel e2))
  case done =>
    rintro m9 nx h9 tk ⟨rfl, u, lv, t1, st, stv, rfl, hst, hsc⟩ F N
    rw [hvl] at hsc
    cases st with
    | none =>
      have hst : stv = .none := hst
      subst hst
      (try dsimp only)
      (try k_fold)
      k_steps
      exact hn _ g1 _ _ _ _ hsc FG1 (by assumption) (by assumption)
    | some b =>
      obtain ⟨tb, rfl⟩ : ∃ t, stv = .int (b : Int) t := hst
      (try dsimp only)
      (try k_fold)
      k_steps
      exact hd _ _ g1 _ _ _ _ _ hsc FG1 (by first | assumption | exact RaisedC.s (by assumption)) (by assumption)
end

/- part MRm -/
end
theorem fresh_MRm : True ∧ True := by
  w_top off
  first
    | (walk1; done)
    | exact ⟨True.intro, True.intro⟩
section
theorem scan_le (T : List Row) (x : Str) : ∀ n, (∀ b, (scan T x n).start = some b → b < n) ∧ (∀ e, (scan T x n).fin = some e → e < n ∧ ∀ b, (scan T x n).start = some b → b ≤ e)
  | 0 => ⟨fun b h => by simp [scan] at h, fun e h => by simp [scan] at h⟩
  | n + 1 => by
    have ih := scan_le T x n
    rw [scan_succ]
    unfold scStep
    split
    · rename_i f hf
      refine ⟨fun b h => Nat.lt_succ_of_lt (ih.1 b h), fun e h => ⟨Nat.lt_succ_of_lt (ih.2 e h).1, (ih.2 e h).2⟩⟩
    · rename_i hf
      split
      · split
        · refine ⟨fun b h => ?_, fun e h => ?_⟩
          · simp at h; omega
          · rw [hf] at h; cases h
        · refine ⟨fun b h => Nat.lt_succ_of_lt (ih.1 b h), fun e h => ?_⟩
          rw [hf] at h; cases h
      · rename_i b hb
        refine ⟨fun b' h => ?_, fun e h => ?_⟩
        · simp at h
          subst h
          exact Nat.lt_succ_of_lt (ih.1 _ hb)
        · dsimp only at h
          split at h
          · simp at h
            subst h
            refine ⟨Nat.lt_succ_self _, fun b' h' => ?_⟩
            simp at h'
            subst h'
            exact Nat.le_of_lt (ih.1 _ hb)
          · cases h
theorem scan_lt {T : List Row} {x : Str} {n b e : Nat} {lv : Int} (h : scan T x n = ⟨some b, lv, some e⟩) : b ≤ e ∧ e < n := by
  have h2 := (scan_le T x n).2 e (by rw [h])
  exact ⟨h2.2 b (by rw [h]), h2.1⟩
set_option maxHeartbeats 4000000 in
theorem rm_spec {w : World} {A A₀ : Around} {s : Shared} {base h₀ : Heap} {outer : List Env} {env : Env} {L : Addr} {m mg mb : Str → Option Value} {p₀ : Program} {loose : List Str} {news : List (Addr × Obj)} {E : Value → Shared → Prop} {Q : Value → Shared → Prop} {l dl : Addr} {vs : List Value} {n : Nat} {rs : List Row} {x : Str} {tx : Tok} (cx : Cx w A A₀ base h₀ outer env L mg mb p₀ loose) (F : Fr h₀ L s.heap m) (N : News h₀ L s.heap ((l, tagsObj dl vs n) :: news)) (hr : A.depth + 80 < recursionLimit) (hu : A.units + 1500 < cLine)
    (hoff : ∀ p ∈ news, p.1 ≠ l) (hT : TagsIn news vs rs) (hz : rs.length ≤ 900) (hok : ∀ r ∈ rs, rowOk r = true) (hokx : rowOk (1000, .s x) = true) (hnx : ∀ i, i < rs.length → rowAt rs i = (1000, .s x) → i + 1 < rs.length)
    (hq : ∀ b e lv n' h' tk', scan rs x rs.length = ⟨some b, lv, some e⟩ → Fr h₀ L h' m → News h₀ L h' ((l, tagsObj dl (vs.take b ++ vs.drop (e + 1)) n') :: news) → Q (.ref l) { s with heap := h', toks := tk' })
    (hn : ∀ lv g e t h' tk', scan rs x rs.length = ⟨none, lv, none⟩ → Fr h₀ L g m → RaisedS base g (env :: outer) e (.ref 396) t [] ((l, tagsObj dl vs n) :: news) h' → g.UpToSlots h' → E (.ref e) { s with heap := h', toks := tk' })
    (hd : ∀ b lv g e t vs' h' tk', scan rs x rs.length = ⟨some b, lv, none⟩ → Fr h₀ L g m → RaisedS base g (env :: outer) e (.ref 154) t vs' ((l, tagsObj dl vs n) :: news) h' → g.UpToSlots h' → E (.ref e) { s with heap := h', toks := tk' }) :
    wpAny (model Challenge.rw_fy0015_01.row.toRowW.1 w) A (call (.ref 379) [.str x tx, .ref l]) Q E s := by
  obtain ⟨B, X₀, T, hh, hA, hf, hk⟩ := cx
  revert X₀
  k_fill
  intro X₀
  obtain ⟨_, _, _, _, _⟩ := A
  obtain ⟨⟨_, _, _, _, _⟩, _, _, _, _, _, _, _, _⟩ := env
  dsimp only at hA hf hk hh hr hu
  subst hA hf hk hh
  refine wpAny_call ?_
  k_enter
  rename_i g1 L1 h1 FG1 F1 N1 B1 X1 T1 l1 hlt1
  k_steps
  refine stop_go (gse_spec (rs := rs) (by exact ⟨B1, X1, T1, rfl, rfl, rfl, rfl⟩) F1 N1 (by k_room) (by k_units) (List.Mem.head _) (hT.mono fun p hp => List.Mem.tail _ hp) hz hok hokx hnx ?hq ?hn ?hd)
  case hn =>
    intro lv g e t h' tk' hs FG R U
    refine leave_onS B1 FG R.s U fun h2 R2 RK2 U2 => ?_
    exact hn _ _ _ _ _ _ hs FG1 R2 U2
  case hd =>
    intro b lv g e t vs' h' tk' hs FG R U
    refine leave_onS B1 FG R U fun h2 R2 RK2 U2 => ?_
    exact hd _ _ _ _ _ _ _ _ hs FG1 R2 U2
  case hq =>
    intro b e lv t t1 t2 nn h2 tk2 hs F2 N2 lt2
    k_steps
    rename_i h3 F3 N3
    have hbe := scan_lt hs
    have hvl : vs.length = rs.length := hT.length
    have F4 := F3.push ({ cls := .type "slice", data := .fields #[.int (b : Int) t1, .int ((e : Int) + 1) t2, .none] } : Obj)
    have N4 := N3.push F3 ({ cls := .type "slice", data := .fields #[.int (b : Int) t1, .int ((e : Int) + 1) t2, .none] } : Obj)
    have hX := X1.keeps F4.keep
    have hlt3 : @LT.lt Nat _ l h3.objs.size := Heap.lt_size (N3 (l, tagsObj dl vs n) (List.Mem.tail _ (List.Mem.head _))).1
    refine sub_del (dx := dl) (vs := vs) (n := n) (a := b) (b := e + 1) (ta := t1) (tb := t2) (pre := [(h3.objs.size, _), (t, _)]) (post := news) F4 N4 ?_ hoff hX (subAt_of hX (N4 (l, tagsObj dl vs n) (List.Mem.tail _ (List.Mem.tail _ (List.Mem.head _)))).1 lst366) dq366 dim366 (Heap.IsSliceOf.new _ _ _ _) (by omega) (by omega) (by omega) fun h5 n5 F5 N5 => ?_
    · intro p hp
      rcases List.mem_cons.mp hp with rfl | hp
      · exact Nat.ne_of_gt hlt3
      rcases List.mem_cons.mp hp with rfl | hp
      · exact Nat.ne_of_gt lt2.head
      · cases hp
    have N6 := news_sub (l' := (l, tagsObj dl (vs.take b ++ vs.drop (e + 1)) n5) :: news) N5 fun p hp => List.Mem.tail _ (List.Mem.tail _ hp)
    clear N5 N4 F4 N3 F3
    k_steps
    exact hq _ _ _ _ _ _ hs (by assumption) (by assumption)
end

/- part MGn -/
theorem fresh_MGn : True ∧ True := by
  w_top off
  first
    | (walk1; done)
    | exact ⟨True.intro, True.intro⟩
section
local macro_rules | `(tactic| walk_at "subscriptTail Name Slice ref ref") => `(tactic| (k_here; with_reducible refine stop_sub ?_))
section
set_option maxHeartbeats 4000000 in
theorem gn_spec {w : World} {A A₀ : Around} {s : Shared} {base h₀ : Heap} {outer : List Env} {env : Env} {L : Addr} {m mg mb : Str → Option Value} {p₀ : Program} {loose : List Str} {news : List (Addr × Obj)} {E : Value → Shared → Prop} {Q : Value → Shared → Prop} {l dl : Addr} {vs : List Value} {n : Nat} {rs : List Row} {x : Str} {tx : Tok} (cx : Cx w A A₀ base h₀ outer env L mg mb p₀ loose) (F : Fr h₀ L s.heap m) (N : News h₀ L s.heap news) (hr : A.depth + 80 < recursionLimit) (hu : A.units + 1500 < cLine)
    (hl : (l, tagsObj dl vs n) ∈ news) (hT : TagsIn news vs rs) (hz : rs.length ≤ 900) (hok : ∀ r ∈ rs, rowOk r = true) (hokx : rowOk (1000, .s x) = true) (hnx : ∀ i, i < rs.length → rowAt rs i = (1000, .s x) → i + 1 < rs.length)
    (hq : ∀ b e lv (y dy : Nat) n' add h' tk', scan rs x rs.length = ⟨some b, lv, some e⟩ → Fr h₀ L h' m → News h₀ L h' ((y, tagsObj dy ((vs.drop b).take (e + 1 - b)) n') :: (add ++ news)) → (∀ p ∈ add, top news ≤ p.1 ∧ p.1 < y) → top news ≤ y → Q (.ref y) { s with heap := h', toks := tk' })
    (hn : ∀ lv g e t h' tk', scan rs x rs.length = ⟨none, lv, none⟩ → Fr h₀ L g m → RaisedC base g (env :: outer) e (.ref 396) t [] news h' → g.UpToSlots h' → E (.ref e) { s with heap := h', toks := tk' })
    (hdx : ∀ b lv g e t vs' h' tk', scan rs x rs.length = ⟨some b, lv, none⟩ → Fr h₀ L g m → RaisedS base g (env :: outer) e (.ref 154) t vs' news h' → g.UpToSlots h' → E (.ref e) { s with heap := h', toks := tk' }) :
    wpAny (model Challenge.rw_fy0015_01.row.toRowW.1 w) A (call (.ref 386) [.str x tx, .ref l]) Q E s := by
  obtain ⟨B, X₀, T, hh, hA, hf, hk⟩ := cx
  revert X₀
  k_fill
  intro X₀
  obtain ⟨_, _, _, _, _⟩ := A
  obtain ⟨⟨_, _, _, _, _⟩, _, _, _, _, _, _, _, _⟩ := env
  dsimp only at hA hf hk hh hr hu
  subst hA hf hk hh
  refine wpAny_call ?_
  k_enter
  rename_i g1 L1 h1 FG1 F1 N1 B1 X1 T1 l1 hlt1
  k_steps
  refine stop_go (gse_spec (rs := rs) (by exact ⟨B1, X1, T1, rfl, rfl, rfl, rfl⟩) F1 N1 (by k_room) (by k_units) hl hT hz hok hokx hnx ?hq ?hn ?hdx)
  case hn =>
    intro lv g e t h' tk' hs FG R U
    refine leave_onC B1 FG R U fun h2 R2 U2 => ?_
    exact hn _ _ _ _ _ _ hs FG1 R2 U2
  case hdx =>
    intro b lv g e t vs' h' tk' hs FG R U
    refine leave_onS B1 FG R U fun h2 R2 RK2 U2 => ?_
    exact hdx _ _ _ _ _ _ _ _ hs FG1 R2 U2
  case hq =>
    intro b e lv t t1 t2 nn h2 tk2 hs F2 N2 lt2
    k_steps
    rename_i h3 F3 N3
    have hbe := scan_lt hs
    have hvl : vs.length = rs.length := hT.length
    have F4 := F3.push ({ cls := .type "slice", data := .fields #[.int (b : Int) t1, .int ((e : Int) + 1) t2, .none] } : Obj)
    have N4 := N3.push F3 ({ cls := .type "slice", data := .fields #[.int (b : Int) t1, .int ((e : Int) + 1) t2, .none] } : Obj)
    have hX := X1.keeps F4.keep
    have hl4 := (N4 (l, tagsObj dl vs n) (List.Mem.tail _ (List.Mem.tail _ hl))).1
    have Y4 : SubAt (model Challenge.rw_fy0015_01.row.toRowW.1 w) _ (hd.heap_39 w.params) 366 l := subAt_of hX hl4 lst366
    have ep : slicePick vs.toArray (some ((b : Nat) : Int)) (some (((e + 1 : Nat)) : Int)) none = ((vs.drop b).take (e + 1 - b)).toArray := by
      rw [slicePick_run vs.toArray b (e + 1) (by simp; omega) (by omega)]
    refine sub_go ?_
    refine sub_tail hX Y4 gim366 (sub_slice hX Y4 ⟨_, _, hl4, rfl⟩ dq366 gim366 (Heap.IsSliceOf.new _ _ _ _) (IsPart.int ((b : Nat) : Int) t1) (IsPart.int (((e + 1 : Nat)) : Int) t2) IsPart.none (by simp) ?_ (by simp [sizeLine_eq]; omega)) (by with_unfolding_all rfl)
    rw [ep]
    have F5 := F4.push ({ cls := .type "list", data := .seq ((vs.drop b).take (e + 1 - b)).toArray } : Obj)
    have N5 := N4.push F4 ({ cls := .type "list", data := .seq ((vs.drop b).take (e + 1 - b)).toArray } : Obj)
    dsimp only at F5 N5 ⊢
    have hz3 : ((vs.drop b).take (e + 1 - b)).length ≤ 1000 := by simp; omega
    k_steps
    refine stop_go (tags_list (by exact ⟨B1, X1, T1, rfl, rfl, rfl, rfl⟩) F5 N5 (by k_room) (by k_units) (List.Mem.head _) hz3 fun y dy h6 n6 F6 N6 ly hyd => ?_)
    clear N5 F5 N4 F4
    k_steps
    have h3t : @LT.lt Nat _ t h3.objs.size := Heap.lt_size (N3 _ (List.Mem.head _)).1
    have htn := lt2.num
    have hs3 : (h3.push ({ cls := .type "slice", data := .fields #[.int (b : Int) t1, .int ((e : Int) + 1) t2, .none] } : Obj)).objs.size = h3.objs.size + 1 := Heap.size_push _ _
    have hy1 := ly.lt (t, _) (List.Mem.tail _ (List.Mem.tail _ (List.Mem.head _)))
    have hy2 := ly.lt (h3.objs.size, _) (List.Mem.tail _ (List.Mem.head _))
    have hy3 := ly.head
    dsimp only at hy1 hy2 hy3
    refine hq b e lv y dy n6 [(dy, emptyDict), (_, _), (_, _), (t, _)] _ _ hs (by assumption) (by assumption) ?_ (by omega)
    intro p hp
    rcases List.mem_cons.mp hp with rfl | hp
    · exact ⟨by show top news ≤ dy; omega, hyd⟩
    rcases List.mem_cons.mp hp with rfl | hp
    · exact ⟨by dsimp only; omega, Nat.lt_trans hy3 hyd⟩
    rcases List.mem_cons.mp hp with rfl | hp
    · exact ⟨by dsimp only; omega, Nat.lt_trans hy2 hyd⟩
    rcases List.mem_cons.mp hp with rfl | hp
    · exact ⟨htn, Nat.lt_trans hy1 hyd⟩
    · cases hp
end

/- part MDefS -/
section
section
variable {prog : Program} {w : World} {A₀ A : Around} {s : Shared} {base h₀ : Heap} {env : Env} {outer : List Env} {L : Addr} {m : Str → Option Value} {news : List (Addr × Obj)} {K : Frag} {p : Program} {loose : List Str} {mean : ExcName → Option Value} {mg mb : Str → Option Value}
    {R : Result → Shared → Prop} {name qual : Str} {params : Arguments} {body : List Stmt} {scope : Scope} {dV kV doc pm cdv ct oc : Value} {an od : Option Addr} {osl : Array (Option Value)} {f : Addr} {args : Args} {binds : List (Str × Value)}
theorem hide_enter (B : Below A₀ base outer h₀) (F : Fr h₀ L s.heap m) (N : News h₀ L s.heap news) (hA : A.frames = some (env :: outer)) (hf : env.frame = some L) (hke : env.scope.kind = .function) (hl : env.locals = L) :
    ∃ oL es ep, (hideAll s.heap (news.map (·.1))).get? L = some oL ∧ oL.data = .dict es ep ∧ (∀ h', h'.get? L = some oL → Heap.Ns h' L m) ∧ (∀ (sl : Array (Option Value)) h', h'.get? L = some { oL with slots := sl } → Heap.Ns h' L m) ∧
      h₀.StaysIn (hideAll s.heap (news.map (·.1))) ∧ Below A base (env :: outer) (hideAll s.heap (news.map (·.1))) := by
  have nm : ∀ b o, h₀.get? b = some o → b ∉ news.map (·.1) := fun b o e q => by
    obtain ⟨p, hp, rfl⟩ := List.mem_map.mp q
    rw [(N p hp).2.2] at e; cases e
  have st : h₀.StaysIn (hideAll s.heap (news.map (·.1))) := fun b o e => hideAll_get _ (F.keep b o e) (nm b o e)
  obtain ⟨oL, es, ep, hL, hLd, hLk, hLf⟩ := id F.ns
  have nL : L ∉ news.map (·.1) := fun q => by
    obtain ⟨p, hp, e⟩ := List.mem_map.mp q
    exact (N p hp).2.1 e
  have hLg := hideAll_get (news.map (·.1)) hL nL
  have Fg : Fr h₀ L (hideAll s.heap (news.map (·.1))) m := ⟨⟨oL, es, ep, hLg, hLd, hLk, hLf⟩, st, F.above⟩
  exact ⟨oL, es, ep, hLg, hLd, fun h' e => ⟨oL, es, ep, e, hLd, hLk, hLf⟩, fun sl h' e => ⟨_, es, ep, e, hLd, hLk, hLf⟩, st, below_gen B Fg hA hf hke hl⟩
theorem one_frame {b : Addr} (hf : env.frame = some L) (h : b ∈ [env].filterMap (·.frame)) : b = L := by
  simp [hf] at h
  exact h
theorem code_defS0R (B : Below A₀ base [] h₀) (F : Fr h₀ L s.heap m) (X₀ : K.In h₀) (N : News h₀ L s.heap news) (T : Top p loose mean mg mb h₀) (hA : A.frames = some [env]) (hf : env.frame = some L) (hke : env.scope.kind = .function) (hl : env.locals = L)
    (ho : K.lookup f = some ⟨oc, od, .func (fnOf name qual params body scope dV kV doc pm an cdv ct), osl⟩) (hcd : codeIn K cdv qual = true) (hroom : A.depth < recursionLimit)
    (hbind : BindsTo s (fnOf name qual params body scope dV kV doc pm an cdv ct) args binds) (hloc : ∀ y ∈ binds, scope.names.lookup y.1 = some .local)
    (h : ∀ g L' h₁, Fr h₀ L g m → Fr g L' h₁ (fun y => binds.reverse.lookup y) → News g L' h₁ news → Below A base [env] g → K.In g → Top p loose mean mg mb g → KtsDicts ([env].filterMap (·.frame)) g → (∀ p ∈ news, p.1 < L') →
      wpAny (model prog w) (A.deeper (envOf qual scope L' f cdv)) (execs body (envOf qual scope L' f cdv))
        (fun fl s' => LeaveS0 ([env].filterMap (·.frame)) h₀ L m g R (match fl with | .ret v => v | _ => .none) s')
        (fun e s' => wpAny (model prog w) (A.deeper (envOf qual scope L' f cdv)) (leaving (envOf qual scope L' f cdv) e) (fun _ s'' => R (.error e) s'') (fun e' s'' => R (.error e') s'') s')
        { s with heap := h₁, toks := s.toks + binds.length })
    (hco : scope.isCoroutine = false) (hgen : scope.isGenerator = false) (hk : scope.kind = .function)
    (hcell : ∀ x ∈ scope.names, x.2 ≠ .cell) : codeAny (model prog w) A (.call (.ref f) args) R s := by
  have X := X₀.keeps F.keep
  refine codeAny_call_def (fd := fnOf name qual params body scope dV kV doc pm an cdv ct) (body := body) (binds := binds) hroom (X _ _ ho) rfl (T.nolimit.keeps F.keep) (codeRec_of X hcd) rfl hbind hcell hloc (fun h₁ hns hk₁ => ?_) hco hgen hk
  obtain ⟨oL, es, ep, hLg, hLd, hN, hNs, st, B₂⟩ := hide_enter B F N hA hf hke hl
  refine wpAny_mono (h _ s.heap.objs.size h₁ ⟨hN _ hLg, st, F.above⟩ ⟨hns, fun b o e => hk₁ b o (of_hideAll _ e), Nat.le_of_eq (hideAll_size _ _)⟩
    (fun p hp => ⟨hk₁ _ _ (N p hp).1, Nat.ne_of_lt (Heap.lt_size (N p hp).1), hideAll_none _ (List.mem_map_of_mem hp)⟩) B₂ (X₀.keeps st) (T.keeps st) (fun b hb => by
      have e := one_frame hf hb
      rw [e]
      exact ⟨oL, es, ep, hLg, hLd⟩) (fun p hp => Heap.lt_size (N p hp).1)) (fun fl s' hl' => ?_) fun _ _ y => y
  obtain ⟨g', L', m', news', T', F', N', k⟩ := hl'
  have nL₀ : h₀.get? L = none := kts_self F
  obtain ⟨sl, hs⟩ := T'.up hLg
  refine k ⟨hNs sl _ (F'.keep _ _ hs), fun b o e => F'.keep b o (T'.other b o (st b o e) (fun q => by
    have z := one_frame hf q
    rw [z, nL₀] at e
    cases e)), F.above⟩ fun p hp => ⟨(N' p hp).1, fun q => ?_, ?_⟩
  · have := (N' p hp).2.2; rw [q, hs] at this; cases this
  · cases q : h₀.get? p.1 with
    | none => rfl
    | some o =>
      obtain ⟨sl', hs'⟩ := T'.up (st _ _ q)
      have := (N' p hp).2.2
      rw [hs'] at this
      cases this
end
end

/- part MDs -/
end
theorem fresh_MDs : True ∧ True := by
  w_top off
  first
    | (walk1; done)
    | exact ⟨True.intro, True.intro⟩
section
theorem TagsIn.take {l : List (Addr × Obj)} {vs : List Value} {rs : List Row} (h : TagsIn l vs rs) : ∀ k, TagsIn l (vs.take k) (rs.take k) := by
  induction h with
  | nil => intro k; simp; exact .nil
  | cons a b c _ ih =>
    intro k
    cases k with
    | zero => exact .nil
    | succ k => exact .cons a b c (ih k)
theorem TagsIn.drop {l : List (Addr × Obj)} {vs : List Value} {rs : List Row} (h : TagsIn l vs rs) : ∀ k, TagsIn l (vs.drop k) (rs.drop k) := by
  induction h with
  | nil => intro k; simp; exact .nil
  | cons a b c t ih =>
    intro k
    cases k with
    | zero => exact .cons a b c t
    | succ k => exact ih k
def cutRows (rs : List Row) (b e : Nat) : List Row := rs.take b ++ rs.drop (e + 1)
theorem cutRows_mem {rs : List Row} {b e : Nat} {r : Row} (h : r ∈ cutRows rs b e) : r ∈ rs := (List.mem_append.mp h).elim List.mem_of_mem_take List.mem_of_mem_drop
theorem raised_sub {base G : Heap} {l : List Env} {e t : Addr} {cls : Value} {vs : List Value} {news news' : List (Addr × Obj)} {h : Heap} (R : RaisedS base G l e cls t vs news h) (hs : ∀ p ∈ news', p ∈ news) : RaisedS base G l e cls t vs news' h := by
  obtain ⟨⟨B, hB, hBG, hl, hfl, hnew⟩, htup⟩ := R
  exact ⟨⟨B, hB, hBG, fun q hq => hl q (hs q hq), hfl, hnew⟩, htup⟩
set_option maxHeartbeats 4000000 in
theorem ds_spec {mean : ExcName → Option Value} {w : World} {A A₀ : Around} {s : Shared} {h₀ : Heap} {env : Env} {L : Addr} {m mg mb : Str → Option Value} {p₀ : Program} {loose : List Str} {news : List (Addr × Obj)} {E : Value → Shared → Prop} {Q : Value → Shared → Prop}
    {xo xd d l dl : Addr} {od : Obj} {tkx ta tx : Tok} {nx n : Nat} {kvs : List (Str × Value)} {vs : List Value} {rs : List Row} {ps1 ps : Array Value} {app x : Str} (TT : Top p₀ loose mean mg mb h₀) (hloc : env.locals = L) (hb : Bm mg h₀)
    (cx : Cx w A A₀ h₀ h₀ [] env L mg mb p₀ loose) (F : Fr h₀ L s.heap m) (N : News h₀ L s.heap ((468, tabObj ps1) :: (408, tabObj ps) :: (d, od) :: (l, tagsObj dl vs n) :: news)) (hr : A.depth + 200 < recursionLimit) (hu : A.units + 4000 < cLine) (hps1 : TriplesOk ps1.toList) (hps : TriplesOk ps.toList)
    (hoff1 : ∀ p ∈ news, p.1 ≠ 468) (hoff : ∀ p ∈ news, p.1 ≠ 408) (hoffd : ∀ p ∈ news, p.1 ≠ d) (hoffl : ∀ p ∈ news, p.1 ≠ l) (hd468 : @LT.lt Nat _ 468 d) (hl468 : @LT.lt Nat _ 468 l) (hld : @Ne Nat l d)
    (hx : (xo, instObj 525 xd) ∈ news) (hxd : (xd, xAttrs w tkx d nx) ∈ news) (hod : od.IsDictOf (strKind Challenge.rw_fy0015_01.row.toRowW.1 w) kvs) (hkz : kvs.length ≤ 1000) (hv : valueAt kvs app = some (.ref l))
    (hT : TagsIn news vs rs) (hz : rs.length ≤ 900) (hcod : ∀ r ∈ rs, r.1 ∈ vCodes) (hok : ∀ r ∈ rs, rowOk r = true) (hok2 : rowOk (1001, .s app) = true) (hokx : rowOk (1000, .s x) = true) (hnx : ∀ i, i < rs.length → rowAt rs i = (1000, .s x) → i + 1 < rs.length)
    (hcut : ∀ b e lv, scan rs x rs.length = ⟨some b, lv, some e⟩ → cutRows rs b e ≠ [])
    (hq : ∀ b e lv (ps1' ps' : Array Value) od' (y dy : Nat) vs' nn add h' tk gn, scan rs x rs.length = ⟨some b, lv, some e⟩ → Fr h₀ L h' m → News h₀ L h' ((468, tabObj ps1') :: (408, tabObj ps') :: (d, od') :: (y, tagsObj dy vs' nn) :: (add ++ news)) → TriplesOk ps1'.toList → TriplesOk ps'.toList →
      od'.IsDictOf (strKind Challenge.rw_fy0015_01.row.toRowW.1 w) (stored kvs app (.ref y)) → TagsIn add vs' (outRows (cutRows rs b e) app) → (∀ p ∈ add, top ((468, tabObj ps1) :: (408, tabObj ps) :: (d, od) :: (l, tagsObj dl vs n) :: news) ≤ p.1 ∧ p.1 ≠ y) → top ((468, tabObj ps1) :: (408, tabObj ps) :: (d, od) :: (l, tagsObj dl vs n) :: news) ≤ y → (AllBare s.gens → AllBare gn) → Q .none (gSt s h' tk gn))
    (hn : ∀ lv h' tk gn, scan rs x rs.length = ⟨none, lv, none⟩ → Fr h₀ L h' m → News h₀ L h' ((468, tabObj ps1) :: (408, tabObj ps) :: (d, od) :: (l, tagsObj dl vs n) :: news) → (AllBare s.gens → AllBare gn) → Q .none (gSt s h' tk gn))
    (hdx : ∀ b lv g e t vs' h' tk gn, scan rs x rs.length = ⟨some b, lv, none⟩ → Fr h₀ L g m → RaisedS h₀ g [env] e (.ref 154) t vs' ((468, tabObj ps1) :: (408, tabObj ps) :: (d, od) :: (l, tagsObj dl vs n) :: news) h' → g.UpToSlots h' → (AllBare s.gens → AllBare gn) → E (.ref e) (gSt s h' tk gn)) :
    wpAny (model Challenge.rw_fy0015_01.row.toRowW.1 w) A (call (.ref 515) [.ref xo, .str app ta, .str x tx]) Q E s := by
  obtain ⟨B, X₀, T, hh, hA, hf, hk⟩ := cx
  revert X₀
  k_fill
  intro X₀
  obtain ⟨_, _, _, _, _⟩ := A
  obtain ⟨⟨_, _, _, _, _⟩, _, _, _, _, _, _, _, _⟩ := env
  dsimp only at hA hf hk hh hr hu
  subst hA hf hk hh
  refine wpAny_call ?_
  refine' code_defS0R ?k1 ?k2 ?k3 ?k4 ?k5 ?kA ?kF ?kK ?kL ?k6 ?k7 ?k8 ?k9 ?kB ?_ ?c2 ?c3 ?c4 ?c5
  case kA => exact rfl
  case kF => exact rfl
  case kK => exact rfl
  case kL => exact hloc
  case k1 => k_asm
  case k2 => k_asm
  case k3 => k_asm
  case k4 => k_asm
  case k5 => exact TT
  case k6 => k_is
  case k7 => k_is
  case k8 => k_room
  case k9 => exact BindsTo.of_eq rfl
  case c5 => decide
  case kB => exact locs rfl
  case c2 => exact rfl
  case c3 => exact rfl
  case c4 => exact rfl
  intro g1 L1 h1 FG1 F1 N1 B1 X1 TT1 D1 l1
  have T1 : TopRead p₀ loose mg mb g1 := topRead_of TT1
  (try dsimp only)
  (try k_fold)
  k_steps
  have hd100 : @LT.lt Nat _ 100 d := Nat.lt_trans (by decide) hd468
  refine stop_go (get_spec (od := od) (d := d) (kvs := kvs) (tkx := tkx) (nx := nx) (xd := xd) (by exact ⟨B1, X1, T1, rfl, rfl, rfl, rfl⟩) F1 N1 (by k_room) (by k_units) (List.Mem.tail _ (List.Mem.tail _ (List.Mem.tail _ (List.Mem.tail _ hx)))) (List.Mem.tail _ (List.Mem.tail _ (List.Mem.tail _ (List.Mem.tail _ hxd)))) (List.Mem.tail _ (List.Mem.tail _ (List.Mem.head _))) hod hd100 hv fun h2 tk2 F2 N2 => ?_)
  k_steps
  rename_i h3 F3 N3
  have sub3 : ∀ p ∈ (l, tagsObj dl vs n) :: (468, tabObj ps1) :: (408, tabObj ps) :: (d, od) :: news, p ∈ (468, tabObj ps1) :: (408, tabObj ps) :: (d, od) :: (l, tagsObj dl vs n) :: news := (by intro p hp; (repeat' (rcases List.mem_cons.mp hp with rfl | hp)) <;> (repeat (first | exact List.Mem.head _ | exact hp | exact List.mem_append_right _ hp | refine List.Mem.tail _ ?_)))
  have hlne : ∀ p ∈ (468, tabObj ps1) :: (408, tabObj ps) :: (d, od) :: news, p.1 ≠ l := by
    intro p hp
    rcases List.mem_cons.mp hp with rfl | hp
    · exact Nat.ne_of_lt hl468
    rcases List.mem_cons.mp hp with rfl | hp
    · exact Nat.ne_of_lt (Nat.lt_trans (show @LT.lt Nat _ 408 468 by decide) hl468)
    rcases List.mem_cons.mp hp with rfl | hp
    · exact fun z => hld z.symm
    · exact hoffl p hp
  refine stop_go (rm_spec (rs := rs) (n := n) (dl := dl) (vs := vs) (news := (468, tabObj ps1) :: (408, tabObj ps) :: (d, od) :: news) (by exact ⟨B1, X1, T1, rfl, rfl, rfl, rfl⟩) F3 (news_sub N3 sub3) (by k_room) (by k_units) hlne (hT.mono fun p hp => List.Mem.tail _ (List.Mem.tail _ (List.Mem.tail _ hp))) hz hok hokx hnx ?hq ?hn ?hd)
  case hn =>
    intro lv g e t h' tk' hs FG R U
    k_steps
    exact hn _ _ _ _ hs (by assumption) (news_sub (l := (l, tagsObj dl vs n) :: (468, tabObj ps1) :: (408, tabObj ps) :: (d, od) :: news) (by assumption) (by intro p hp; (repeat' (rcases List.mem_cons.mp hp with rfl | hp)) <;> (repeat (first | exact List.Mem.head _ | exact hp | exact List.mem_append_right _ hp | refine List.Mem.tail _ ?_)))) id
  case hd =>
    intro b lv g e t vs' h' tk' hs FG R U
    k_steps
    exact hdx _ _ g1 _ _ _ _ _ _ hs FG1 (raised_sub (news := (l, tagsObj dl vs n) :: (468, tabObj ps1) :: (408, tabObj ps) :: (d, od) :: news) (by assumption) (by intro p hp; (repeat' (rcases List.mem_cons.mp hp with rfl | hp)) <;> (repeat (first | exact List.Mem.head _ | exact hp | exact List.mem_append_right _ hp | refine List.Mem.tail _ ?_)))) (by assumption) id
  case hq =>
    intro b e lv n4 h4 tk4 hs F4 N4
    k_steps
    rename_i h5 F5 N5
    have hT5 : TagsIn news (vs.take b ++ vs.drop (e + 1)) (cutRows rs b e) := (hT.take b).app (hT.drop (e + 1))
    refine stop_go (add_spec (xd := xd) (od := od) (tkx := tkx) (nx := nx) (kvs := kvs) (rows := cutRows rs b e) (ps1 := ps1) (ps := ps) (d := d) (vs := vs.take b ++ vs.drop (e + 1)) (ol := tagsObj dl (vs.take b ++ vs.drop (e + 1)) n4) (news := (l, tagsObj dl (vs.take b ++ vs.drop (e + 1)) n4) :: news) (hb.keeps FG1.keep) (by exact ⟨B1, X1, T1, rfl, rfl, rfl, rfl⟩) F5 (news_sub N5 (by intro p hp; (repeat' (rcases List.mem_cons.mp hp with rfl | hp)) <;> (repeat (first | exact List.Mem.head _ | exact hp | exact List.mem_append_right _ hp | refine List.Mem.tail _ ?_)))) (by k_room) (by k_units) hps1 hps ?o1 ?o2 ?o3 hd468 (List.Mem.tail _ hx) (List.Mem.tail _ hxd) hod hkz (List.Mem.head _) ⟨n4, .inr ⟨dl, rfl⟩⟩ (srcIn_tags (hT5.mono fun p hp => List.Mem.tail _ hp)) ?hz5 (hcut _ _ _ hs) (fun r hr => hcod r (cutRows_mem hr)) (fun r hr => hok r (cutRows_mem hr)) hok2 fun ps1' ps' od' y dy vs' nn add h6 tk6 gn6 F6 N6 q1 q2 q3 q4 q5 q6 q7 => ?_)
    case o1 =>
      intro p hp
      rcases List.mem_cons.mp hp with rfl | hp
      · exact Nat.ne_of_gt hl468
      · exact hoff1 p hp
    case o2 =>
      intro p hp
      rcases List.mem_cons.mp hp with rfl | hp
      · exact Nat.ne_of_gt (Nat.lt_trans (show @LT.lt Nat _ 408 468 by decide) hl468)
      · exact hoff p hp
    case o3 =>
      intro p hp
      rcases List.mem_cons.mp hp with rfl | hp
      · exact hld
      · exact hoffd p hp
    case hz5 =>
      have := hT5.length
      have hvl := hT.length
      have hbe := scan_lt hs
      rw [← this]
      simp
      omega
    k_steps
    refine hq b e lv ps1' ps' od' y dy vs' nn add _ _ _ hs (by assumption) (news_sub (l := (468, tabObj ps1') :: (408, tabObj ps') :: (d, od') :: (y, tagsObj dy vs' nn) :: (add ++ (l, tagsObj dl (vs.take b ++ vs.drop (e + 1)) n4) :: news)) (by assumption) ?_) q1 q2 q3 q4 q5 q6 q7
    intro p hp
    (repeat' (rcases List.mem_cons.mp hp with rfl | hp)) <;> (try rcases List.mem_append.mp hp with hp | hp) <;> (repeat (first | exact List.Mem.head _ | exact hp | exact List.mem_append_left _ hp | refine List.Mem.tail _ ?_ | refine List.mem_append_right _ ?_))
end

/- part MRaiseH -/
section
/-! raise X(..) inside an except clause: the new exception gets the handled one as its context. -/
namespace LF
theorem un_plain : plainId "proto.unchain" = true := by decide +kernel
theorem un_entry : entryFor table "proto.unchain" = some Builtin.«proto.unchain» := entryFor_of_tree (by kernel_rfl)
end LF
abbrev excH (cls : Value) (t e1 : Addr) : Obj := { cls := cls, data := .fields #[.ref t, .none, .ref e1, .none, .bool false, .none] }
structure MadeH (h h' : Heap) (e : Addr) (cls : Value) (args : List Value) (e1 : Addr) : Prop where
  keeps : ∀ b o, h.get? b = some o → h'.get? b = some o
  new : h.get? e = none
  there : ∃ t, h'.get? e = some (excH cls t e1) ∧ h.get? t = none ∧ h'.get? t = some { cls := .type "tuple", data := .seq args.toArray }
theorem made_held {h h1 : Heap} {e t e1 : Addr} {cls : Value} {args : List Value} (hm : Heap.MadeExcOf h h1 e cls args) (ht : h1.get? e = some { cls := cls, data := .fields #[.ref t, .none, .none, .none, .bool false, .none] }) :
    MadeH h (h1.update e (Obj.mapFields (·.setIfInBounds 2 (.ref e1)))) e cls args e1 := by
  obtain ⟨k, hn, t', he, htn, htt⟩ := hm
  rw [ht] at he
  cases he
  have ne : ∀ b o, h.get? b = some o → b ≠ e := fun b o q z => by rw [z, hn] at q; cases q
  have nt : t ≠ e := fun z => by rw [z, ht] at htt; cases htt
  refine ⟨fun b o q => ?_, hn, t, ?_, htn, ?_⟩
  · rw [Heap.get?_update_other _ _ (Ne.symm (ne b o q))]
    exact k b o q
  · have := Heap.get?_update_self (Obj.mapFields (·.setIfInBounds 2 (.ref e1))) ht rfl
    rw [this]
    rfl
  · rw [Heap.get?_update_other _ _ (Ne.symm nt)]
    exact htt
section
variable {prog : Program} {w : World} {A : Around} {E : Value → Shared → Prop} {s : Shared}
theorem raiseNew_held {α : Type} {e e1 : Addr} {oe o1 : Obj} {vs vs1 : Array Value} {Q : α → Shared → Prop} (hh : A.handled = some (.ref e1)) (hne : e1 ≠ e) (he : s.heap.get? e = some oe) (hd : oe.data = .fields vs) (hz : 2 < vs.size) (h1 : s.heap.get? e1 = some o1) (hd1 : o1.data = .fields vs1) (hc : vs1[2]? = some .none)
    (h : E (.ref e) { s with heap := s.heap.update e (Obj.mapFields (·.setIfInBounds 2 (.ref e1))) }) : wpAny (model prog w) A (raiseNew (.ref e) : Sem α) Q E s := by
  unfold raiseNew
  refine wpAny_bind (wpAny_handled ?_)
  rw [hh]
  dsimp only
  have e2 : (Value.ref e1 != Value.ref e) = true := by simp [hne]
  simp only [e2, if_true]
  refine wpAny_bind (wpAny_holding (wpAny_runValue ?_))
  refine codeAny_builtin LF.un_entry ?_
  rw [Around.under_plainId LF.un_plain _]
  unfold Builtin.«proto.unchain»
  dsimp only
  refine wpAny_bind (wpAny_field h1 hd1 hc ?_)
  simp only [beq_self_eq_true, if_true]
  refine wpAny_pure ?_
  refine wpAny_bind ?_
  unfold updateField
  refine wpAny_bind (wpAny_load he ?_)
  rw [hd]
  dsimp only
  rw [if_pos hz]
  refine wpAny_update he ?_
  exact wpAny_throw h
theorem raiseStmt_held {env : Env} {nm q : Str} {C N : Addr} {bs bm : List Value} {hdct : Bool} {sn : List Str} {sub : List Value} {ab : Bool} {col : Option Bool} {dd : Option Addr} {k0 k1 k2 k3 k5 : Option Value} {newId : String} {e1 : Addr} {x : Sem Value} {Q : Flow → Shared → Prop} (hbase : bm.contains (.type "BaseException") = true) (hh : A.handled = some (.ref e1))
    (h : wpAny (model prog w) A x (fun v s₁ => ∃ e t o1 vs1, v = .ref e ∧ s₁.heap.get? C = some (excClassObj nm q C N bs bm hdct sn sub ab col dd k0 k1 k2 k3 k5 newId) ∧
      s₁.heap.get? e = some { cls := .ref C, data := .fields #[.ref t, .none, .none, .none, .bool false, .none] } ∧ e1 ≠ e ∧ s₁.heap.get? e1 = some o1 ∧ o1.data = .fields vs1 ∧ vs1[2]? = some .none ∧ E (.ref e) { s₁ with heap := s₁.heap.update e (Obj.mapFields (·.setIfInBounds 2 (.ref e1))) }) E s) :
    wpAny (model prog w) A (raiseStmt env (some x) none) Q E s := by
  have hcB : (Value.ref C :: bm).contains (.type "BaseException") = true := by rw [List.contains_cons, hbase, Bool.or_true]
  unfold raiseStmt
  refine wpAny_bind (wpAny_mono h (fun v s₁ h₁ => ?_) fun _ _ x => x)
  obtain ⟨e, t, o1, vs1, rfl, hC, he, hne, h1, hd1, hc, hE⟩ := h₁
  obtain ⟨hp, g, d, tk, os⟩ := s₁
  repeat (first | with_reducible refine wpAny_loadPart_at he ?_ | with_reducible refine wpAny_loadPart_at hC ?_ | (with_reducible refine wpAny_isSubtype_exc hC ?_; rw [hcB]) | wp_step)
  exact raiseNew_held hh hne he rfl (show (2:Nat) < 6 by decide) h1 hd1 hc hE
end
section
variable {prog : Program} {w : World} {A : Around} {E : Value → Shared → Prop} {s : Shared} {name : Str} {scope : Scope} {L a e1 : Addr} {cd : Value} {h₀ : Heap} {m mg : Str → Option Value}
  {x : Str} {C : Addr} {B newId initId : String} {bm : List Value} {np cpos pos : Pos} {Q : Flow → Shared → Prop}
theorem Raise_ownH {e₀ : PySem.Expr} {rest : List PySem.Expr} (F : Fr h₀ L s.heap m) (hg : h₀.Ns mainGlobals mg) (O : OwnCls x C bm newId mg h₀) (FB : ExcBaseFacts B newId initId bm) (hh : A.handled = some (.ref e1))
    (h : wpAny (model prog w) A (spliced (backTo cpos (starEach (e₀ :: rest) (envOf name scope L a cd)))) (fun vs s₂ => vs.length ≤ sizeLine ∧ (∀ b o, h₀.get? b = some o → s₂.heap.get? b = some o) ∧ (∃ o1 vs1, s₂.heap.get? e1 = some o1 ∧ o1.data = .fields vs1 ∧ vs1[2]? = some .none) ∧
      ∀ h' e, MadeH s₂.heap h' e (.ref C) vs e1 → E (.ref e) { s₂ with heap := h' }) E s)
    (he : starEach (e₀ :: rest) (envOf name scope L a cd) = (false, eval e₀ (envOf name scope L a cd)) :: starEach rest (envOf name scope L a cd) := by rfl)
    (hplain : (backTo cpos (starEach rest (envOf name scope L a cd))).any (·.1) = false := by rfl)
    (hk : scope.kind = .function := by rfl) (hx : (envOf name scope L a cd).kindOf x = some .globalImplicit := by rfl) (hd : (x == ("__debug__" : Str)) = false := by decide) :
    wpAny (model prog w) A (exec (.Raise (some (.Call (.Name x np) (e₀ :: rest) [] cpos)) none pos) (envOf name scope L a cd)) Q E s := by
  obtain ⟨tl, N, nm, q, bs, hdct, sn, sub, ab, col, dd, k0, k1, k2, k3, k5, mN, hC, hN, hni, T⟩ := O.obj
  have hbase := T.hasType FB.hasBase
  rw [arm_exec_Raise]
  refine wpAny_bind (wpAny_standAt ?_)
  show wpAny _ _ (raiseStmt (envOf name scope L a cd) (some (do let v ← eval (.Call (.Name x np) (e₀ :: rest) [] cpos) (envOf name scope L a cd); standAt pos; pure v)) none) _ _ _
  refine raiseStmt_held (C := C) (nm := nm) (q := q) (N := N) (bs := bs) (bm := tl) (hdct := hdct) (sn := sn) (sub := sub) (ab := ab) (col := col) (dd := dd) (k0 := k0) (k1 := k1) (k2 := k2) (k3 := k3) (k5 := k5) (newId := newId) hbase hh ?_
  refine wpAny_bind ?_
  have hpl : (backTo cpos (starEach (e₀ :: rest) (envOf name scope L a cd))).any (·.1) = false := by rw [he]; show (false || (backTo cpos (starEach rest (envOf name scope L a cd))).any (·.1)) = false; rw [hplain]; rfl
  show wpAny _ _ (eval (.Name x np) (envOf name scope L a cd) >>= fun f => callWith cpos f [] (backTo cpos (starEach (e₀ :: rest) (envOf name scope L a cd))) (backToKw cpos (keywordEach [] (envOf name scope L a cd)))) _ _ _
  refine wpAny_bind (ld_own F hg O ?_ hk hx hd)
  unfold callWith
  rw [he] at h hpl ⊢
  refine wpAny_bind (wpAny_holding (Calls.evalArgs_plain (wpAny_mono h (fun vs s₂ h₂ => ?_) fun _ _ y => y)))
  obtain ⟨hlen, hkp, ⟨o1, vs1, h1, hd1, hc⟩, h₂⟩ := h₂
  refine wpAny_bind (wpAny_standAt ?_)
  obtain ⟨hp, g, d, tk, os⟩ := s₂
  have hC2 := hkp _ _ hC
  have hN2 := hN.keeps hkp
  have T2 := T.keeps hkp
  simp only [hpl]
  refine wpAny_bind (wpAny_keeperOf_exc hC2 ?_)
  refine wpAny_bind (wpAny_call_exc_subT (hrest := hlen) FB T2 hC2 hN2 hni fun h' e hm => wpAny_bind (wpAny_holding (wpAny_point (wpAny_pure ?_))))
  obtain ⟨t, ht, _, _⟩ := hm.there
  have hne : e1 ≠ e := fun z => by have := hm.new; rw [← z, h1] at this; cases this
  refine wpAny_bind (wpAny_standAt (wpAny_pure ⟨e, t, o1, vs1, rfl, hm.keeps _ _ hC2, ht, hne, hm.keeps _ _ h1, hd1, hc, ?_⟩))
  exact h₂ _ e (made_held hm ht)
end
section
variable {M : Model} {A : Around} {E : Value → Shared → Prop} {s' : Shared} {base g h : Heap} {outer : List Env} {L a e e1 : Addr} {m : Str → Option Value} {name : Str} {scope : Scope} {cd : Value} {Q : Unit → Shared → Prop} {news : List (Addr × Obj)}
theorem leave_raiseSH {cls : Value} {vs : List Value} (K : Below A base outer g) (hx : MadeH h s'.heap e cls vs e1) (F : Fr g L h m) (N : News g L h news)
    (hQ : ∀ h' t, RaisedS base g outer e cls t vs news h' → g.UpToSlots h' → Q () { s' with heap := h' }) (hk : scope.kind = .function := by rfl) :
    wpAny M (A.deeper (envOf name scope L a cd)) (leaving (envOf name scope L a cd) (.ref e)) Q E s' := by
  have K' := K.push (name := name) (a := a) (cd := cd) F hk
  have hin : ∀ env ∈ (envOf name scope L a cd :: outer), ∀ b, env.frame = some b → b ∈ (envOf name scope L a cd :: outer).filterMap (·.frame) := fun env he b hb => List.mem_filterMap.mpr ⟨env, he, hb⟩
  have st : base.StaysIn (hideAll h ((envOf name scope L a cd :: outer).filterMap (·.frame))) := fun b o q => hideAll_get _ (K'.stays b o q) fun hm => by
    rw [(K'.frames.mem hm).1] at q; cases q
  have sg : ∀ b o, g.get? b = some o → b ∉ outer.filterMap (·.frame) → (hideAll h ((envOf name scope L a cd :: outer).filterMap (·.frame))).get? b = some o := fun b o q nm => hideAll_get _ (F.keep b o q) fun hm => by
    rcases kts_mem hm with z | z
    · rw [z, kts_self F] at q
      cases q
    · exact nm z
  have hl : ∀ q ∈ news, (hideAll h ((envOf name scope L a cd :: outer).filterMap (·.frame))).get? q.1 = some q.2 ∧ g.get? q.1 = none ∧ base.get? q.1 = none := fun q hq => by
    refine ⟨hideAll_get _ (N q hq).1 fun hm => ?_, (N q hq).2.2, fresh_of_stays K.stays (N q hq).2.2⟩
    obtain ⟨env, he, hf⟩ := List.mem_filterMap.mp hm
    rcases List.mem_cons.mp he with rfl | he
    · exact (N q hq).2.1 (Option.some.inj hf).symm
    · obtain ⟨o, ho, _⟩ := (K.frames.mem (List.mem_filterMap.mpr ⟨env, he, hf⟩)).2
      rw [(N q hq).2.2] at ho; cases ho
  obtain ⟨t, he, htn, ht⟩ := hx.there
  have fr2 : ∀ b, h.get? b = none → (hideAll h ((envOf name scope L a cd :: outer).filterMap (·.frame))).get? b = none := fun b hb => by
    cases q : (hideAll h ((envOf name scope L a cd :: outer).filterMap (·.frame))).get? b with
    | none => rfl
    | some o => have := of_hideAll _ q; rw [hb] at this; cases this
  refine wpAny_leaving_firstW (a0 := .ref t) K'.stack ((funFrames_hide K'.frames hin).of_keeps fun b o hb _ => ⟨o, hx.keeps b o hb, rfl⟩) rfl he (fun b o hb => hx.keeps b o (of_hideAll _ hb)) (fr2 e hx.new) rfl rfl rfl fun h' hL => ?_
  obtain ⟨k1, ⟨_, _, k2⟩, k3, k4⟩ := hL
  have R : RaisedS base g outer e cls t vs news h' := ⟨⟨_, st, sg, hl, ⟨k1, fr2 e hx.new, k2, k3⟩, fr2 t htn⟩, Heap.TupAt.of_slots ⟨_, _, ht, rfl, rfl⟩ k4⟩
  exact hQ h' t R (((Heap.UpToSlots.of_keeps F.keep).trans (Heap.UpToSlots.of_keeps hx.keeps)).trans k4)
end
end

/- part MGx -/
theorem fresh_MGx : True ∧ True := by
  w_top off
  first
    | (walk1; done)
    | exact ⟨True.intro, True.intro⟩
section
theorem exc190 {w : World} : excIn (hd.heap_39 w.params) 190 [.type "Exception", .type "BaseException", .type "object"] "Exception.__new__" = true := by kernel_rfl
theorem nm190 {w : World} : nsIn (hd.heap_39 w.params) mainGlobals (Str.ofString "DXFValueError") = some (some (.ref 190)) := by kernel_rfl
theorem kts396 {w : World} : ktsIn (hd.heap_39 w.params) 396 "BaseException" = true := by kernel_rfl
local macro_rules | `(tactic| walk_at "exec Raise some none") => `(tactic| (k_here; (with_reducible show wpAny _ _ (exec (Stmt.Raise (some (PySem.Expr.Call (PySem.Expr.Name ("DXFValueError" : Str) _) (_ :: _) [] _)) none _) _) _ _ _); k_dflt (refine' Raise_ownH (e1 := ?e1) ?F ?g ?O PySem.F.excBase_Exception ?hh ?_ ?a ?b ?c ?d ?e; (case hh => exact rfl); (case F => k_asm); (case g => exact TopRead.g (by k_asm)); (case O => exact own_of_in (by k_asm) (by k_asm) nm190 exc190); (case a => rfl); (case b => rfl); (case c => rfl); (case d => rfl); (case e => decide); k_whole)))
set_option maxHeartbeats 800000 in
theorem gx_spec {mean : ExcName → Option Value} {w : World} {A A₀ : Around} {s : Shared} {base h₀ : Heap} {outer : List Env} {env : Env} {L : Addr} {m mg mb : Str → Option Value} {p₀ : Program} {loose : List Str} {news : List (Addr × Obj)} {E : Value → Shared → Prop} {Q : Value → Shared → Prop} {xo xd d l dl : Addr} {od : Obj} {tkx ta tx : Tok} {nx n : Nat} {kvs : List (Str × Value)} {vs : List Value} {rs : List Row} {app x : Str} (XB : (hd.heap_39 w.params).In base) (TB : Top p₀ loose mean mg mb base) (D : KtsDicts (outer.filterMap (·.frame)) h₀)
    (cx : Cx w A A₀ base h₀ outer env L mg mb p₀ loose) (F : Fr h₀ L s.heap m) (N : News h₀ L s.heap news) (hr : A.depth + 120 < recursionLimit) (hu : A.units + 2500 < cLine)
    (hlx : x.length ≤ 100) (hla : app.length ≤ 100) (hx : (xo, instObj 525 xd) ∈ news) (hxd : (xd, xAttrs w tkx d nx) ∈ news) (hdm : (d, od) ∈ news) (hod : od.IsDictOf (strKind Challenge.rw_fy0015_01.row.toRowW.1 w) kvs) (hd100 : @LT.lt Nat _ 100 d) (hv : valueAt kvs app = some (.ref l)) (hl : (l, tagsObj dl vs n) ∈ news)
    (hT : TagsIn news vs rs) (hz : rs.length ≤ 900) (hok : ∀ r ∈ rs, rowOk r = true) (hokx : rowOk (1000, .s x) = true) (hnx : ∀ i, i < rs.length → rowAt rs i = (1000, .s x) → i + 1 < rs.length)
    (hq : ∀ b e lv (y dy : Nat) n' add h' tk', scan rs x rs.length = ⟨some b, lv, some e⟩ → Fr h₀ L h' m → News h₀ L h' ((y, tagsObj dy ((vs.drop b).take (e + 1 - b)) n') :: (add ++ news)) → (∀ p ∈ add, top news ≤ p.1 ∧ p.1 < y) → top news ≤ y → Q (.ref y) { s with heap := h', toks := tk' })
    (hn : ∀ lv g' g e t vs' h' tk', scan rs x rs.length = ⟨none, lv, none⟩ → KtsTurn (outer.filterMap (·.frame)) h₀ g' → Below A₀ base outer g' → Fr g' L g m → RaisedS base g (env :: outer) e (.ref 190) t vs' news h' → g.UpToSlots h' → E (.ref e) { s with heap := h', toks := tk' })
    (hdx : ∀ b lv g e t vs' h' tk', scan rs x rs.length = ⟨some b, lv, none⟩ → Fr h₀ L g m → RaisedS base g (env :: outer) e (.ref 154) t vs' news h' → g.UpToSlots h' → E (.ref e) { s with heap := h', toks := tk' }) :
    wpAny (model Challenge.rw_fy0015_01.row.toRowW.1 w) A (call (.ref 501) [.ref xo, .str app ta, .str x tx]) Q E s := by
  have B0 := cx.B
  have hfL : env.frame = some L := cx.hf
  obtain ⟨B, X₀, T, hh, hA, hf, hk⟩ := cx
  revert X₀
  k_fill
  intro X₀
  obtain ⟨_, _, _, _, _⟩ := A
  obtain ⟨⟨_, _, _, _, _⟩, _, _, _, _, _, _, _, _⟩ := env
  dsimp only at hA hf hk hh hr hu
  subst hA hf hk hh
  refine wpAny_call ?_
  k_enter
  rename_i g1 L1 h1 FG1 F1 N1 B1 X1 T1 l1 hlt1
  have D1 := dicts_in D FG1 hfL
  k_steps
  refine stop_go (get_spec (od := od) (d := d) (kvs := kvs) (tkx := tkx) (nx := nx) (xd := xd) (by exact ⟨B1, X1, T1, rfl, rfl, rfl, rfl⟩) F1 N1 (by k_room) (by k_units) hx hxd hdm hod hd100 hv fun h2 tk2 F2 N2 => ?_)
  k_steps
  rename_i h3 F3 N3
  refine stop_go (gn_spec (rs := rs) (n := n) (dl := dl) (vs := vs) (by exact ⟨B1, X1, T1, rfl, rfl, rfl, rfl⟩) F3 N3 (by k_room) (by k_units) hl hT hz hok hokx hnx ?hq ?hn ?hd)
  case hn =>
    intro lv g e t h' tk' hs FG R U
    refine caughtC R FG B1 U XB TB D1 KtsTurn.refl nm396 kts396 ?_ ?hE
    case hE => passes_own
    intro h5 g5 T5 F5 c5 B5 X5 TT5 D5
    obtain ⟨oe, ws, N5, hod5, h52⟩ := c5
    have TR5 : TopRead p₀ loose mg mb g5 := topRead_of TT5
    clear F3 N3 X1 T1
    k_steps
    · exact (N5 (e, oe) (List.Mem.head _)).1
    rename_i x5
    refine leave_raiseSH B5 x5 F5 (fun q hq => N5 q (List.Mem.tail _ hq)) fun h6 t6 R6 U6 => ?_
    obtain ⟨g6, T6, FG6, B6⟩ := turn_back B0 FG1 hfL T5
    exact hn lv g6 g5 _ t6 _ h6 _ hs T6 B6 FG6 R6 U6
  case hd =>
    intro b lv g e t vs' h' tk' hs FG R U
    k_steps
    exact hdx b lv _ _ _ _ _ _ hs FG1 (by assumption) (by assumption)
  case hq =>
    intro b e lv y dy n' add h' tk' hs F4 N4 q1 q2
    k_steps
    exact hq b e lv y dy n' add _ _ hs (by assumption) (by assumption) q1 q2
end

/- part MCl -/
section
open PyProof.Rows.LCg PyProof.Rows.LCt
section
variable {prog : Program} {w : World} {A : Around} {s : Shared} {h₀ : Heap} {L : Addr} {m : Str → Option Value} {env : Env} {ct elt : PySem.Expr} {x : Str} {scope : Scope} {cl : List (Str × Addr)} {S : List (Addr × Obj) → Prop} {P : Nat → Value → Prop} {Fin : List Value → List (Addr × Obj) → Prop}
theorem CompEnd.mono {s₁ s₂ : Shared} {I C D : Addr} {oI oC oD : Obj} {r r' : Value → List (Addr × Obj) → Prop} {y : Value} (h : CompEnd h₀ L m s₁ I oI C oC D oD S r y s₂) (k : ∀ n, r y n → r' y n) : CompEnd h₀ L m s₁ I oI C oC D oD S r' y s₂ :=
  let ⟨h', tk, news', a, b, c, d, e, f⟩ := h
  ⟨h', tk, news', a, b, c, d, e, k _ f⟩
/-- a comprehension without a test over a list of any length: an invariant of what is taken up -/
theorem rest_all {n : Nat} (J : Nat → List Value → List (Addr × Obj) → Prop)
    (step : ∀ i ys news, i < n → J i ys news → ∀ v I oI C oC D m₂ h tk (E' : Value → Shared → Prop), P i v → NsObj oC m₂ → m₂ x = some v → Fr h₀ L h m → News h₀ L h ((I, oI) :: (C, oC) :: (D, lst ys) :: news) → Off3 I C D news → ((@Ne Nat I C) ∧ (@Ne Nat I D) ∧ (@Ne Nat C D)) →
      wpAny (model prog w) A (eval elt (compEnvC scope cl C env)) (CompEnd h₀ L m { s with heap := h, toks := tk } I oI C oC D (lst ys) S (fun y news' => J (i + 1) (ys ++ [y]) news')) E' { s with heap := h, toks := tk })
    (fin : ∀ ys news, J n ys news → Fin ys news) : ∀ k i ys news, i + k = n → J i ys news → CompRest prog w A h₀ L m env elt x scope cl s S P Fin k i ys news := by
  intro k
  induction k with
  | zero =>
    intro i ys news e hJ
    have : i = n := by omega
    subst this
    exact CompRest.zero (fin _ _ hJ)
  | succ k ih =>
    intro i ys news e hJ
    refine CompRest.succ fun v I oI C oC D m₂ h tk E' a1 a2 a3 a4 a5 a6 a7 => ?_
    refine wpAny_mono (step i ys news (by omega) hJ v I oI C oC D m₂ h tk E' a1 a2 a3 a4 a5 a6 a7) (fun y s2 h2 => CompEnd.mono h2 fun n hn => ih (i + 1) _ _ (by omega) hn) fun _ _ e => e
/-- the same with a test: what the test says is known turn by turn -/
theorem restT_all {n : Nat} (J : Nat → List Value → List (Addr × Obj) → Prop) (b : Nat → Bool)
    (step : ∀ i ys news, i < n → J i ys news → ∀ v I oI C oC D m₂ h tk (E' : Value → Shared → Prop), P i v → NsObj oC m₂ → m₂ x = some v → Fr h₀ L h m → News h₀ L h ((I, oI) :: (C, oC) :: (D, lst ys) :: news) → Off3 I C D news → ((@Ne Nat I C) ∧ (@Ne Nat I D) ∧ (@Ne Nat C D)) →
      wpAny (model prog w) A (isTrue ct (compEnvC scope cl C env) (eval ct (compEnvC scope cl C env))) (fun ok s' => ok = b i ∧ (if b i = true then
        wpAny (model prog w) A (eval elt (compEnvC scope cl C env)) (CompEnd h₀ L m { s with heap := h, toks := tk } I oI C oC D (lst ys) S (fun y news' => J (i + 1) (ys ++ [y]) news')) E' s'
        else CompEnd h₀ L m { s with heap := h, toks := tk } I oI C oC D (lst ys) S (fun _ news' => J (i + 1) ys news') Value.none s')) E' { s with heap := h, toks := tk })
    (fin : ∀ ys news, J n ys news → Fin ys news) : ∀ k i ys news, i + k = n → J i ys news → CompRestT prog w A h₀ L m env ct elt x scope cl s S P Fin k i ys news := by
  intro k
  induction k with
  | zero =>
    intro i ys news e hJ
    have : i = n := by omega
    subst this
    exact CompRestT.zero (fin _ _ hJ)
  | succ k ih =>
    intro i ys news e hJ
    refine CompRestT.succ fun v I oI C oC D m₂ h tk E' a1 a2 a3 a4 a5 a6 a7 => ?_
    refine wpAny_mono (step i ys news (by omega) hJ v I oI C oC D m₂ h tk E' a1 a2 a3 a4 a5 a6 a7) (fun ok s2 h2 => ?_) fun _ _ e => e
    obtain ⟨rfl, h2⟩ := h2
    cases hb : b i with
    | true =>
      rw [hb] at h2
      simp only [if_true] at h2 ⊢
      exact wpAny_mono h2 (fun y s3 h3 => CompEnd.mono h3 fun n hn => ih (i + 1) _ _ (by omega) hn) fun _ _ e => e
    | false =>
      rw [hb] at h2
      simp only [Bool.false_eq_true, if_false] at h2 ⊢
      exact CompEnd.mono h2 fun n hn => ih (i + 1) _ _ (by omega) hn
end
section
variable {w : World} {A : Around} {s : Shared} {h₀ : Heap} {L : Addr} {m : Str → Option Value} {env : Env} {E : Value → Shared → Prop}
theorem walks_tags {I l dl : Addr} {vs : List Value} {n : Nat} (hh : A.handled = none) (hne : l ≠ I) :
    Walks Challenge.rw_fy0015_01.row.toRowW.1 w A I [I, l] [I] vs.length (fun i v => vs[i]? = some v) (fun i h => h.IsListIter I l i ∧ h.get? l = some (tagsObj dl vs n)) where
  sub := fun b hb => by simp at hb; simp [hb]
  frame := fun _ _ _ st hk => ⟨st.1.at fun o e => hk I (by simp) o e, hk l (by simp) _ st.2⟩
  item := fun i s Q E hi st hQ => by
    refine next_item st.1 ⟨_, _, st.2, rfl⟩ (x := vs[i]) (by simp [hi]) fun h' hit' hs' => ?_
    exact hQ _ h' s.toks (by simp [hi]) ⟨hit', hs'.extBut _ _ hne st.2⟩ fun b o hb e => hs'.extBut b o (fun h => hb (by simp [h])) e
  done := fun s Q E st hQ => next_end hh st.1 ⟨_, _, st.2, rfl⟩ (by simp) fun h' he' => hQ h' s.toks fun b o hb e => he' b o (fun h => hb (by simp [h])) e
  self := fun _ _ _ _ st hQ => wpAny_pyIter_listiter st.1 hQ
theorem comp_tags {elt iter : PySem.Expr} {x : Str} {px : Pos} {scope : Scope} {cl : List (Str × Addr)} {pos : Pos} {Q : Value → Shared → Prop} {l dl : Addr} {vs : List Value} {n : Nat} {news : List (Addr × Obj)}
    (F₀ : Fr h₀ L s.heap m) (hclos : closureFor scope env = pure cl) (hcell : ∀ y ∈ scope.names, y.2 ≠ .cell) (hkind : scope.kind = .function)
    (hnames : ∀ y ∈ scope.names, y.2 = .local → scope.names.lookup y.1 = some .local) (hx : scope.names.lookup x = some .local) (hh : A.handled = none) (hl : (l, tagsObj dl vs n) ∈ news) (hsz : vs.length ≤ 1000)
    (h : wpAny (model Challenge.rw_fy0015_01.row.toRowW.1 w) A (eval iter env) (fun xv s₁ => xv = .ref l ∧ (hd.heap_39 w.params).In h₀ ∧ Fr h₀ L s₁.heap m ∧ News h₀ L s₁.heap news ∧
      ∀ g, CompRest Challenge.rw_fy0015_01.row.toRowW.1 w A h₀ L m env elt x scope cl { s₁ with heap := g } (fun nw => (l, tagsObj dl vs n) ∈ nw) (fun i v => vs[i]? = some v) (FinE h₀ L m { s₁ with heap := g } Q) vs.length 0 [] news) E s)
    (hs : ∀ x, foldedSetIterable iter env x = pure x := by intro _; rfl) :
    wpAny (model Challenge.rw_fy0015_01.row.toRowW.1 w) A (eval (.ListComp elt [⟨.Name x px, iter, [], 0⟩] scope pos) env) Q E s := by
  rw [eval_ListComp]
  refine wpAny_comprehension_free (use := none) rfl hs hclos hkind hnames (wpAny_mono h (fun xv s₁ h₁ => ?_) fun _ _ e => e)
  obtain ⟨rfl, X₀, F, N, R⟩ := h₁
  have hlg := (N _ hl).1
  have hlt : l < s₁.heap.objs.size := Heap.lt_size hlg
  refine tags_iter F X₀ N hl ?_
  have up : ∀ b o, s₁.heap.get? b = some o → (s₁.heap.push (listIter l 0)).get? b = some o := fun b o e => Heap.get?_push_of_some _ e
  refine block_U (walks_tags (I := s₁.heap.objs.size) (l := l) (dl := dl) (vs := vs) (n := n) hh (Nat.ne_of_lt hlt)) (by rw [sizeLine_eq]; omega) (fun i h st => by obtain ⟨o, e, _⟩ := st.1; exact ⟨o, e⟩) (fun i h h' o nw st e e' k N S => ⟨by obtain ⟨o', q, r⟩ := st.1; rw [e] at q; cases q; exact ⟨o, e', r⟩, (N _ S).1⟩) hcell hkind hx
    ⟨⟨_, Heap.get?_push_size _ rfl, rfl, rfl⟩, up _ _ hlg⟩ (fun b hb => ?_)
    (F.keeps up) (N.grown up) (Nat.ne_of_lt F.ns.lt) (next_is_new F) (fun p hp => Nat.ne_of_lt (Heap.lt_size (N p hp).1)) hl (R _) ?_
  · show b < (s₁.heap.push _).objs.size
    rw [Heap.size_push]
    rcases List.mem_cons.mp hb with rfl | hb
    · exact Nat.lt_succ_self _
    · rw [List.mem_singleton.mp hb]; exact Nat.lt_succ_of_lt hlt
  · intro D C h tk m' ys news' F' N' o1 hn hC₀ hD₀ hCL hDL hCD offC fin
    refine ⟨m', hn, fun h'' hs'' => fin D h'' tk (F'.change hs'' hCL hC₀) (fun p hp => ?_) o1⟩
    refine ⟨hs''.extBut _ _ ?_ (N' p hp).1, (N' p hp).2⟩
    rcases List.mem_cons.mp hp with rfl | hp
    · exact Ne.symm hCD
    · exact offC p hp
end
end

/- part MPl -/
end
theorem fresh_MPl : True ∧ True := by
  w_top off
  first
    | (walk1; done)
    | exact ⟨True.intro, True.intro⟩
section
local macro_rules | `(tactic| walk_at "newTuple") => `(tactic| (k_here; k_dflt (refine' newTup ?k1 ?k2 ?k3 ?_; (case k1 => k_asm); (case k2 => k_asm); (case k3 => exact Nat.le_of_ble_eq_true rfl); k_whole); intro D' h' F' N' l1; (first | (have hlt := TopLe.head l1; dsimp only at hlt) | (have hlt := TopLe.num l1; (try simp only [top_app, Nat.max_le] at hlt))); (try k_sweep)))
local macro_rules | `(tactic| walk_at "newList") => `(tactic| (k_here; k_dflt (refine' newLst ?k1 ?k2 ?k3 ?_; (case k1 => k_asm); (case k2 => k_asm); (case k3 => exact Nat.le_of_ble_eq_true rfl); k_whole); intro D' h' F' N' l1; (first | (have hlt := TopLe.head l1; dsimp only at hlt) | (have hlt := TopLe.num l1; (try simp only [top_app, Nat.max_le] at hlt))); (try k_sweep)))
local macro_rules | `(tactic| walk_at "exec For") => `(tactic| (with_unfolding_all refine for_at ?_))
local macro_rules | `(tactic| walk_at "exec For Name Call cons nil") => `(tactic| (with_unfolding_all refine for_at ?_))
local macro_rules | `(tactic| walk_at "exec For Name Name cons nil") => `(tactic| (with_unfolding_all refine for_at ?_))
local macro_rules | `(tactic| walk_at "binaryOp Add ref ref") => `(tactic| (k_here; k_dflt (refine' add_lists' ?k1 ?k2 ?k3 ?k4 ?k5 ?_; (case k1 => k_asm); (case k2 => k_asm); (case k3 => k_mem); (case k4 => k_mem); (case k5 => ((try simp only [List.length_append, List.length_cons, List.length_nil, List.length_replicate, Int.toNat_natCast]); omega)); k_whole); intro l' h' F' N' l1; (first | (have hlt := TopLe.head l1; dsimp only at hlt) | (have hlt := TopLe.num l1; (try simp only [top_app, Nat.max_le] at hlt))); (try k_sweep)))
local macro_rules | `(tactic| walk_at "binaryOp Mult ref int") => `(tactic| (k_here; k_dflt (refine' rep_list ?k1 ?k2 ?k3 ?k4 ?k5 ?_; (case k1 => k_asm); (case k2 => k_asm); (case k3 => k_mem); (case k4 => omega); (case k5 => omega); k_whole); intro l' h' F' N' l1; (first | (have hlt := TopLe.head l1; dsimp only at hlt) | (have hlt := TopLe.num l1; (try simp only [top_app, Nat.max_le] at hlt))); (try k_sweep)))
local macro_rules | `(tactic| walk_at "subscriptTail Name Name ref int") => `(tactic| (k_here; (with_reducible show wpAny _ _ (subscriptTail _ _ (Value.ref 537) (Value.int _ _)) _ _ _); k_dflt (refine' names_at ?k1 ?k2 ?k3 ?k4 ?_; (case k1 => k_asm); (case k2 => k_asm); (case k3 => first | omega | exact Int.fmod_nonneg_of_pos _ (by decide)); (case k4 => first | omega | exact Int.fmod_lt_of_pos _ (by decide)); k_whole); intro t'))
local macro_rules | `(tactic| walk_at "subscriptTail Name BinOp ref int") => `(tactic| (k_here; (with_reducible show wpAny _ _ (subscriptTail _ _ (Value.ref 537) (Value.int _ _)) _ _ _); k_dflt (refine' names_at ?k1 ?k2 ?k3 ?k4 ?_; (case k1 => k_asm); (case k2 => k_asm); (case k3 => first | omega | exact Int.fmod_nonneg_of_pos _ (by decide)); (case k4 => first | omega | exact Int.fmod_lt_of_pos _ (by decide)); k_whole); intro t'))
local macro_rules | `(tactic| walk_at "subscriptTail Name Constant ref int") => `(tactic| (k_here; (with_reducible show wpAny _ _ (subscriptTail _ _ (Value.ref 537) (Value.int _ _)) _ _ _); k_dflt (refine' names_at ?k1 ?k2 ?k3 ?k4 ?_; (case k1 => k_asm); (case k2 => k_asm); (case k3 => first | omega | exact Int.fmod_nonneg_of_pos _ (by decide)); (case k4 => first | omega | exact Int.fmod_lt_of_pos _ (by decide)); k_whole); intro t'))
local macro_rules | `(tactic| walk_at "subscriptTail Name UnaryOp ref int") => `(tactic| (k_here; (with_reducible show wpAny _ _ (subscriptTail _ _ (Value.ref 537) (Value.int _ _)) _ _ _); k_dflt (refine' names_at ?k1 ?k2 ?k3 ?k4 ?_; (case k1 => k_asm); (case k2 => k_asm); (case k3 => first | omega | exact Int.fmod_nonneg_of_pos _ (by decide)); (case k4 => first | omega | exact Int.fmod_lt_of_pos _ (by decide)); k_whole); intro t'))
local macro_rules | `(tactic| walk_at "subscriptTail Subscript Name ref int") => `(tactic| (k_here; (with_reducible show wpAny _ _ (subscriptTail _ _ (Value.ref 537) (Value.int _ _)) _ _ _); k_dflt (refine' names_at ?k1 ?k2 ?k3 ?k4 ?_; (case k1 => k_asm); (case k2 => k_asm); (case k3 => first | omega | exact Int.fmod_nonneg_of_pos _ (by decide)); (case k4 => first | omega | exact Int.fmod_lt_of_pos _ (by decide)); k_whole); intro t'))
local macro_rules | `(tactic| walk_at "subscriptTail Subscript BinOp ref int") => `(tactic| (k_here; (with_reducible show wpAny _ _ (subscriptTail _ _ (Value.ref 537) (Value.int _ _)) _ _ _); k_dflt (refine' names_at ?k1 ?k2 ?k3 ?k4 ?_; (case k1 => k_asm); (case k2 => k_asm); (case k3 => first | omega | exact Int.fmod_nonneg_of_pos _ (by decide)); (case k4 => first | omega | exact Int.fmod_lt_of_pos _ (by decide)); k_whole); intro t'))
local macro_rules | `(tactic| walk_at "subscriptTail Subscript Constant ref int") => `(tactic| (k_here; (with_reducible show wpAny _ _ (subscriptTail _ _ (Value.ref 537) (Value.int _ _)) _ _ _); k_dflt (refine' names_at ?k1 ?k2 ?k3 ?k4 ?_; (case k1 => k_asm); (case k2 => k_asm); (case k3 => first | omega | exact Int.fmod_nonneg_of_pos _ (by decide)); (case k4 => first | omega | exact Int.fmod_lt_of_pos _ (by decide)); k_whole); intro t'))
local macro_rules | `(tactic| walk_at "subscriptTail Subscript UnaryOp ref int") => `(tactic| (k_here; (with_reducible show wpAny _ _ (subscriptTail _ _ (Value.ref 537) (Value.int _ _)) _ _ _); k_dflt (refine' names_at ?k1 ?k2 ?k3 ?k4 ?_; (case k1 => k_asm); (case k2 => k_asm); (case k3 => first | omega | exact Int.fmod_nonneg_of_pos _ (by decide)); (case k4 => first | omega | exact Int.fmod_lt_of_pos _ (by decide)); k_whole); intro t'))
local macro_rules | `(tactic| walk_at "call builtin:len") => `(tactic| (k_here; (with_reducible show wpAny _ _ (call (Value.builtin "len") [Value.ref _]) _ _ _); k_dflt (refine' tlen ?F ?X ?N ?a ?z ?_; (case F => k_asm); (case X => k_asm); (case N => k_asm); (case a => k_mem); (case z => with_reducible assumption); k_whole)))
local macro_rules | `(tactic| walk_at "subscriptTail Name Name ref int") => `(tactic| (k_here; (with_reducible show wpAny _ _ (subscriptTail _ _ (Value.ref _) (Value.int _ _)) _ _ _); k_dflt (refine' titem ?F ?X ?N ?a ?b ?c ?d ?_; (case F => k_asm); (case X => k_asm); (case N => k_asm); (case a => k_mem); (case d => with_reducible assumption); (case b => omega); (case c => omega); k_whole)))
local macro_rules | `(tactic| walk_at "subscriptTail Name BinOp ref int") => `(tactic| (k_here; (with_reducible show wpAny _ _ (subscriptTail _ _ (Value.ref _) (Value.int _ _)) _ _ _); k_dflt (refine' titem ?F ?X ?N ?a ?b ?c ?d ?_; (case F => k_asm); (case X => k_asm); (case N => k_asm); (case a => k_mem); (case d => with_reducible assumption); (case b => omega); (case c => omega); k_whole)))
local macro_rules | `(tactic| walk_at "subscriptTail Name Constant ref int") => `(tactic| (k_here; (with_reducible show wpAny _ _ (subscriptTail _ _ (Value.ref _) (Value.int _ _)) _ _ _); k_dflt (refine' titem ?F ?X ?N ?a ?b ?c ?d ?_; (case F => k_asm); (case X => k_asm); (case N => k_asm); (case a => k_mem); (case d => with_reducible assumption); (case b => omega); (case c => omega); k_whole)))
local macro_rules | `(tactic| walk_at "subscriptTail Name UnaryOp ref int") => `(tactic| (k_here; (with_reducible show wpAny _ _ (subscriptTail _ _ (Value.ref _) (Value.int _ _)) _ _ _); k_dflt (refine' titem ?F ?X ?N ?a ?b ?c ?d ?_; (case F => k_asm); (case X => k_asm); (case N => k_asm); (case a => k_mem); (case d => with_reducible assumption); (case b => omega); (case c => omega); k_whole)))
local macro_rules | `(tactic| walk_at "subscriptTail Subscript Name ref int") => `(tactic| (k_here; (with_reducible show wpAny _ _ (subscriptTail _ _ (Value.ref _) (Value.int _ _)) _ _ _); k_dflt (refine' titem ?F ?X ?N ?a ?b ?c ?d ?_; (case F => k_asm); (case X => k_asm); (case N => k_asm); (case a => k_mem); (case d => with_reducible assumption); (case b => omega); (case c => omega); k_whole)))
local macro_rules | `(tactic| walk_at "subscriptTail Subscript BinOp ref int") => `(tactic| (k_here; (with_reducible show wpAny _ _ (subscriptTail _ _ (Value.ref _) (Value.int _ _)) _ _ _); k_dflt (refine' titem ?F ?X ?N ?a ?b ?c ?d ?_; (case F => k_asm); (case X => k_asm); (case N => k_asm); (case a => k_mem); (case d => with_reducible assumption); (case b => omega); (case c => omega); k_whole)))
local macro_rules | `(tactic| walk_at "subscriptTail Subscript Constant ref int") => `(tactic| (k_here; (with_reducible show wpAny _ _ (subscriptTail _ _ (Value.ref _) (Value.int _ _)) _ _ _); k_dflt (refine' titem ?F ?X ?N ?a ?b ?c ?d ?_; (case F => k_asm); (case X => k_asm); (case N => k_asm); (case a => k_mem); (case d => with_reducible assumption); (case b => omega); (case c => omega); k_whole)))
local macro_rules | `(tactic| walk_at "subscriptTail Subscript UnaryOp ref int") => `(tactic| (k_here; (with_reducible show wpAny _ _ (subscriptTail _ _ (Value.ref _) (Value.int _ _)) _ _ _); k_dflt (refine' titem ?F ?X ?N ?a ?b ?c ?d ?_; (case F => k_asm); (case X => k_asm); (case N => k_asm); (case a => k_mem); (case d => with_reducible assumption); (case b => omega); (case c => omega); k_whole)))
local macro_rules | `(tactic| walk_at "getAttr ref") => `(tactic| (k_here; (with_reducible show wpAny _ _ (getAttr (Value.ref _) (PySem.Str.ofString "code") _) _ _ _); k_dflt (refine' code_specX ?cx ?F ?N ?r ?u ?a ?b ?_; (case cx => (refine' ⟨?cB, ?cX, ?cT, ?ca, ?cb, ?cc, ?cd⟩; (case ca => exact rfl); (case cb => exact rfl); (case cc => exact rfl); (case cd => exact rfl); (case cB => k_asm); (case cX => k_asm); (case cT => k_asm))); (case F => k_asm); (case N => k_asm); (case r => k_room); (case u => k_units); (case a => k_mem); (case b => k_mem); k_whole); intro h' tk' F' N'))
local macro_rules | `(tactic| walk_at "getAttr ref") => `(tactic| (k_here; (with_reducible show wpAny _ _ (getAttr (Value.ref _) (PySem.Str.ofString "value") _) _ _ _); k_dflt (refine' value_specX ?v ?cx ?F ?N ?r ?u ?a ?b ?_; (case cx => (refine' ⟨?cB, ?cX, ?cT, ?ca, ?cb, ?cc, ?cd⟩; (case ca => exact rfl); (case cb => exact rfl); (case cc => exact rfl); (case cd => exact rfl); (case cB => k_asm); (case cX => k_asm); (case cT => k_asm))); (case F => k_asm); (case N => k_asm); (case r => k_room); (case u => k_units); (case a => k_mem); (case b => k_mem); (case v => first | rfl | with_reducible assumption); k_whole); intro h' tk' F' N'))
section
open PyProof.Rows.LCg PyProof.Rows.LCt
def StopE (prog : Program) (w : World) (A : Around) (e : PySem.Expr) (env : Env) (Q : Value → Shared → Prop) (E : Value → Shared → Prop) (s : Shared) : Prop := wpAny (model prog w) A (eval e env) Q E s
theorem stop_e {prog : Program} {w : World} {A : Around} {e : PySem.Expr} {env : Env} {Q : Value → Shared → Prop} {E : Value → Shared → Prop} {s : Shared} (h : StopE prog w A e env Q E s) : wpAny (model prog w) A (eval e env) Q E s := h
theorem e_go {prog : Program} {w : World} {A : Around} {e : PySem.Expr} {env : Env} {Q : Value → Shared → Prop} {E : Value → Shared → Prop} {s : Shared} (h : wpAny (model prog w) A (eval e env) Q E s) : StopE prog w A e env Q E s := h
local macro_rules | `(tactic| walk_at "eval ListComp") => `(tactic| (k_here; (with_reducible show wpAny _ _ (eval (PySem.Expr.ListComp _ _ _ _) _) _ _ _); refine stop_e ?_))
theorem off1_mem {D : Addr} : ∀ {l : List (Addr × Obj)}, Off1 D l → ∀ p ∈ l, p.1 ≠ D
  | [], _ => fun p hp => nomatch hp
  | _ :: _, x => fun p hp => by
    rcases List.mem_cons.mp hp with rfl | hp
    · exact x.1
    · exact off1_mem x.2 p hp
theorem take_row {rs : List Row} {i : Nat} (h : i < rs.length) : rs.take (i + 1) = rs.take i ++ [rowAt rs i] := by
  rw [List.take_succ]
  unfold rowAt
  rw [List.getD_eq_getElem?_getD, List.getElem?_eq_getElem h]
  rfl
theorem off3_new {I C D t : Addr} {oI oC oD o : Obj} {l : List (Addr × Obj)} (lt : TopLe ((I, oI) :: (C, oC) :: (D, oD) :: l) t) (h : Off3 I C D l) : Off3 I C D ((t, o) :: l) :=
  ⟨⟨Nat.ne_of_gt lt.head, Nat.ne_of_gt lt.tail.head, Nat.ne_of_gt lt.tail.tail.head⟩, h⟩
theorem topn {a b c : Addr × Obj} {l l' : List (Addr × Obj)} {t : Nat} (h : TopLe (a :: b :: c :: (l ++ l')) t) : top l' ≤ t := by
  have z : TopLe (l ++ l') t := h.tail.tail.tail
  exact topLe_of fun p hp => TopLe.lt z p (List.mem_append_right _ hp)
def PlJ (news : List (Addr × Obj)) (rs : List Row) (i : Nat) (ys : List Value) (n2 : List (Addr × Obj)) : Prop := ∃ add, n2 = add ++ news ∧ RowsIn (add ++ news) ys (rs.take i) ∧ ∀ p ∈ add, top news ≤ p.1
set_option maxHeartbeats 1000000 in
theorem pl_spec {w : World} {A A₀ : Around} {s : Shared} {base h₀ : Heap} {outer : List Env} {env : Env} {L : Addr} {m mg mb : Str → Option Value} {p₀ : Program} {loose : List Str} {news : List (Addr × Obj)} {E : Value → Shared → Prop} {Q : Value → Shared → Prop} {l dl : Addr} {vs : List Value} {n : Nat} {rs : List Row} (cx : Cx w A A₀ base h₀ outer env L mg mb p₀ loose) (F : Fr h₀ L s.heap m) (N : News h₀ L s.heap news) (hr : A.depth + 40 < recursionLimit) (hu : A.units + 1000 < cLine)
    (hl : (l, tagsObj dl vs n) ∈ news) (hT : TagsIn news vs rs) (hz : rs.length ≤ 900)
    (hq : ∀ (D : Nat) ys nn add h' tk', Fr h₀ L h' m → News h₀ L h' ((D, listOf ys.toArray nn) :: (add ++ news)) → RowsIn (add ++ news) ys rs → (∀ p ∈ add, top news ≤ p.1 ∧ p.1 ≠ D) → (∀ p ∈ news, p.1 ≠ D) → Q (.ref D) { s with heap := h', toks := tk' }) :
    wpAny (model Challenge.rw_fy0015_01.row.toRowW.1 w) A (call (.ref 556) [.ref l]) Q E s := by
  obtain ⟨B, X₀, T, hh, hA, hf, hk⟩ := cx
  revert X₀
  k_fill
  intro X₀
  obtain ⟨_, _, _, _, _⟩ := A
  obtain ⟨⟨_, _, _, _, _⟩, _, _, _, _, _, _, _, _⟩ := env
  dsimp only at hA hf hk hh hr hu
  subst hA hf hk hh
  refine wpAny_call ?_
  k_enter
  rename_i g1 L1 h1 FG1 F1 N1 B1 X1 T1 l1 hlt1
  have hvl : vs.length = rs.length := hT.length
  k_steps
  refine e_go (comp_tags (F₀ := F1) (cl := []) (by with_unfolding_all rfl) (by decide) (by rfl) (by decide) (by rfl) (by rfl) hl (by omega) ?_)
  k_steps
  all_goals first | exact N1 | exact X1 | exact F1 | skip
  refine rest_all (n := vs.length) (PlJ news rs) ?step ?fin _ 0 [] news (by omega) ⟨[], rfl, by simpa using RowsIn.nil, fun p hp => by cases hp⟩
  case fin =>
    rintro ys n2 ⟨add, rfl, hR, ha⟩
    intro D h tk F N o1
    k_steps
    have o2 := off1_mem o1
    refine hq D ys ys.length add _ _ (by assumption) (by assumption) (by simpa [hvl] using hR) (fun p hp => ⟨ha p hp, o2 p (List.mem_append_left _ hp)⟩) fun p hp => o2 p (List.mem_append_right _ hp)
  case step =>
    rintro i ys n2 hi ⟨add, rfl, hR, ha⟩ v I oI C oC D m₂ h tk E' hv hoC hmx F N o3 ne3
    have hi' : i < rs.length := by omega
    obtain ⟨a, d, tka, ua, hxa, hma, hda, hua⟩ := tagAt hT hi'
    obtain rfl : v = .ref a := by
      have := hv.symm.trans hxa
      exact Option.some.inj this
    have hhu : handedIn ua = true := handed_dat hua
    have hma2 := (show _ ∈ (I, oI) :: (C, oC) :: (D, lst ys) :: (add ++ news) from List.Mem.tail _ (List.Mem.tail _ (List.Mem.tail _ (List.mem_append_right _ hma))))
    have hda2 := (show _ ∈ (I, oI) :: (C, oC) :: (D, lst ys) :: (add ++ news) from List.Mem.tail _ (List.Mem.tail _ (List.Mem.tail _ (List.mem_append_right _ hda))))
    k_steps
    rename_i t5 h5 F5 N5 lt5 _
    refine CompEnd.intro F5 N5 ((t5, ({ cls := .type "tuple", data := .seq [Value.int (rowAt rs i).1 tka, ua].toArray } : Obj)) :: (add ++ news)) ?sub (off3_new lt5 o3) ?S ⟨(t5, ({ cls := .type "tuple", data := .seq [Value.int (rowAt rs i).1 tka, ua].toArray } : Obj)) :: add, rfl, ?R, ?a⟩
    case S => exact List.Mem.tail _ (List.mem_append_right _ hl)
    case sub => exact (by intro p hp; (repeat' (rcases List.mem_cons.mp hp with rfl | hp)) <;> (repeat (first | exact List.Mem.head _ | exact hp | exact List.mem_append_right _ hp | refine List.Mem.tail _ ?_)))
    case R =>
      rw [take_row hi']
      exact (hR.mono fun p hp => List.Mem.tail _ hp).app (RowsIn.cons (DatIn.tuple (List.Mem.head _) (DatAll.cons (DatIn.int _ _) (DatAll.cons (dat_any hua) DatAll.nil))) RowsIn.nil)
    case a =>
      intro p hp
      rcases List.mem_cons.mp hp with rfl | hp
      · exact Nat.le_trans (Nat.le_of_eq rfl) (topn lt5)
      · exact ha p hp
end

/- part MAsk -/
end
theorem fresh_MAsk : True ∧ True := by
  w_top off
  first
    | (walk1; done)
    | exact ⟨True.intro, True.intro⟩
section
local macro_rules | `(tactic| walk_at "call builtin:len") => `(tactic| (k_here; (with_reducible show wpAny _ _ (call (Value.builtin "len") [Value.ref _]) _ _ _); k_dflt (refine' tlen ?F ?X ?N ?a ?z ?_; (case F => k_asm); (case X => k_asm); (case N => k_asm); (case a => k_mem); (case z => with_reducible assumption); k_whole)))
local macro_rules | `(tactic| walk_at "subscriptTail Name Name ref int") => `(tactic| (k_here; (with_reducible show wpAny _ _ (subscriptTail _ _ (Value.ref _) (Value.int _ _)) _ _ _); k_dflt (refine' titem ?F ?X ?N ?a ?b ?c ?d ?_; (case F => k_asm); (case X => k_asm); (case N => k_asm); (case a => k_mem); (case d => with_reducible assumption); (case b => omega); (case c => omega); k_whole)))
local macro_rules | `(tactic| walk_at "subscriptTail Name BinOp ref int") => `(tactic| (k_here; (with_reducible show wpAny _ _ (subscriptTail _ _ (Value.ref _) (Value.int _ _)) _ _ _); k_dflt (refine' titem ?F ?X ?N ?a ?b ?c ?d ?_; (case F => k_asm); (case X => k_asm); (case N => k_asm); (case a => k_mem); (case d => with_reducible assumption); (case b => omega); (case c => omega); k_whole)))
local macro_rules | `(tactic| walk_at "subscriptTail Name Constant ref int") => `(tactic| (k_here; (with_reducible show wpAny _ _ (subscriptTail _ _ (Value.ref _) (Value.int _ _)) _ _ _); k_dflt (refine' titem ?F ?X ?N ?a ?b ?c ?d ?_; (case F => k_asm); (case X => k_asm); (case N => k_asm); (case a => k_mem); (case d => with_reducible assumption); (case b => omega); (case c => omega); k_whole)))
local macro_rules | `(tactic| walk_at "subscriptTail Name UnaryOp ref int") => `(tactic| (k_here; (with_reducible show wpAny _ _ (subscriptTail _ _ (Value.ref _) (Value.int _ _)) _ _ _); k_dflt (refine' titem ?F ?X ?N ?a ?b ?c ?d ?_; (case F => k_asm); (case X => k_asm); (case N => k_asm); (case a => k_mem); (case d => with_reducible assumption); (case b => omega); (case c => omega); k_whole)))
local macro_rules | `(tactic| walk_at "subscriptTail Subscript Name ref int") => `(tactic| (k_here; (with_reducible show wpAny _ _ (subscriptTail _ _ (Value.ref _) (Value.int _ _)) _ _ _); k_dflt (refine' titem ?F ?X ?N ?a ?b ?c ?d ?_; (case F => k_asm); (case X => k_asm); (case N => k_asm); (case a => k_mem); (case d => with_reducible assumption); (case b => omega); (case c => omega); k_whole)))
local macro_rules | `(tactic| walk_at "subscriptTail Subscript BinOp ref int") => `(tactic| (k_here; (with_reducible show wpAny _ _ (subscriptTail _ _ (Value.ref _) (Value.int _ _)) _ _ _); k_dflt (refine' titem ?F ?X ?N ?a ?b ?c ?d ?_; (case F => k_asm); (case X => k_asm); (case N => k_asm); (case a => k_mem); (case d => with_reducible assumption); (case b => omega); (case c => omega); k_whole)))
local macro_rules | `(tactic| walk_at "subscriptTail Subscript Constant ref int") => `(tactic| (k_here; (with_reducible show wpAny _ _ (subscriptTail _ _ (Value.ref _) (Value.int _ _)) _ _ _); k_dflt (refine' titem ?F ?X ?N ?a ?b ?c ?d ?_; (case F => k_asm); (case X => k_asm); (case N => k_asm); (case a => k_mem); (case d => with_reducible assumption); (case b => omega); (case c => omega); k_whole)))
local macro_rules | `(tactic| walk_at "subscriptTail Subscript UnaryOp ref int") => `(tactic| (k_here; (with_reducible show wpAny _ _ (subscriptTail _ _ (Value.ref _) (Value.int _ _)) _ _ _); k_dflt (refine' titem ?F ?X ?N ?a ?b ?c ?d ?_; (case F => k_asm); (case X => k_asm); (case N => k_asm); (case a => k_mem); (case d => with_reducible assumption); (case b => omega); (case c => omega); k_whole)))
local macro_rules | `(tactic| walk_at "getAttr ref") => `(tactic| (k_here; (with_reducible show wpAny _ _ (getAttr (Value.ref _) (PySem.Str.ofString "code") _) _ _ _); k_dflt (refine' code_specX ?cx ?F ?N ?r ?u ?a ?b ?_; (case cx => (refine' ⟨?cB, ?cX, ?cT, ?ca, ?cb, ?cc, ?cd⟩; (case ca => exact rfl); (case cb => exact rfl); (case cc => exact rfl); (case cd => exact rfl); (case cB => k_asm); (case cX => k_asm); (case cT => k_asm))); (case F => k_asm); (case N => k_asm); (case r => k_room); (case u => k_units); (case a => k_mem); (case b => k_mem); k_whole); intro h' tk' F' N'))
local macro_rules | `(tactic| walk_at "getAttr ref") => `(tactic| (k_here; (with_reducible show wpAny _ _ (getAttr (Value.ref _) (PySem.Str.ofString "value") _) _ _ _); k_dflt (refine' value_specX ?v ?cx ?F ?N ?r ?u ?a ?b ?_; (case cx => (refine' ⟨?cB, ?cX, ?cT, ?ca, ?cb, ?cc, ?cd⟩; (case ca => exact rfl); (case cb => exact rfl); (case cc => exact rfl); (case cd => exact rfl); (case cB => k_asm); (case cX => k_asm); (case cT => k_asm))); (case F => k_asm); (case N => k_asm); (case r => k_room); (case u => k_units); (case a => k_mem); (case b => k_mem); (case v => first | rfl | with_reducible assumption); k_whole); intro h' tk' F' N'))
section
local macro_rules | `(tactic| walk_at "call ref") => `(tactic| (k_here; (first | (with_reducible show wpAny _ _ (call (Value.ref 366) _) _ _ _) | (with_reducible show wpAny _ _ (call (Value.ref 413) _) _ _ _) | (with_reducible show wpAny _ _ (call (Value.ref 466) _) _ _ _) | (with_reducible show wpAny _ _ (call (Value.ref 473) _) _ _ _) | (with_reducible show wpAny _ _ (call (Value.ref 480) _) _ _ _) | (with_reducible show wpAny _ _ (call (Value.ref 379) _) _ _ _) | (with_reducible show wpAny _ _ (call (Value.ref 386) _) _ _ _) | (with_reducible show wpAny _ _ (call (Value.ref 406) _) _ _ _) | (with_reducible show wpAny _ _ (call (Value.ref 501) _) _ _ _) | (with_reducible show wpAny _ _ (call (Value.ref 515) _) _ _ _) | (with_reducible show wpAny _ _ (call (Value.ref 206) _) _ _ _) | (with_reducible show wpAny _ _ (call (Value.ref 536) _) _ _ _) | (with_reducible show wpAny _ _ (call (Value.ref 551) _) _ _ _) | (with_reducible show wpAny _ _ (call (Value.ref 544) _) _ _ _) | (with_reducible show wpAny _ _ (call (Value.ref 556) _) _ _ _) | (with_reducible show wpAny _ _ (call (Value.ref 563) _) _ _ _) | (with_reducible show wpAny _ _ (call (Value.ref 570) _) _ _ _) | (with_reducible show wpAny _ _ (call (Value.ref 525) _) _ _ _) ); refine stop_at ?_))
section
def Apart (add news : List (Addr × Obj)) : Prop := ∀ p ∈ add, ∀ q ∈ news, p.1 ≠ q.1
theorem apart_top {a : Nat} {news : List (Addr × Obj)} (h : top news ≤ a) : ∀ q ∈ news, a ≠ q.1 := fun q hq => Nat.ne_of_gt (TopLe.lt (d := a) h q hq)
def askDat (rs : List Row) (x : Str) : Dat := match scan rs x rs.length with
  | ⟨none, _, _⟩ => .list [.str (Str.ofString "gone")]
  | ⟨some b, _, some e⟩ => .list [.str (Str.ofString "told"), .list (((rs.drop b).take (e + 1 - b)).map rowDat)]
  | ⟨some _, _, none⟩ => .list [.str (Str.ofString "never ended")]
set_option maxHeartbeats 2000000 in
theorem asked_spec {mean : ExcName → Option Value} {w : World} {A A₀ : Around} {s : Shared} {h₀ : Heap} {env : Env} {L : Addr} {m mg mb : Str → Option Value} {p₀ : Program} {loose : List Str} {news : List (Addr × Obj)} {E : Value → Shared → Prop} {Q : Value → Shared → Prop}
    {xo xd d l dl : Addr} {od : Obj} {tkx tx : Tok} {nx n : Nat} {kvs : List (Str × Value)} {vs : List Value} {rs : List Row} {x : Str} (TT : Top p₀ loose mean mg mb h₀) (hloc : env.locals = L)
    (cx : Cx w A A₀ h₀ h₀ [] env L mg mb p₀ loose) (F : Fr h₀ L s.heap m) (N : News h₀ L s.heap news) (hr : A.depth + 200 < recursionLimit) (hu : A.units + 4000 < cLine) (hlx : x.length ≤ 100)
    (hx : (xo, instObj 525 xd) ∈ news) (hxd : (xd, xAttrs w tkx d nx) ∈ news) (hdm : (d, od) ∈ news) (hod : od.IsDictOf (strKind Challenge.rw_fy0015_01.row.toRowW.1 w) kvs) (hd100 : @LT.lt Nat _ 100 d) (hv : valueAt kvs (Str.ofString "APP") = some (.ref l)) (hl : (l, tagsObj dl vs n) ∈ news)
    (hT : TagsIn news vs rs) (hz : rs.length ≤ 900) (hok : ∀ r ∈ rs, rowOk r = true) (hokx : rowOk (1000, .s x) = true) (hnx : ∀ i, i < rs.length → rowAt rs i = (1000, .s x) → i + 1 < rs.length)
    (hq : ∀ (D : Nat) add h' tk', Fr h₀ L h' m → News h₀ L h' (add ++ news) → DatIn (add ++ news) (.ref D) (askDat rs x) → Apart add news → Q (.ref D) { s with heap := h', toks := tk' }) :
    wpAny (model Challenge.rw_fy0015_01.row.toRowW.1 w) A (call (.ref 563) [.ref xo, .str x tx]) Q E s := by
  obtain ⟨B, X₀, T, hh, hA, hf, hk⟩ := cx
  revert X₀
  k_fill
  intro X₀
  obtain ⟨_, _, _, _, _⟩ := A
  obtain ⟨⟨_, _, _, _, _⟩, _, _, _, _, _, _, _, _⟩ := env
  dsimp only at hA hf hk hh hr hu
  subst hA hf hk hh
  refine wpAny_call ?_
  refine' code_defS0R ?k1 ?k2 ?k3 ?k4 ?k5 ?kA ?kF ?kK ?kL ?k6 ?k7 ?k8 ?k9 ?kB ?_ ?c2 ?c3 ?c4 ?c5
  case kA => exact rfl
  case kF => exact rfl
  case kK => exact rfl
  case kL => exact hloc
  case k1 => k_asm
  case k2 => k_asm
  case k3 => k_asm
  case k4 => k_asm
  case k5 => exact TT
  case k6 => k_is
  case k7 => k_is
  case k8 => k_room
  case k9 => exact BindsTo.of_eq rfl
  case c5 => decide
  case kB => exact locs rfl
  case c2 => exact rfl
  case c3 => exact rfl
  case c4 => exact rfl
  intro g1 L1 h1 FG1 F1 N1 B1 X1 TT1 D1 l1
  have T1 : TopRead p₀ loose mg mb g1 := topRead_of TT1
  (try dsimp only)
  (try k_fold)
  k_steps
  refine stop_go (gx_spec (od := od) (d := d) (kvs := kvs) (tkx := tkx) (nx := nx) (xd := xd) (rs := rs) (n := n) (dl := dl) (vs := vs) X₀ TT D1 (by exact ⟨B1, X1, T1, rfl, rfl, rfl, rfl⟩) F1 N1 (by k_room) (by k_units) hlx (by decide +kernel) hx hxd hdm hod hd100 hv hl hT hz hok hokx hnx ?hq ?hn ?hd)
  case hn =>
    intro lv g' g e t vs' h' tk' hs T6 B6 FG6 R U
    have D6 := D1.turn T6
    clear F1 N1
    k_steps
    refine hq _ [(_, listOf #[Value.str (Str.ofString "gone") _] 0)] _ _ (by assumption) (by assumption) ?_ (fun p hp => ?_)
    · unfold askDat
      rw [hs]
      exact DatIn.list (vs := [Value.str (Str.ofString "gone") _]) (List.Mem.head _) (DatAll.cons (DatIn.str _ _) DatAll.nil)
    · rcases List.mem_cons.mp hp with rfl | hp
      · refine apart_top ?_
        with_reducible assumption
      · cases hp
  case hd =>
    intro b lv g e t vs' h' tk' hs FG R U
    clear F1 N1
    k_steps
    refine hq _ [(_, listOf #[Value.str (Str.ofString "never ended") _] 0)] _ _ (by assumption) (by assumption) ?_ (fun p hp => ?_)
    · unfold askDat
      rw [hs]
      exact DatIn.list (vs := [Value.str (Str.ofString "never ended") _]) (List.Mem.head _) (DatAll.cons (DatIn.str _ _) DatAll.nil)
    · rcases List.mem_cons.mp hp with rfl | hp
      · refine apart_top ?_
        with_reducible assumption
      · cases hp
  case hq =>
    intro b e lv y dy n' add h2 tk2 hs F2 N2 q1 q2
    k_steps
    refine stop_go (pl_spec (rs := (rs.drop b).take (e + 1 - b)) (l := y) (n := n') (dl := dy) (by exact ⟨B1, X1, T1, rfl, rfl, rfl, rfl⟩) F2 N2 (by k_room) (by k_units) (List.Mem.head _) (((hT.drop b).take (e + 1 - b)).mono fun p hp => List.Mem.tail _ (List.mem_append_right _ hp)) (by simp; omega) fun D ys nn add2 h3 tk3 F3 N3 hR q3 q4 => ?_)
    k_steps
    rename_i l5 h5 FG5 N5 lt5 _ F5 N5' _ _
    refine hq _ ((l5, listOf #[Value.str (Str.ofString "told") tk, Value.ref D] 0) :: (D, listOf ys.toArray nn) :: (add2 ++ (y, tagsObj dy (List.take (e + 1 - b) (List.drop b vs)) n') :: add)) _ _ F5 (news_sub N5' ?_) ?_ ?_
    · intro p hp
      simpa using hp
    · unfold askDat
      rw [hs]
      refine DatIn.list (vs := [Value.str (Str.ofString "told") tk, Value.ref D]) (List.Mem.head _) (DatAll.cons (DatIn.str _ _) (DatAll.cons (DatIn.list (vs := ys) (List.Mem.tail _ (List.Mem.head _)) (DatAll.mono ?_ hR)) DatAll.nil))
      intro p hp
      simp at hp ⊢
      exact .inr (.inr hp)
    · intro p hp q hq'
      rcases List.mem_cons.mp hp with rfl | hp
      · exact Ne.symm (Nat.ne_of_lt (TopLe.lt lt5 q (List.Mem.tail _ (List.mem_append_right _ (List.Mem.tail _ (List.mem_append_right _ hq'))))))
      rcases List.mem_cons.mp hp with rfl | hp
      · exact (q4 q (List.Mem.tail _ (List.mem_append_right _ hq'))).symm
      rcases List.mem_append.mp hp with hp | hp
      · exact apart_top (q3 p hp).1 q (List.Mem.tail _ (List.mem_append_right _ hq'))
      rcases List.mem_cons.mp hp with rfl | hp
      · exact apart_top q2 q hq'
      · exact apart_top (q1 p hp).1 q hq'
end

/- part MFt -/
theorem fresh_MFt : True ∧ True := by
  w_top off
  first
    | (walk1; done)
    | exact ⟨True.intro, True.intro⟩
section
set_option maxHeartbeats 1000000 in
theorem ft_spec {w : World} {A A₀ : Around} {s : Shared} {base h₀ : Heap} {outer : List Env} {env : Env} {L : Addr} {m mg mb : Str → Option Value} {p₀ : Program} {loose : List Str} {news : List (Addr × Obj)} {E : Value → Shared → Prop} {Q : Value → Shared → Prop} {l : Addr} {ol : Obj} {vs : List Value} {rows : List Row} {ps1 : Array Value} (hb : Bm mg h₀) (cx : Cx w A A₀ base h₀ outer env L mg mb p₀ loose) (F : Fr h₀ L s.heap m)
    (N : News h₀ L s.heap ((201, tabObj ps1) :: news)) (hr : A.depth + 160 < recursionLimit) (hu : A.units + 3000 < cLine) (hps1 : TriplesOk ps1.toList) (hoff1 : ∀ p ∈ news, p.1 ≠ 201)
    (hl : (l, ol) ∈ news) (hol : SrcObj ol vs) (hT : SrcIn news vs rows) (hz : rows.length ≤ 900)
    (h : ∀ (ps1' : Array Value) (x dx : Nat) vs' nn add h' tk gn, Fr h₀ L h' m → News h₀ L h' ((x, tagsObj dx vs' nn) :: (add ++ (201, tabObj ps1') :: news)) → TriplesOk ps1'.toList →
      TagsIn add vs' rows → (∀ p ∈ add, top ((201, tabObj ps1) :: news) ≤ p.1 ∧ p.1 ≠ x) → top ((201, tabObj ps1) :: news) ≤ x → (AllBare s.gens → AllBare gn) → Q (.ref x) (gSt s h' tk gn)) :
    codeAny (model Challenge.rw_fy0015_01.row.toRowW.1 w) A (.call (.ref 206) ⟨[.ref 366, .ref l], []⟩) (fun r s' => match r with | .ok (.ret v) => Q v s' | .ok _ => False | .error e => E e s') s := by
  obtain ⟨B, X₀, T, hh, hA, hf, hk⟩ := cx
  revert X₀
  k_fill
  intro X₀
  obtain ⟨_, _, _, _, _⟩ := A
  obtain ⟨⟨_, _, _, _, _⟩, _, _, _, _, _, _, _, _⟩ := env
  dsimp only at hA hf hk hh hr hu
  subst hA hf hk hh
  k_enter
  rename_i g1 L1 h1 FG1 F1 N1 B1 X1 T1 l1 hlt1
  k_steps
  refine gx_make F1 rfl rfl (by decide +kernel) rfl rfl (by k_room) rfl rfl (codeHd_of_K (c := 205) (P := 201) X1 (by kernel_rfl)) (hb.keeps FG1.keep) T1.nolimit ?_ (fun _ => rfl)
  k_steps
  refine src_iter F1 X1 N1 (List.Mem.tail _ hl) hol ?_
  have F2 := F1.push (listIter l 0)
  have N2 := N1.push F1 (listIter l 0)
  have hI := topLe_news N1
  refine ⟨(h1.objs.size, listIter l 0) :: news, ps1, F2, news_sub N2 (by intro p hp; (repeat' (rcases List.mem_cons.mp hp with rfl | hp)) <;> (repeat (first | exact List.Mem.head _ | exact hp | exact List.mem_append_right _ hp | refine List.Mem.tail _ ?_))), hps1, ?_, ?_⟩
  · intro p hp
    rcases List.mem_cons.mp hp with rfl | hp
    · exact Nat.ne_of_gt hI.head
    · exact hoff1 p hp
  intro C a h5 tk ps1' code oC t1 t2 F3 N3 hps1' hns hC hLC hCa
  clear F2 N2
  k_steps
  obtain ⟨nl, hseq⟩ := src_seq hol
  have hIlt : @LT.lt Nat _ h1.objs.size C := hC.lt _ (List.Mem.tail _ (List.Mem.head _))
  refine stop_go (tags_src (nm := Str.ofString "DXFTag") (oC := oC) (l := l) (I := h1.objs.size) (g := s.gens.size) (ol := ol) (ln := nl) (rvs := vs) (rows := rows) (qq := Str.ofString "Tags.from_tuples" ++ ".<locals>." ++ "<genexpr>") (t1 := t1) (t2 := t2) (news := (201, tabObj ps1') :: news) elt_cls (by exact ⟨B1, X1, T1, rfl, rfl, rfl, rfl⟩) rfl F3 (news_sub N3 ?_) (by k_room) (by k_units) hns Array.getElem?_push_size hLC hIlt hCa ?_ ?_ (List.Mem.tail _ hl) hseq ⟨hT.1, fun i hi => ?_⟩ (by omega) fun x dx vs2 nn2 add h6 tk6 gn6 F6 N6 hT6 hadd6 hax hdx hb6 => ?_)
  · (intro p hp; (repeat' (rcases List.mem_cons.mp hp with rfl | hp)) <;> (repeat (first | exact List.Mem.head _ | exact hp | exact List.mem_append_right _ hp | refine List.Mem.tail _ ?_)))
  · intro p hp
    rcases List.mem_cons.mp hp with rfl | hp
    · exact hC.head
    · exact hC.lt p (List.Mem.tail _ (List.Mem.tail _ hp))
  · intro p hp
    rcases List.mem_cons.mp hp with rfl | hp
    · exact Nat.ne_of_lt hI.head
    · exact Nat.ne_of_lt (hI.lt p (List.Mem.tail _ hp))
  · obtain ⟨a, q1, q2⟩ := hT.2 i hi
    exact ⟨a, q1, q2.mono fun p hp => List.Mem.tail _ hp⟩
  k_steps
  have htop : top ((201, tabObj ps1) :: news) ≤ C := topLe_of (d := C) (l := (201, tabObj ps1) :: news) fun p hp => (List.mem_cons.mp hp).elim (fun e => e ▸ hC.head) fun hp => hC.lt p (List.Mem.tail _ (List.Mem.tail _ hp))
  refine h ps1' x dx vs2 nn2 ((dx, emptyDict) :: add) _ _ _ (by assumption) (news_sub (l := (x, tagsObj dx vs2 nn2) :: (add ++ (dx, emptyDict) :: (201, tabObj ps1') :: news)) (by assumption) ?_) hps1' (hT6.mono fun p hp => List.Mem.tail _ hp) ?_ ?_ (fun z => hb6 (AllBare.push z rfl))
  · intro p hp
    simp at hp ⊢
    rcases hp with h | h | h | h | h <;> simp [h]
  · intro p hp
    rcases List.mem_cons.mp hp with rfl | hp
    · exact ⟨by dsimp only; omega, Nat.ne_of_lt hdx⟩
    · have := hadd6 p hp
      exact ⟨by omega, Nat.ne_of_gt this⟩
  · omega
end

/- part MGv -/
section
/-! A generator function whose body is: statements, a `for` whose last statement yields, statements. -/
/-- the protocol with something fixed on the way (the loop's iterator) -/
def gfProto {ι : Type} (n : Nat) (J : ι → Nat → Shared → Prop) (Yv : ι → Nat → Value → Shared → Shared → Prop) : Protocol := fun m s₀ v s kap => ∃ i I, i < n ∧ m = n - 1 - i ∧ Yv I i v s₀ s ∧ ∀ s'' : Shared, J I (i + 1) s'' → kap (.send .none) s''
def gfEndI (Dn : Shared → Shared → Prop) (Er : Value → Shared → Shared → Prop) : GenEnd := fun k s₀ r s₁ => k = 0 ∧ ((r = .ok (.ret .none) ∧ Dn s₀ s₁) ∨ ∃ e, r = .error e ∧ Er e s₀ s₁)
def GfAtI {ι : Type} (prog : Program) (w : World) (A : Around) (n : Nat) (J : ι → Nat → Shared → Prop) (Yv : ι → Nat → Value → Shared → Shared → Prop) (Dn : Shared → Shared → Prop) (Er : Value → Shared → Shared → Prop) (I : ι) (i : Nat) (gs : GenState) : Prop :=
  ∀ s', J I i s' → gs.Goes (model prog w) A.in1 (gfEndI Dn Er) (gfProto n J Yv) (n - i) (.send .none) s'
section
variable {prog : Program} {w : World} {A : Around}
theorem gf_nextI {ι : Type} {I : ι} {n i : Nat} {J : ι → Nat → Shared → Prop} {Yv : ι → Nat → Value → Shared → Shared → Prop} {Dn : Shared → Shared → Prop} {Er : Value → Shared → Shared → Prop} {a : Addr} {g : Nat} {gs : GenState} {s : Shared} {Q : Option Value → Shared → Prop} {E : Value → Shared → Prop} (live : ∀ I' i v s₀ s, Yv I' i v s₀ s → ∃ sx, J I' (i + 1) sx) (hh : A.handled = none)
    (hl : s.heap.NoLimit) (hroom : A.depth < recursionLimit) (hg : s.heap.IsGen a g) (hgs : s.gens[g]? = some gs) (hi : i ≤ n) (hgo : GfAtI prog w A n J Yv Dn Er I i gs) (hJ : J I i (s.setGen g .running))
    (item : i < n → ∀ I' v s₁ gs', gs'.bare = true → Yv I' i v (s.setGen g .running) s₁ → GfAtI prog w A n J Yv Dn Er I' (i + 1) gs' → Q (some v) (s₁.setGen g gs'))
    (fin : i = n → ∀ s₁, Dn (s.setGen g .running) s₁ → ∀ h', (∀ b o, s₁.heap.get? b = some o → h'.get? b = some o) → Q none { s₁.setGen g .finished with heap := h' })
    (err : i = n → ∀ e s₁, Er e (s.setGen g .running) s₁ → GenRaises prog w A a e (fun s₂ => E e s₂) (s₁.setGen g .finished)) :
    wpAny (model prog w) A (pyNext (.ref a)) Q E s := by
  have q := hgo _ hJ
  unfold pyNext
  refine wpAny_bind (wpAny_attempt (wpAny_callSpecial?_slot (name := Str.ofString "__next__") hg.typeIs slot_gen_next
    (wpAny_call_entry slot_gen_next hg.typeIs entry_gen_next ?_ (args_gen_next _))))
  show wpAny _ _ (Builtin.Generator.genWake (.ref a) (.send .none)) _ _ s
  unfold Builtin.Generator.genWake
  refine wpAny_bind (wpAny_holding (wpAny_genNumber hg (wpAny_bind (wpAny_genState hgs ?_))))
  cases gs with
  | running => exact q.elim
  | finished => exact q.elim
  | _ =>
    refine wpAny_bind (wpAny_roomToWake hl hroom ?_)
    show wpAny _ _ (.resume g (.send .none) [] _) _ _ s
    refine wpAny_resumeQ hgs q (fun x s₁ hx => ?_) (fun v s₁ gs' hbr hv => ?_)
    · obtain ⟨hk, hx⟩ := hx
      have hin : i = n := by omega
      rcases hx with ⟨rfl, hp⟩ | ⟨e, rfl, hp⟩
      · show wpAny _ _ (newExc (.type "StopIteration") [] >>= _) _ _ _
        refine wpAny_bind ?_
        simp only [newExc, newTuple]
        refine wpAny_bind (wpAny_newObj_type ?_ (by size_fits))
        refine wpAny_bind (m := firstArgMember _ _) (wpAny_of_eq (a := Value.none) (by first | rfl | (simp only [firstArgMember]; rfl)) ?_)
        refine wpAny_newObj_type ?_ (by size_fits)
        simp only [raiseNew]
        refine wpAny_bind (wpAny_bind (wpAny_handled ?_))
        rw [show A.in1.handled = none from hh]
        refine wpAny_throw ?_
        refine wpAny_bind (wpAny_isInstance (T := "StopIteration") (b := true) ⟨_, Heap.get?_push_size _ rfl, rfl⟩ PySem.isSubtype_stop ?_)
        exact wpAny_pure (fin hin s₁ hp _ fun b o hb => Heap.get?_push_of_some _ (Heap.get?_push_of_some _ hb))
      · show wpAny _ _ (Builtin.Generator.genLeft (.ref a) e) _ _ _
        refine wpAny_mono (err hin e s₁ hp) (fun _ _ z => z.elim) (fun e' s₂ z => ?_)
        obtain ⟨rfl, z⟩ := z
        refine wpAny_bind (wpAny_mono z (fun b s₃ z => ?_) fun _ _ z => z.elim)
        obtain ⟨rfl, z⟩ := z
        simp only [Bool.false_eq_true, if_false]
        exact wpAny_throw z
    · obtain ⟨i', I', h1, h2, h3, h4⟩ := hv
      by_cases hlt : i < n
      · have : i' = i := by omega
        subst this
        refine wpAny_pure ⟨v, rfl, wpAny_pure (item hlt I' v s₁ gs' hbr h3 fun s'' hJ' => ?_)⟩
        have := h4 s'' hJ'
        rw [show n - i' = (n - (i' + 1)) + 1 by omega] at this
        exact this
      · have e1 : i = n := by omega
        have e2 : i' + 1 = n := by omega
        subst e2
        have e3 : i' + 1 - i = 0 := by omega
        rw [e3] at h4
        subst e1
        obtain ⟨sx, hsx⟩ := live I' i' v _ s₁ h3
        exact (h4 _ hsx).elim
end
structure VA (A : Around) (env : Env) (l : List Env) (A2 : Around) : Prop where
  fr : A2.frames = some (env :: l)
  hh : A2.handled = A.handled
  dp : A2.depth ≤ A.depth + 10
  un : A2.units ≤ A.units + 50
def MadeUp (A : Around) (env : Env) (l : List Env) (Er : Value → Shared → Prop) (ev : Value) (s : Shared) : Prop :=
  ∃ (name : Str) (scope : Scope) (L a : Addr) (cd : Value) (base g h : Heap) (m : Str → Option Value) (lg : List (Addr × Obj)) (e : Addr) (cls : Value) (vs : List Value), env = envOf name scope L a cd ∧ scope.kind = .function ∧ ev = .ref e ∧ Below A base l g ∧ Heap.MadeExcOf h s.heap e cls vs ∧ Fr g L h m ∧ News g L h lg ∧
    ∀ h' t, RaisedC base g l e cls t vs lg h' → g.UpToSlots h' → Er (.ref e) { s with heap := h' }
def jSel {ι : Type} (J0 : Shared → Prop) (Jl : ι → Nat → Shared → Prop) (I : ι) (i : Nat) : Shared → Prop := match i with
  | 0 => J0
  | i + 1 => Jl I (i + 1)
section
variable {prog : Program} {w : World} {A : Around} {n : Nat} {ι : Type} {J0 : Shared → Prop} {Jl : ι → Nat → Shared → Prop} {Yv : ι → Nat → Value → Shared → Shared → Prop} {Dn : Shared → Shared → Prop} {Er : Value → Shared → Shared → Prop}
  {body lbody post : List Stmt} {env : Env} {l : List Env} {x : Str} {px fp yp ep : Pos} {iter ye : PySem.Expr} {it : Value}
theorem va_func (hA : A.frames = some l) (hfr : (Code.func body env).envs = [env]) : VA A env l (A.in1.over (.func body env) []) := by
  refine ⟨over_frames hA hfr, rfl, ?_, ?_⟩
  · have e : (A.in1.over (.func body env) []).depth = A.depth + 0 + 1 := rfl
    rw [e]; omega
  · have e : (A.in1.over (.func body env) []).units = A.in1.units + 0 + 3 := rfl
    rw [e]; simp only [units_in1]; omega
theorem va_loop {K : Flow → Sem Fin} {H : Value → Sem Fin} {p : Pos} (hA : A.frames = some l) (hfr : (Code.func body env).envs = [env]) (hf2 : (Code.forLoop (.Name x px) it lbody [] env).envs = []) : VA A env l (A.in1.over (.forLoop (.Name x px) it lbody [] env) [loopRet env K H id id (.func body env) p]) := by
  refine ⟨?_, rfl, ?_, ?_⟩
  · show pushEnvs (Code.forLoop (.Name x px) it lbody [] env).envs (pushEnvs (envsOf [(Code.func body env, p)]) A.in1.frames) = _
    rw [hf2, envsOf_cons, hfr]
    show pushEnvs [] (pushEnvs ([env] ++ []) A.frames) = _
    rw [hA]
    rfl
  · have e : (A.in1.over (.forLoop (.Name x px) it lbody [] env) [loopRet env K H id id (.func body env) p]).depth ≤ A.depth + 10 := by
      show A.depth + frameCount [(Code.func body env, p)] + (Code.forLoop (.Name x px) it lbody [] env).weight ≤ _
      have e1 : frameCount [(Code.func body env, p)] = 1 := rfl
      have e2 : (Code.forLoop (.Name x px) it lbody [] env).weight ≤ 1 := Nat.le_of_ble_eq_true rfl
      omega
    exact e
  · show A.in1.units + unitsOf [(Code.func body env, p)] + (Code.forLoop (.Name x px) it lbody [] env).cUnits ≤ _
    have e1 : unitsOf [(Code.func body env, p)] = 3 := rfl
    have e2 : (Code.forLoop (.Name x px) it lbody [] env).cUnits ≤ 10 := Nat.le_of_ble_eq_true rfl
    simp only [units_in1]
    omega
def WTurn (prog : Program) (w : World) (A2 : Around) (lb : List Stmt) (env : Env) (x : Str) (px : Pos) (it : Value) (Q : Flow → Shared → Prop) (E : Value → Shared → Prop) (s : Shared) : Prop :=
  wpAny (model prog w) A2 (pyNext it) (fun r s1 => ∃ v, r = some v ∧ wpAny (model prog w) A2 (assign (.Name x px) env v) (fun _ s2 => wpAny (model prog w) A2 (execs lb env) Q E s2) (fun _ _ => False) s1) (fun _ _ => False) s
theorem gen_loop {I : ι} {Sn : ι → Shared → Shared → Prop} (k9 k6 : Nat) (hl : lbody.drop k6 = [.Expr (.Yield (some ye) yp) ep]) (hco : env.scope.isCoroutine = false) (hint : interactive env = false)
    (hA : A.frames = some l) (hfr : (Code.func body env).envs = [env]) (hf2 : (Code.forLoop (.Name x px) it lbody [] env).envs = [])
    (hS : ∀ i s, Jl I i s → Sn I s s) (w1 : ∀ A2 i s₀ s, VA A env l A2 → i < n → Sn I s₀ s → Jl I i s → WTurn prog w A2 (lbody.take k6) env x px it (fun f s3 => f = .next ∧ wpAny (model prog w) A2 (eval ye env) (fun y s4 => Yv I i y s₀ s4) (fun _ _ => False) s3) (fun _ _ => False) s)
    (w2 : ∀ A2 s₀ s, VA A env l A2 → Sn I s₀ s → Jl I n s → WTurn prog w A2 (lbody.take k6) env x px it (fun _ _ => False) (MadeUp A env l fun e => Er e s₀) s ∨
      ∀ A1, VA A env l A1 → wpAny (model prog w) A2 (pyNext it) (fun r s1 => r = none ∧ wpAny (model prog w) A1 (execs post env) (fun f s2 => f = .next ∧ Dn s₀ s2) (MadeUp A env l fun e => Er e s₀) s1) (fun _ _ => False) s)
    {p : Pos} : ∀ k i s₀ s, n - i = k → i ≤ n → Sn I s₀ s → Jl I i s → Seg (model prog w) A.in1 (gfEndI Dn Er) (gfProto n (jSel J0 Jl) Yv) (n - i) s₀ (.forLoop (.Name x px) it lbody [] env) ((model prog w).den (.forLoop (.Name x px) it lbody [] env))
      [loopRet env (fun f => match f with | .next => (execs post env).wrap (fun f => .pure (.done (.ret (match f with | .ret v => v | _ => .none)))) (funH env) id id | f => .pure (.done (.ret (match f with | .ret v => v | _ => .none)))) (funH env) id id (.func body env) p] s := by
  have hsp : lbody = lbody.take k6 ++ [.Expr (.Yield (some ye) yp) ep] := by rw [← hl, List.take_append_drop]
  intro k
  induction k with
  | zero =>
    intro i s₀ s hk hi hS0 hJ
    have hin : i = n := by omega
    subst hin
    rw [Nat.sub_self]
    rcases w2 _ s₀ s (va_loop hA hfr hf2) hS0 hJ with h | h
    · refine seg_forLoop (wpAny_mono h (fun r s1 h1 => ?_) fun _ _ e => e)
      obtain ⟨v, rfl, h1⟩ := h1
      refine wpAny_mono h1 (fun _ s2 h2 => ?_) fun _ _ e => e
      have e0 : (execs lbody env).wrap (bodyK (.Name x px) it lbody env) (noted env) id id = (execs (lbody.take k6 ++ [.Expr (.Yield (some ye) yp) ep]) env).wrap (bodyK (.Name x px) it lbody env) (noted env) id id := by rw [← hsp]
      rw [e0]
      refine seg_execs_pre (wpAny_mono h2 (fun _ _ z => z.elim) (fun ev s3 z => ?_))
      obtain ⟨name, scope, L, a, cd, base, g, hp, m, lg, e, cls, vs, rfl, hk2, rfl, B, hx, F, N, hR⟩ := z
      exact seg_raised (A := A.in1) ⟨B.stack, B.stays, B.frames⟩ hk2 hx F N (va_loop hA hfr hf2).fr (va_func hA hfr).fr fun h' t R U => ⟨rfl, .inr ⟨_, rfl, hR h' t R U⟩⟩
    · refine seg_forLoop (wpAny_mono (h _ (va_func hA hfr)) (fun r s1 h1 => ?_) fun _ _ e => e)
      obtain ⟨rfl, h1⟩ := h1
      refine seg_block0 (seg_leaf (.ok .next) ?_)
      show Seg _ A.in1 _ _ _ s₀ _ ((execs post env).wrap (fun f => .pure (.done (.ret (match f with | .ret v => v | _ => .none)))) (funH env) id id) [] s1
      refine seg_wrap (wpAny_mono h1 (fun f s2 z => ?_) fun ev s3 z => ?_)
      · obtain ⟨rfl, z⟩ := z
        exact seg_end (.ok (.ret .none)) ⟨rfl, .inl ⟨rfl, z⟩⟩
      · obtain ⟨name, scope, L, a, cd, base, g, hp, m, lg, e, cls, vs, rfl, hk2, rfl, B, hx, F, N, hR⟩ := z
        exact seg_raised0 (A := A.in1) ⟨B.stack, B.stays, B.frames⟩ hk2 hx F N (va_func hA hfr).fr fun h' t R U => ⟨rfl, .inr ⟨_, rfl, hR h' t R U⟩⟩
  | succ k ih =>
    intro i s₀ s hk hi hS0 hJ
    have hlt : i < n := by omega
    rw [show n - i = (n - (i + 1)) + 1 by omega]
    refine seg_forLoop (wpAny_mono (w1 _ i s₀ s (va_loop hA hfr hf2) hlt hS0 hJ) (fun r s1 h1 => ?_) fun _ _ e => e)
    obtain ⟨v, rfl, h1⟩ := h1
    refine wpAny_mono h1 (fun _ s2 h2 => ?_) fun _ _ e => e
    have e0 : (execs lbody env).wrap (bodyK (.Name x px) it lbody env) (noted env) id id = (execs (lbody.take k6 ++ [.Expr (.Yield (some ye) yp) ep]) env).wrap (bodyK (.Name x px) it lbody env) (noted env) id id := by rw [← hsp]
    rw [e0]
    refine seg_execs_pre (wpAny_mono h2 (fun f s3 z => ?_) fun _ _ z => z.elim)
    obtain ⟨rfl, z⟩ := z
    refine ⟨rfl, seg_execs_cons (seg_Expr_Yield rfl rfl rfl (wpAny_mono z (fun y s4 hy => ?_) fun _ _ e => e.elim) hco hint)⟩
    intro kap hkap
    refine ⟨i, I, hlt, by omega, hy, fun s5 hJ5 => hkap .none s5 ?_⟩
    exact seg_again rfl (ih (i + 1) s5 s5 (by omega) hlt (hS _ _ hJ5) hJ5)
theorem gen_for {itf : ι → Value} {Sn : ι → Shared → Shared → Prop} (k9 k6 : Nat) (hbody : body.drop k9 = .For (.Name x px) iter lbody [] fp :: post) (hl : lbody.drop k6 = [.Expr (.Yield (some ye) yp) ep]) (hco : env.scope.isCoroutine = false) (hint : interactive env = false) (hfold : ∀ x, foldedSetIterable iter env x = pure x)
    (hA : A.frames = some l) (hfr : (Code.func body env).envs = [env]) (hf2 : ∀ I, (Code.forLoop (.Name x px) (itf I) lbody [] env).envs = [])
    (w0 : ∀ A1 s, VA A env l A1 → J0 s → wpAny (model prog w) A1 (execs (body.take k9) env) (fun f s1 => f = .next ∧ wpAny (model prog w) A1 (eval iter env) (fun xv s2 => wpAny (model prog w) A1 (pyIter xv) (fun it' s3 => ∃ I, it' = itf I ∧ Sn I s s3 ∧ Jl I 0 s3) (fun _ _ => False) s2) (fun _ _ => False) s1) (fun _ _ => False) s)
    (hS : ∀ I i s, Jl I i s → Sn I s s) (w1 : ∀ I A2 i s₀ s, VA A env l A2 → i < n → Sn I s₀ s → Jl I i s → WTurn prog w A2 (lbody.take k6) env x px (itf I) (fun f s3 => f = .next ∧ wpAny (model prog w) A2 (eval ye env) (fun y s4 => Yv I i y s₀ s4) (fun _ _ => False) s3) (fun _ _ => False) s)
    (w2 : ∀ I A2 s₀ s, VA A env l A2 → Sn I s₀ s → Jl I n s → WTurn prog w A2 (lbody.take k6) env x px (itf I) (fun _ _ => False) (MadeUp A env l fun e => Er e s₀) s ∨
      ∀ A1, VA A env l A1 → wpAny (model prog w) A2 (pyNext (itf I)) (fun r s1 => r = none ∧ wpAny (model prog w) A1 (execs post env) (fun f s2 => f = .next ∧ Dn s₀ s2) (MadeUp A env l fun e => Er e s₀) s1) (fun _ _ => False) s) :
    ∀ I₀, GfAtI prog w A n (jSel J0 Jl) Yv Dn Er I₀ 0 (.fresh (.func body env)) := by
  intro I₀ s' hJ
  refine ⟨rfl, ?_⟩
  have e0 : body = body.take k9 ++ .For (.Name x px) iter lbody [] fp :: post := by rw [← hbody, List.take_append_drop]
  refine seg_func ?_
  have e1 : (execs body env).wrap (fun f => (.pure (.done (.ret (match f with | .ret v => v | _ => .none))) : Sem Fin)) (funH env) id id = (execs (body.take k9 ++ .For (.Name x px) iter lbody [] fp :: post) env).wrap (fun f => (.pure (.done (.ret (match f with | .ret v => v | _ => .none))) : Sem Fin)) (funH env) id id := by rw [← e0]
  show Seg _ A.in1 _ _ _ _ _ ((execs body env).wrap (fun f => (.pure (.done (.ret (match f with | .ret v => v | _ => .none))) : Sem Fin)) (funH env) id id) [] s'
  rw [e1]
  refine seg_execs_pre (wpAny_mono (w0 _ s' (va_func hA hfr) hJ) (fun f s1 z => ?_) fun _ _ z => z.elim)
  obtain ⟨rfl, z⟩ := z
  refine ⟨rfl, seg_execs_cons (seg_For hfold (wpAny_mono z (fun xv s2 z2 => wpAny_mono z2 (fun it' s3 z3 => ?_) fun _ _ e => e.elim) fun _ _ e => e.elim))⟩
  obtain ⟨I, rfl, hS3, hJ3⟩ := z3
  intro p
  exact gen_loop k9 k6 hl hco hint hA hfr (hf2 I) (hS I) (w1 I) (w2 I) n 0 s' s3 (Nat.sub_zero _) (Nat.zero_le _) hS3 hJ3
end
end

/- part MVe -/
section
/-! The generator function's turn seen from its own frame C: everything of the caller's can be read and stays. -/
def above (h : Heap) (C I : Nat) : List (Addr × Obj) := (List.range h.objs.size).filterMap fun b => if C < b ∧ b ≠ I then (h.get? b).map fun o => (b, o) else none
theorem above_mem {h : Heap} {C I : Nat} {p : Addr × Obj} (hp : p ∈ above h C I) : h.get? p.1 = some p.2 ∧ @LT.lt Nat _ C p.1 ∧ @Ne Nat p.1 I := by
  unfold above at hp
  obtain ⟨b, hb, e⟩ := List.mem_filterMap.mp hp
  split at e
  · rename_i hc
    cases q : h.get? b with
    | none => rw [q] at e; cases e
    | some o => rw [q] at e; cases e; exact ⟨q, hc.1, hc.2⟩
  · cases e
theorem mem_above {h : Heap} {C I : Nat} {b : Nat} {o : Obj} (e : h.get? b = some o) (h1 : C < b) (h2 : b ≠ I) : (b, o) ∈ above h C I := by
  unfold above
  refine List.mem_filterMap.mpr ⟨b, List.mem_range.mpr (Heap.lt_size e), ?_⟩
  rw [if_pos ⟨h1, h2⟩, e]
  rfl
def Pres (C I : Addr) (h h' : Heap) : Prop := ∀ b o, b ≠ C → b ≠ I → h.get? b = some o → h'.get? b = some o
theorem Pres.trans {C I : Addr} {h1 h2 h3 : Heap} (a : Pres C I h1 h2) (b : Pres C I h2 h3) : Pres C I h1 h3 := fun x o h k e => b x o h k (a x o h k e)
section
variable {w : World} {A A₀ A2 : Around} {base h₀ h : Heap} {outer : List Env} {env cenv : Env} {L C I : Addr} {m mC mg mb : Str → Option Value} {p₀ : Program} {loose : List Str} {tn : List (Addr × Obj)} {oI : Obj}
theorem v_env (cx : Cx w A A₀ base h₀ outer env L mg mb p₀ loose) (hloc : env.locals = L) (F : Fr h₀ L h m) (N : News h₀ L h tn) (hLC : @LT.lt Nat _ L C) (hCI : @LT.lt Nat _ C I) (htn : ∀ p ∈ tn, @LT.lt Nat _ p.1 C) (hns : h.Ns C mC) (hI : h.get? I = some oI)
    (va : VA A cenv (env :: outer) A2) (hf : cenv.frame = some C) (hk : cenv.scope.kind = .function) :
    Cx w A2 A base (gcut h C tn) (env :: outer) cenv C mg mb p₀ loose ∧ Fr h₀ L (gcut h C tn) m ∧ Fr (gcut h C tn) C h mC ∧ News (gcut h C tn) C h ((I, oI) :: (tn ++ above h C I)) ∧
      ∀ h1 mC' oI', Fr (gcut h C tn) C h1 mC' → News (gcut h C tn) C h1 ((I, oI') :: (tn ++ above h C I)) → Fr h₀ L h1 m ∧ News h₀ L h1 tn ∧ Pres C I h h1 := by
  have Fc := fr_gcut F N hLC
  have hC : C ≤ h.objs.size := Nat.le_of_lt hns.lt
  refine ⟨⟨below_gen cx.B Fc cx.hA cx.hf cx.hk hloc, cx.X.keeps Fc.keep, cx.T.keeps Fc.keep, va.hh.trans cx.hh, va.fr, hf, hk⟩, Fc, fr_genH hns hC, news_genH fun p hp => ?_, fun h1 mC' oI' F1 N1 => ⟨gen_backH F N hLC F1, fun p hp => ?_, fun b o hb1 hb2 e => ?_⟩⟩
  · rcases List.mem_cons.mp hp with rfl | hp
    · exact ⟨hI, Nat.ne_of_gt hCI, .inr hCI⟩
    rcases List.mem_append.mp hp with hp | hp
    · exact ⟨(N p hp).1, Nat.ne_of_lt (htn p hp), .inl (List.mem_map_of_mem hp)⟩
    · obtain ⟨e1, e2, e3⟩ := above_mem hp
      exact ⟨e1, Nat.ne_of_gt e2, .inr e2⟩
  · exact ⟨(N1 p (List.Mem.tail _ (List.mem_append_left _ hp))).1, (N p hp).2⟩
  · rcases Nat.lt_or_ge b C with hlt | hge
    · by_cases hm : b ∈ tn.map (·.1)
      · obtain ⟨p, hp, rfl⟩ := List.mem_map.mp hm
        have e2 := (N p hp).1
        rw [e] at e2
        cases e2
        exact (N1 p (List.Mem.tail _ (List.mem_append_left _ hp))).1
      · exact F1.keep b o (hideAll_get _ (cut_lt hlt e) hm)
    · have hgt : @LT.lt Nat _ C b := Nat.lt_of_le_of_ne hge (Ne.symm hb1)
      exact (N1 (b, o) (List.Mem.tail _ (List.mem_append_right _ (mem_above e hgt hb2)))).1
theorem v_env0 (cx : Cx w A A₀ base h₀ outer env L mg mb p₀ loose) (hloc : env.locals = L) (F : Fr h₀ L h m) (N : News h₀ L h tn) (hLC : @LT.lt Nat _ L C) (htn : ∀ p ∈ tn, @LT.lt Nat _ p.1 C) (hns : h.Ns C mC)
    (va : VA A cenv (env :: outer) A2) (hf : cenv.frame = some C) (hk : cenv.scope.kind = .function) :
    ∃ g lg, Cx w A2 A base g (env :: outer) cenv C mg mb p₀ loose ∧ Fr h₀ L g m ∧ Fr g C h mC ∧ News g C h (tn ++ lg) ∧ (∀ b o, @LT.lt Nat _ C b → h.get? b = some o → (b, o) ∈ lg) ∧
      ∀ h1 mC', Fr g C h1 mC' → News g C h1 (tn ++ lg) → Fr h₀ L h1 m ∧ News h₀ L h1 tn ∧ ∀ b o, b ≠ C → h.get? b = some o → h1.get? b = some o := by
  have Fc := fr_gcut F N hLC
  have hC : C ≤ h.objs.size := Nat.le_of_lt hns.lt
  refine ⟨gcut h C tn, above h C C, ⟨below_gen cx.B Fc cx.hA cx.hf cx.hk hloc, cx.X.keeps Fc.keep, cx.T.keeps Fc.keep, va.hh.trans cx.hh, va.fr, hf, hk⟩, Fc, fr_genH hns hC, news_genH fun p hp => ?_, fun b o h1 e => mem_above e h1 (Nat.ne_of_gt h1), fun h1 mC' F1 N1 => ⟨gen_backH F N hLC F1, fun p hp => ?_, fun b o hb1 e => ?_⟩⟩
  · rcases List.mem_append.mp hp with hp | hp
    · exact ⟨(N p hp).1, Nat.ne_of_lt (htn p hp), .inl (List.mem_map_of_mem hp)⟩
    · obtain ⟨e1, e2, e3⟩ := above_mem hp
      exact ⟨e1, Nat.ne_of_gt e2, .inr e2⟩
  · exact ⟨(N1 p (List.mem_append_left _ hp)).1, (N p hp).2⟩
  · rcases Nat.lt_or_ge b C with hlt | hge
    · by_cases hm : b ∈ tn.map (·.1)
      · obtain ⟨p, hp, rfl⟩ := List.mem_map.mp hm
        have e2 := (N p hp).1
        rw [e] at e2
        cases e2
        exact (N1 p (List.mem_append_left _ hp)).1
      · exact F1.keep b o (hideAll_get _ (cut_lt hlt e) hm)
    · have hgt : @LT.lt Nat _ C b := Nat.lt_of_le_of_ne hge (Ne.symm hb1)
      exact (N1 (b, o) (List.mem_append_right _ (mem_above e hgt hb1))).1
end
end

/- part MVa -/
section
def hdRows : List Row := [(0, .s (Str.ofString "LINE")), (5, .s (Str.ofString "AB")), (8, .s (Str.ofString "0"))]
/-- the generator's own names ahead of its i-th turn -/
def vVars (x : Addr) (i : Nat) (lv : Int) (t1 t2 t3 t4 : Tok) : List (Str × Value) :=
  [(Str.ofString "tags", .ref x), (Str.ofString "dxftype", .str (Str.ofString "LINE") t1), (Str.ofString "is_xrecord", .bool false), (Str.ofString "handle", .str (if i ≤ 1 then Str.ofString "???" else Str.ofString "AB") t2), (Str.ofString "app_data", .bool false),
   (Str.ofString "xdata", .bool (decide (3 < i))), (Str.ofString "xdata_list_level", .int lv t3), (Str.ofString "app_data_closing_tag", .str (Str.ofString "}") t4), (Str.ofString "embedded_object", .bool false)]
def vOk (x : Addr) (i : Nat) (lv : Int) (mC : Str → Option Value) : Prop := ∃ t1 t2 t3 t4, ∀ p ∈ vVars x i lv t1 t2 t3 t4, mC p.1 = some p.2
def vGood (h₀ : Heap) (L C x : Addr) (tn : List (Addr × Obj)) (bd : List Row) (I : Addr) (i : Nat) (s : Shared) : Prop :=
  (∃ m, Fr h₀ L s.heap m) ∧ News h₀ L s.heap tn ∧ @LT.lt Nat _ C I ∧ (∃ oI, s.heap.get? I = some oI ∧ oI.cls = .type "list_iterator" ∧ oI.data = .fields #[.ref x, .int (i : Int) 0]) ∧
    ∃ mC lv, s.heap.Ns C mC ∧ vOk x i lv mC ∧ vRun (bd.take (i - 3)) = some lv
def vSn (C I : Addr) (s₀ s : Shared) : Prop := (∃ h tk, s = { s₀ with heap := h, toks := tk }) ∧ Pres C I s₀.heap s.heap ∧ (s₀.heap.get? I = none ∨ ∃ o, s₀.heap.get? I = some o ∧ o.cls = .type "list_iterator")
theorem vSn_refl {h₀ : Heap} {L C x I : Addr} {tn : List (Addr × Obj)} {bd : List Row} {i : Nat} {s : Shared} (h : vGood h₀ L C x tn bd I i s) : vSn C I s s := by
  obtain ⟨_, _, _, ⟨oI, hI, hc, _⟩, _⟩ := h
  exact ⟨⟨s.heap, s.toks, rfl⟩, fun _ _ _ _ e => e, .inr ⟨oI, hI, hc⟩⟩
section
variable {w : World} {A A₀ A2 : Around} {base h₀ : Heap} {outer : List Env} {env cenv : Env} {L C I x dx : Addr} {mg mb : Str → Option Value} {p₀ : Program} {loose : List Str} {tn : List (Addr × Obj)} {bd : List Row} {vs : List Value} {nx : Nat} {lb : List Stmt} {px : Pos} {Q : Flow → Shared → Prop} {E : Value → Shared → Prop}
theorem v_turn {i : Nat} {v : Value} {s₀ s : Shared} (cx : Cx w A A₀ base h₀ outer env L mg mb p₀ loose) (hloc : env.locals = L) (hLC : @LT.lt Nat _ L C) (htn : ∀ p ∈ tn, @LT.lt Nat _ p.1 C) (va : VA A cenv (env :: outer) A2) (hf : cenv.frame = some C) (hl : cenv.locals = C) (hk : cenv.scope.kind = .function) (hxl : cenv.kindOf (Str.ofString "tag") = some .local)
    (hx : (x, tagsObj dx vs nx) ∈ tn) (hv : vs[i]? = some v) (hS : vSn C I s₀ s) (hG : vGood h₀ L C x tn bd I i s)
    (h : ∀ (g : Heap) (lg : List (Addr × Obj)) (h2 : Heap) (tk : Nat) (u mL : Str → Option Value) (lv : Int) (t1 t2 t3 t4 : Tok) (oI : Obj), oI.cls = .type "list_iterator" → oI.data = .fields #[.ref x, .int ((i + 1 : Nat) : Int) 0] → Cx w A2 A base g (env :: outer) cenv C mg mb p₀ loose → Fr h₀ L g mL → (∀ b o, @LT.lt Nat _ C b → @Ne Nat b I → s.heap.get? b = some o → (b, o) ∈ lg) →
      Fr g C h2 (fun y => if y = Str.ofString "tag" then some v else upds (vVars x i lv t1 t2 t3 t4) u y) → News g C h2 ((I, oI) :: (tn ++ lg)) → vRun (bd.take (i - 3)) = some lv →
      (∀ h3 mC' tk', Fr g C h3 mC' → News g C h3 ((I, oI) :: (tn ++ lg)) → vSn C I s₀ { s with heap := h3, toks := tk' } ∧ ∀ lv', vOk x (i + 1) lv' mC' → vRun (bd.take (i + 1 - 3)) = some lv' → vGood h₀ L C x tn bd I (i + 1) { s with heap := h3, toks := tk' }) →
      wpAny (model Challenge.rw_fy0015_01.row.toRowW.1 w) A2 (execs lb cenv) Q E { s with heap := h2, toks := tk }) :
    WTurn Challenge.rw_fy0015_01.row.toRowW.1 w A2 lb cenv (Str.ofString "tag") px (.ref I) Q E s := by
  obtain ⟨⟨m, F⟩, N, hCI, ⟨oI, hI, hIc, hId⟩, mC, lv, hns, ⟨t1, t2, t3, t4, hvars⟩, hrun⟩ := hG
  have hxI : @Ne Nat x I := Nat.ne_of_lt (Nat.lt_trans (htn _ hx) hCI)
  refine next_item (items := vs.toArray) ⟨oI, hI, hIc, hId⟩ ⟨_, _, (N _ hx).1, rfl⟩ (by simpa using hv) fun h1 hit hs1 => ?_
  obtain ⟨oI1, hI1, hIc1, hId1⟩ := hit
  refine ⟨v, rfl, ?_⟩
  have hLI : @Ne Nat L I := Nat.ne_of_lt (Nat.lt_trans hLC hCI)
  have h₀I : h₀.get? I = none := Heap.get?_none_of_le (Nat.le_trans F.above (Nat.le_of_lt (Nat.lt_trans hLC hCI)))
  have h₀C : h₀.get? C = none := Heap.get?_none_of_le (Nat.le_trans F.above (Nat.le_of_lt hLC))
  have F1 := F.change hs1 (Ne.symm hLI) h₀I
  have hns1 : h1.Ns C mC := hns.sameBut hs1 (Nat.ne_of_lt hCI)
  have N1 : News h₀ L h1 tn := fun p hp => ⟨hs1.extBut _ _ (Nat.ne_of_lt (Nat.lt_trans (htn p hp) hCI)) (N p hp).1, (N p hp).2⟩
  refine wpAny_assign_Name (wpAny_storeName_local hxl (hl ▸ hns1) (fun h2 hn2 hs2 => ?_) (by rw [hk]; rfl))
  rw [hl] at hn2 hs2
  have F2 := F1.change hs2 (Nat.ne_of_gt hLC) h₀C
  have N2 : News h₀ L h2 tn := fun p hp => ⟨hs2.extBut _ _ (Nat.ne_of_lt (htn p hp)) (N1 p hp).1, (N1 p hp).2⟩
  have hI2 : h2.get? I = some oI1 := hs2.extBut _ _ (Nat.ne_of_gt hCI) hI1
  obtain ⟨cx2, Fg, FC, NC, back⟩ := v_env cx hloc F2 N2 hLC hCI htn hn2 hI2 va hf hk
  have em := upds_self (m := mC) (l := vVars x i lv t1 t2 t3 t4) hvars
  rw [em] at FC
  refine h (gcut h2 C tn) (above h2 C I) h2 _ mC m lv t1 t2 t3 t4 oI1 hIc1 hId1 cx2 Fg (fun b o k1 k2 e => mem_above (hs2.extBut _ _ (Nat.ne_of_gt k1) (hs1.extBut _ _ k2 e)) k1 k2) FC NC hrun fun h3 mC' tk' F3 N3 => ?_
  obtain ⟨b1, b2, b3⟩ := back h3 mC' oI1 F3 N3
  have P : Pres C I s.heap h3 := fun b o k1 k2 e => b3 b o k1 k2 (hs2.extBut _ _ k1 (hs1.extBut _ _ k2 e))
  obtain ⟨⟨hh, tk0, rfl⟩, P0, D0⟩ := hS
  exact ⟨⟨⟨h3, tk', rfl⟩, P0.trans P, D0⟩, fun lv' q1 q2 => ⟨⟨m, b1⟩, b2, hCI, ⟨oI1, (N3 _ (List.Mem.head _)).1, hIc1, hId1⟩, mC', lv', F3.ns, q1, q2⟩⟩
end
end

/- part MIsl -/
section
section
variable {prog : Program} {w : World} {A : Around} {E : Value → Shared → Prop} {s : Shared} {K : Frag} {C x : Addr}
theorem isl_nested {M : Model} {dep : Int} {tk : Tok} {Q : Fin → Shared → Prop} {E : Value → Shared → Prop} (Y : SubAt M s.heap K C x) (h : Q (.done (.ret (.bool true))) s) :
    wpAny M A (Builtin.«isinstance.nested» ⟨[.ref x, .type "list", .int dep tk], []⟩) Q E s := by
  obtain ⟨hh, g, d, tt, os⟩ := s
  unfold Builtin.«isinstance.nested»
  refine wpAny_bind (Y.typ.at ?_)
  rw [if_neg (by simp)]
  refine wpAny_bind (m := typeOf (.type "list")) (wpAny_pure ?_)
  rw [if_pos (by decide)]
  k_delta "plainIsInstance"
  refine wpAny_bind (wpAny_bind (m := isType (.type "list")) (wpAny_pure ?_))
  simp only [Bool.not_true, Bool.false_eq_true, if_false]
  refine wpAny_bind (Y.lst.at ?_)
  simp only [if_true]
  exact wpAny_pure (wpAny_pure h)
theorem isl_call {Q : Value → Shared → Prop} (Y : ∀ M, SubAt M s.heap K C x) (h : Q (.bool true) s) : wpAny (model prog w) A (call (.builtin "isinstance") [.ref x, .type "list"]) Q E s :=
  call_isinstance (S := fun _ R s => (∀ M, SubAt M s.heap K C x) ∧ R (.ok (.ret (.bool true))) s) (fun _ _ _ _ _ hs => isinstance_outer (isl_nested (hs.1 _) hs.2) (by intro q; cases q)) ⟨Y, h⟩
theorem tisl {w : World} {A : Around} {E : Value → Shared → Prop} {s : Shared} {h₀ : Heap} {L l dl : Addr} {m : Str → Option Value} {news : List (Addr × Obj)} {vs : List Value} {n : Nat} {Q : Value → Shared → Prop} (F : Fr h₀ L s.heap m) (X₀ : (hd.heap_39 w.params).In h₀) (N : News h₀ L s.heap news) (hl : (l, tagsObj dl vs n) ∈ news)
    (h : Q (.bool true) s) : wpAny (model Challenge.rw_fy0015_01.row.toRowW.1 w) A (call (.builtin "isinstance") [.ref l, .type "list"]) Q E s :=
  isl_call (K := (hd.heap_39 w.params)) (C := 366) (fun _ => subAt_of (X₀.keeps F.keep) (N _ hl).1 lst366) h
end
end

/- part MVal -/
end
theorem fresh_MVal : True ∧ True := by
  w_top off
  first
    | (walk1; done)
    | exact ⟨True.intro, True.intro⟩
section
def vYv (h₀ : Heap) (L C x : Addr) (tn : List (Addr × Obj)) (bd : List Row) (vs : List Value) (I : Addr) (i : Nat) (v : Value) (s₀ s : Shared) : Prop := vSn C I s₀ s ∧ vGood h₀ L C x tn bd I (i + 1) s ∧ vs[i]? = some v
def vDn (h₀ : Heap) (L C : Addr) (tn : List (Addr × Obj)) (bd : List Row) (n : Nat) (s₀ s : Shared) : Prop := n = 3 + bd.length ∧ vRun bd = some 0 ∧ (∃ I, @LT.lt Nat _ C I ∧ vSn C I s₀ s) ∧ (∃ m, Fr h₀ L s.heap m) ∧ News h₀ L s.heap tn
def vEr (base h₀ : Heap) (L C : Addr) (l : List Env) (tn : List (Addr × Obj)) (bd : List Row) (e : Value) (s₀ s : Shared) : Prop :=
  vRun bd ≠ some 0 ∧ ∃ g m ea t vs h tk I lg, e = .ref ea ∧ s = { s₀ with heap := h, toks := tk } ∧ Fr h₀ L g m ∧ RaisedS base g l ea (.ref 178) t vs (tn ++ lg) h ∧ g.UpToSlots h ∧ @LT.lt Nat _ C I ∧ (s₀.heap.get? I = none ∨ ∃ o, s₀.heap.get? I = some o ∧ o.cls = .type "list_iterator") ∧ ∀ b o, @LT.lt Nat _ C b → @Ne Nat b I → s₀.heap.get? b = some o → (b, o) ∈ lg
def vJ0 (h₀ : Heap) (L C x : Addr) (tn : List (Addr × Obj)) (s : Shared) : Prop := (∃ m, Fr h₀ L s.heap m) ∧ News h₀ L s.heap tn ∧ s.heap.Ns C (fun y => [(Str.ofString "tags", Value.ref x)].reverse.lookup y)
theorem vRun_nn0 : ∀ (rs : List Row) (o : Option Int), (∀ v, o = some v → 0 ≤ v) → ∀ lv, rs.foldl vStep o = some lv → 0 ≤ lv := by
  intro rs
  induction rs with
  | nil => intro o h lv e; exact h lv e
  | cons r rs ih =>
    intro o h lv e
    refine ih (vStep o r) (fun v hv => ?_) lv e
    unfold vStep at hv
    split at hv
    · cases hv
    · split at hv
      · cases hv
      · cases hv; omega
theorem vRun_nn (rs : List Row) {lv : Int} (h : vRun rs = some lv) : 0 ≤ lv := vRun_nn0 rs (some 0) (fun v e => by cases e; exact Int.le_refl _) lv h
theorem vRun_next {bd : List Row} {j : Nat} {lv lv2 : Int} (hj : j < bd.length) (h1 : vRun (bd.take j) = some lv) (h2 : vRun (bd.take (j + 1)) = some lv2) : lv2 = lv + del (rowAt bd j) := by
  rw [take_row hj, vRun_snoc, h1] at h2
  unfold vStep at h2
  simp only at h2
  split at h2
  · cases h2
  · exact (Option.some.inj h2).symm
theorem vRun_stop {bd : List Row} {j : Nat} {lv : Int} (hj : j < bd.length) (h1 : vRun (bd.take j) = some lv) (h2 : vRun (bd.take (j + 1)) = none) : lv + del (rowAt bd j) < 0 := by
  rw [take_row hj, vRun_snoc, h1] at h2
  unfold vStep at h2
  simp only at h2
  split at h2
  · assumption
  · cases h2
theorem vRun_none {bd : List Row} {k : Nat} (h : vRun (bd.take k) = none) : vRun bd = none := by
  have e : vRun bd = (bd.drop k).foldl vStep (vRun (bd.take k)) := by
    unfold vRun
    rw [← List.foldl_append, List.take_append_drop]
  rw [e, h]
  induction bd.drop k with
  | nil => rfl
  | cons r l ih => exact ih
theorem rowAt_hd {bd : List Row} {i : Nat} (h : 3 ≤ i) : rowAt (hdRows ++ bd) i = rowAt bd (i - 3) := by
  obtain ⟨j, rfl⟩ : ∃ j, i = j + 3 := ⟨i - 3, by omega⟩
  rfl
theorem vVars_mk {x : Addr} {i : Nat} {lv : Int} {t1 t2 t3 t4 : Tok} {mC : Str → Option Value} {hs : Str} {xb : Bool} (eh : hs = if i ≤ 1 then Str.ofString "???" else Str.ofString "AB") (ex : xb = decide (3 < i)) (h1 : mC (Str.ofString "tags") = some (.ref x)) (h2 : mC (Str.ofString "dxftype") = some (.str (Str.ofString "LINE") t1))
    (h3 : mC (Str.ofString "is_xrecord") = some (.bool false)) (h4 : mC (Str.ofString "handle") = some (.str hs t2)) (h5 : mC (Str.ofString "app_data") = some (.bool false)) (h6 : mC (Str.ofString "xdata") = some (.bool xb)) (h7 : mC (Str.ofString "xdata_list_level") = some (.int lv t3))
    (h8 : mC (Str.ofString "app_data_closing_tag") = some (.str (Str.ofString "}") t4)) (h9 : mC (Str.ofString "embedded_object") = some (.bool false)) : vOk x i lv mC := by
  subst eh ex
  refine ⟨t1, t2, t3, t4, fun p hp => ?_⟩
  simp only [vVars, List.mem_cons, List.not_mem_nil, or_false] at hp
  rcases hp with rfl | rfl | rfl | rfl | rfl | rfl | rfl | rfl | rfl <;> assumption
set_option maxHeartbeats 1000000 in
theorem val_spec {w : World} {A A₀ : Around} {s : Shared} {base h₀ : Heap} {outer : List Env} {env : Env} {L : Addr} {m mg mb : Str → Option Value} {p₀ : Program} {loose : List Str} {news : List (Addr × Obj)} {E : Value → Shared → Prop} {Q : Value → Shared → Prop} {x dx : Addr} {vs : List Value} {nx : Nat} {bd : List Row} {n : Nat} {tn : List (Addr × Obj)} (hsub : ∀ p ∈ tn, p ∈ news) (hloc : env.locals = L) (cx : Cx w A A₀ base h₀ outer env L mg mb p₀ loose) (F : Fr h₀ L s.heap m) (N : News h₀ L s.heap news) (hr : A.depth + 100 < recursionLimit) (hu : A.units + 1000 < cLine)
    (hx : (x, tagsObj dx vs nx) ∈ tn) (hT : TagsIn tn vs (hdRows ++ bd)) (hz : bd.length ≤ 900)
    (hb0 : 0 < bd.length ∧ rowAt bd 0 = (1001, .s (Str.ofString "APP"))) (hbd : ∀ j, 0 < j → j < bd.length → rowAt bd j = opn ∨ rowAt bd j = clo ∨ (rowAt bd j).1 = 1000 ∨ (rowAt bd j).1 = 1071)
    (hn3 : 3 < n) (hn : n ≤ 3 + bd.length) (hrn : ∀ j, j ≤ n - 3 → ∃ lv, vRun (bd.take j) = some lv) (hne : n = 3 + bd.length ∨ vRun (bd.take (n - 3 + 1)) = none)
    (h : ∀ (C a : Nat) oC h' tk t1 t2 gs nm q, Fr h₀ L h' m → News h₀ L h' ((a, genObjF s.gens.size nm q t1 t2) :: (C, oC) :: news) → TopLe news C → L < C → C < a → h'.Ns C (fun y => [(Str.ofString "tags", Value.ref x)].reverse.lookup y) →
      (∀ I₀, GfAtI Challenge.rw_fy0015_01.row.toRowW.1 w A n (jSel (vJ0 h₀ L C x tn) (vGood h₀ L C x tn bd)) (vYv h₀ L C x tn bd vs) (vDn h₀ L C tn bd n) (vEr base h₀ L C (env :: outer) tn bd) I₀ 0 gs) → gs.bare = true →
      Q (.ref a) { s with gens := s.gens.push gs, heap := h', toks := tk }) :
    wpAny (model Challenge.rw_fy0015_01.row.toRowW.1 w) A (call (.ref 536) [.ref x]) Q E s := by
  obtain ⟨B, X₀, T, hh, hA, hf, hk⟩ := id cx
  refine wpAny_call ?_
  refine code_genR F X₀ N T.nolimit (by with_unfolding_all rfl) (by kernel_rfl) (by omega) (binds := [(Str.ofString "tags", .ref x)]) (BindsTo.of_eq rfl) (locs rfl) rfl rfl rfl (by decide +kernel) fun C a oC h' tk t1 t2 F' N' hns hC hLC hCa => ?_
  have X1 := X₀
  have htn : ∀ p ∈ tn, @LT.lt Nat _ p.1 C := fun p hp => hC.lt p (hsub p hp)
  revert X₀
  k_fill
  intro X₀
  refine h C a oC h' tk t1 t2 _ _ _ F' N' hC hLC hCa hns ?_ rfl
  refine gen_for (Sn := vSn C) (itf := fun I => .ref I) 9 6 rfl rfl rfl rfl (fun _ => rfl) hA rfl (fun _ => rfl) ?w0 ?hS ?w1 ?w2
  case hS => exact fun I i s h => vSn_refl h
  case w0 =>
    intro A1 s' va hJ
    obtain ⟨⟨m5, F5⟩, N5, hns5⟩ := hJ
    obtain ⟨g, lg, cx2, Fg, FC, NC, hab, back⟩ := v_env0 cx hloc F5 N5 hLC htn hns5 va rfl rfl
    obtain ⟨a0, d0, tk0, u0, hv0, hm0, hd0, hu0⟩ := tagAt hT (i := 0) (by simp [hdRows])
    obtain ⟨tl, rfl⟩ : ∃ t, u0 = .str (Str.ofString "LINE") t := by
      cases hu0
      exact ⟨_, rfl⟩
    have hv00 : vs[((0 : Int)).toNat]? = some (.ref a0) := hv0
    have hm0 : (a0, tagObj d0 0 tk0 (.str (Str.ofString "LINE") tl)) ∈ tn := hm0
    have hr1 : A1.depth + 80 < recursionLimit := by have := va.dp; omega
    have hu1 : A1.units + 900 < cLine := by have := va.un; omega
    clear va
    obtain ⟨B2, X2, T2, hh2, hA2, hf2, hk2⟩ := cx2
    revert X2
    k_fill
    intro X2
    obtain ⟨_, _, _, _, _⟩ := A1
    dsimp only at hA2 hh2 hr1 hu1
    subst hA2 hh2
    dsimp only [List.take_succ_cons, List.take_zero]
    clear F' N' hns
    have hm1 : (a0, tagObj d0 0 tk0 (.str (Str.ofString "LINE") tl)) ∈ tn ++ lg := List.mem_append_left _ hm0
    have hd1 : (d0, dictOf [] 0) ∈ tn ++ lg := List.mem_append_left _ hd0
    have hx1 : (x, tagsObj dx vs nx) ∈ tn ++ lg := List.mem_append_left _ hx
    k_steps
    refine tisl FC X2 NC hx1 ?_
    k_steps
    rename_i h9 F9 N9
    have hC9 : @LT.lt Nat _ C h9.objs.size := F9.ns.lt
    refine tags_iter F9 X2 N9 hx1 ?_
    have F10 := F9.push (listIter x 0)
    have N10 := N9.push F9 (listIter x 0)
    obtain ⟨b1, b2, b3⟩ := back _ _ F10 (news_sub N10 fun q hq => List.Mem.tail _ hq)
    have hfr : s'.heap.get? h9.objs.size = none ∨ ∃ o, s'.heap.get? h9.objs.size = some o ∧ o.cls = .type "list_iterator" := by
      cases q : s'.heap.get? h9.objs.size with
      | none => exact .inl rfl
      | some o =>
        have z := b3 _ o (Nat.ne_of_gt hC9) q
        have z2 := (N10 _ (List.Mem.head _)).1
        rw [z] at z2
        cases z2
        exact .inr ⟨_, rfl, rfl⟩
    refine ⟨h9.objs.size, rfl, ⟨⟨_, _, rfl⟩, fun b o q1 q2 e => b3 b o q1 e, hfr⟩, ⟨_, b1⟩, b2, hC9, ⟨_, (N10 _ (List.Mem.head _)).1, rfl, rfl⟩, _, 0, F10.ns, ?_, by rfl⟩
    exact vVars_mk rfl rfl (by (simp only [upds, ofString_eq, String.reduceEq, reduceIte] <;> exact rfl)) (by (simp only [upds, ofString_eq, String.reduceEq, reduceIte] <;> exact rfl)) (by (simp only [upds, ofString_eq, String.reduceEq, reduceIte] <;> exact rfl)) (by (simp only [upds, ofString_eq, String.reduceEq, reduceIte] <;> exact rfl)) (by (simp only [upds, ofString_eq, String.reduceEq, reduceIte] <;> exact rfl)) (by (simp only [upds, ofString_eq, String.reduceEq, reduceIte] <;> exact rfl)) (by (simp only [upds, ofString_eq, String.reduceEq, reduceIte] <;> exact rfl)) (by (simp only [upds, ofString_eq, String.reduceEq, reduceIte] <;> exact rfl)) (by (simp only [upds, ofString_eq, String.reduceEq, reduceIte] <;> exact rfl))
  case w1 =>
    intro I A2 i s₀ s' va hi hS hG
    have hi' : i < (hdRows ++ bd).length := by simp [hdRows]; omega
    obtain ⟨a, d, tka, ua, hxa, hma, hda, hua⟩ := tagAt hT hi'
    refine v_turn cx hloc hLC htn va rfl rfl rfl rfl hx hxa hS hG fun g lg h2 tk u mL lv t1 t2 t3 t4 oI cI dI cx2 Fg hab FC NC hrun back => ?_
    have hr1 : A2.depth + 80 < recursionLimit := by have := va.dp; omega
    have hu1 : A2.units + 900 < cLine := by have := va.un; omega
    clear va
    obtain ⟨B2, X2, T2, hh2, hA2, hf2, hk2⟩ := cx2
    revert X2
    k_fill
    intro X2
    obtain ⟨_, _, _, _, _⟩ := A2
    dsimp only at hA2 hh2 hr1 hu1
    subst hA2 hh2
    dsimp only [List.take_succ_cons, List.take_zero]
    clear F' N' hns
    have hhu : handedIn ua = true := handed_dat hua
    generalize hrow : rowAt (hdRows ++ bd) i = row at hma hua
    have hm1 : (a, tagObj d row.1 tka ua) ∈ (I, oI) :: (tn ++ lg) := List.Mem.tail _ (List.mem_append_left _ hma)
    have hd1 : (d, dictOf [] 0) ∈ (I, oI) :: (tn ++ lg) := List.Mem.tail _ (List.mem_append_left _ hda)
    rcases Nat.lt_or_ge 3 i with h4 | h4
    · have hx3 : decide (3 < i) = true := decide_eq_true h4
      have hx3' : true = decide (3 < i + 1) := (decide_eq_true (by omega)).symm
      have hdl : ¬ i ≤ 1 := by omega
      have hdl' : Str.ofString "AB" = if i + 1 ≤ 1 then Str.ofString "???" else Str.ofString "AB" := by rw [if_neg (by omega)]
      simp only [vVars, hx3, if_neg hdl] at FC
      obtain ⟨lv2, hrun2⟩ := hrn (i - 3 + 1) (by omega)
      have hlv2 := vRun_next (by omega) hrun hrun2
      have hnn := vRun_nn _ hrun
      have hnn2 := vRun_nn _ hrun2
      rw [show i - 3 + 1 = i + 1 - 3 by omega] at hrun2
      have hbi : rowAt bd (i - 3) = row := by rw [← hrow, rowAt_hd (by omega)]
      rw [hbi] at hlv2
      rcases hbd (i - 3) (by omega) (by omega) with ho | ho | hpl
      · rw [hbi] at ho
        subst ho
        obtain ⟨tu, rfl⟩ : ∃ t, ua = .str (Str.ofString "{") t := by
          cases hua
          exact ⟨_, rfl⟩
        have hdel : del opn = 1 := rfl
        rw [hdel] at hlv2
        subst hlv2
        have hm1 : (a, tagObj d 1002 tka (.str (Str.ofString "{") tu)) ∈ (I, oI) :: (tn ++ lg) := hm1
        have hlt0 : decide (lv + 1 < 0) = false := decide_eq_false (by omega)
        k_steps
        rename_i h9 F9 N9
        obtain ⟨q1, q2⟩ := back _ _ _ F9 N9
        refine ⟨q1, q2 (lv + 1) ?_ ?_, hxa⟩
        · exact vVars_mk hdl' hx3' (by (simp only [upds, ofString_eq, String.reduceEq, reduceIte] <;> exact rfl)) (by (simp only [upds, ofString_eq, String.reduceEq, reduceIte] <;> exact rfl)) (by (simp only [upds, ofString_eq, String.reduceEq, reduceIte] <;> exact rfl)) (by (simp only [upds, ofString_eq, String.reduceEq, reduceIte] <;> exact rfl)) (by (simp only [upds, ofString_eq, String.reduceEq, reduceIte] <;> exact rfl)) (by (simp only [upds, ofString_eq, String.reduceEq, reduceIte] <;> exact rfl)) (by (simp only [upds, ofString_eq, String.reduceEq, reduceIte] <;> exact rfl)) (by (simp only [upds, ofString_eq, String.reduceEq, reduceIte] <;> exact rfl)) (by (simp only [upds, ofString_eq, String.reduceEq, reduceIte] <;> exact rfl))
        · exact hrun2
      · rw [hbi] at ho
        subst ho
        obtain ⟨tu, rfl⟩ : ∃ t, ua = .str (Str.ofString "}") t := by
          cases hua
          exact ⟨_, rfl⟩
        have hdel : del clo = -1 := by decide +kernel
        rw [hdel] at hlv2
        have hm1 : (a, tagObj d 1002 tka (.str (Str.ofString "}") tu)) ∈ (I, oI) :: (tn ++ lg) := hm1
        have hlt0 : decide (lv - 1 < 0) = false := decide_eq_false (by omega)
        k_steps
        rename_i h9 F9 N9
        obtain ⟨q1, q2⟩ := back _ _ _ F9 N9
        refine ⟨q1, q2 (lv - 1) ?_ ?_, hxa⟩
        · exact vVars_mk hdl' hx3' (by (simp only [upds, ofString_eq, String.reduceEq, reduceIte] <;> exact rfl)) (by (simp only [upds, ofString_eq, String.reduceEq, reduceIte] <;> exact rfl)) (by (simp only [upds, ofString_eq, String.reduceEq, reduceIte] <;> exact rfl)) (by (simp only [upds, ofString_eq, String.reduceEq, reduceIte] <;> exact rfl)) (by (simp only [upds, ofString_eq, String.reduceEq, reduceIte] <;> exact rfl)) (by (simp only [upds, ofString_eq, String.reduceEq, reduceIte] <;> exact rfl)) (by (simp only [upds, ofString_eq, String.reduceEq, reduceIte] <;> exact rfl)) (by (simp only [upds, ofString_eq, String.reduceEq, reduceIte] <;> exact rfl)) (by (simp only [upds, ofString_eq, String.reduceEq, reduceIte] <;> exact rfl))
        · rw [hrun2, hlv2]; rfl
      · rw [hbi] at hpl
        rcases row with ⟨c, cell⟩
        dsimp only at hm1 hpl
        have hdel : del (c, cell) = 0 := by rcases hpl with rfl | rfl <;> cases cell <;> rfl
        rw [hdel, Int.add_zero] at hlv2
        subst hlv2
        have f5 : (c == 5) = false := by rcases hpl with rfl | rfl <;> rfl
        have f101 : (c == 101) = false := by rcases hpl with rfl | rfl <;> rfl
        have f102 : (c == 102) = false := by rcases hpl with rfl | rfl <;> rfl
        have f1002 : (c == 1002) = false := by rcases hpl with rfl | rfl <;> rfl
        have f1001 : (c == 1001) = false := by rcases hpl with rfl | rfl <;> rfl
        have f1000 : decide (c < 1000) = false := by rcases hpl with rfl | rfl <;> rfl
        k_steps
        rename_i h9 F9 N9
        obtain ⟨q1, q2⟩ := back _ _ _ F9 N9
        refine ⟨q1, q2 lv2 ?_ ?_, hxa⟩
        · exact vVars_mk hdl' hx3' (by (simp only [upds, ofString_eq, String.reduceEq, reduceIte] <;> exact rfl)) (by (simp only [upds, ofString_eq, String.reduceEq, reduceIte] <;> exact rfl)) (by (simp only [upds, ofString_eq, String.reduceEq, reduceIte] <;> exact rfl)) (by (simp only [upds, ofString_eq, String.reduceEq, reduceIte] <;> exact rfl)) (by (simp only [upds, ofString_eq, String.reduceEq, reduceIte] <;> exact rfl)) (by (simp only [upds, ofString_eq, String.reduceEq, reduceIte] <;> exact rfl)) (by (simp only [upds, ofString_eq, String.reduceEq, reduceIte] <;> exact rfl)) (by (simp only [upds, ofString_eq, String.reduceEq, reduceIte] <;> exact rfl)) (by (simp only [upds, ofString_eq, String.reduceEq, reduceIte] <;> exact rfl))
        · exact hrun2
    · have hx3 : decide (3 < i) = false := decide_eq_false (by omega)
      by_cases h3 : i = 3
      · have hdl : ¬ i ≤ 1 := by omega
        have hdl' : Str.ofString "AB" = if i + 1 ≤ 1 then Str.ofString "???" else Str.ofString "AB" := by rw [if_neg (by omega)]
        have hx3' : true = decide (3 < i + 1) := (decide_eq_true (by omega)).symm
        have he : row = (1001, .s (Str.ofString "APP")) := by rw [← hrow, rowAt_hd (by omega), h3]; exact hb0.2
        subst he
        obtain ⟨lv2, hrun2⟩ := hrn (i - 3 + 1) (by omega)
        have hlv2 := vRun_next (by omega) hrun hrun2
        have hd0 : del (rowAt bd (i - 3)) = 0 := by rw [h3]; show del (rowAt bd 0) = 0; rw [hb0.2]; rfl
        rw [hd0, Int.add_zero] at hlv2
        subst hlv2
        have hm1 : (a, tagObj d 1001 tka ua) ∈ (I, oI) :: (tn ++ lg) := hm1
        simp only [vVars, hx3, if_neg hdl] at FC
        k_steps
        rename_i h9 F9 N9
        obtain ⟨q1, q2⟩ := back _ _ _ F9 N9
        refine ⟨q1, q2 lv2 ?_ ?_, hxa⟩
        · exact vVars_mk hdl' hx3' (by (simp only [upds, ofString_eq, String.reduceEq, reduceIte] <;> exact rfl)) (by (simp only [upds, ofString_eq, String.reduceEq, reduceIte] <;> exact rfl)) (by (simp only [upds, ofString_eq, String.reduceEq, reduceIte] <;> exact rfl)) (by (simp only [upds, ofString_eq, String.reduceEq, reduceIte] <;> exact rfl)) (by (simp only [upds, ofString_eq, String.reduceEq, reduceIte] <;> exact rfl)) (by (simp only [upds, ofString_eq, String.reduceEq, reduceIte] <;> exact rfl)) (by (simp only [upds, ofString_eq, String.reduceEq, reduceIte] <;> exact rfl)) (by (simp only [upds, ofString_eq, String.reduceEq, reduceIte] <;> exact rfl)) (by (simp only [upds, ofString_eq, String.reduceEq, reduceIte] <;> exact rfl))
        · rw [show i + 1 - 3 = i - 3 + 1 by omega]; exact hrun2
      have hx3' : false = decide (3 < i + 1) := (decide_eq_false (by omega)).symm
      have hrun' : vRun (bd.take (i + 1 - 3)) = some lv := by rw [show i + 1 - 3 = i - 3 by omega]; exact hrun
      by_cases h1 : i = 1
      · have hdl : i ≤ 1 := by omega
        have hdl' : Str.ofString "AB" = if i + 1 ≤ 1 then Str.ofString "???" else Str.ofString "AB" := by rw [if_neg (by omega)]
        have he : row = (5, .s (Str.ofString "AB")) := by rw [← hrow, h1]; rfl
        subst he
        obtain ⟨tu, rfl⟩ : ∃ t, ua = .str (Str.ofString "AB") t := by
          cases hua
          exact ⟨_, rfl⟩
        have hm1 : (a, tagObj d 5 tka (.str (Str.ofString "AB") tu)) ∈ (I, oI) :: (tn ++ lg) := hm1
        simp only [vVars, hx3, if_pos hdl] at FC
        k_steps
        rename_i h9 F9 N9
        obtain ⟨q1, q2⟩ := back _ _ _ F9 N9
        refine ⟨q1, q2 lv ?_ ?_, hxa⟩
        · exact vVars_mk hdl' hx3' (by (simp only [upds, ofString_eq, String.reduceEq, reduceIte] <;> exact rfl)) (by (simp only [upds, ofString_eq, String.reduceEq, reduceIte] <;> exact rfl)) (by (simp only [upds, ofString_eq, String.reduceEq, reduceIte] <;> exact rfl)) (by (simp only [upds, ofString_eq, String.reduceEq, reduceIte] <;> exact rfl)) (by (simp only [upds, ofString_eq, String.reduceEq, reduceIte] <;> exact rfl)) (by (simp only [upds, ofString_eq, String.reduceEq, reduceIte] <;> exact rfl)) (by (simp only [upds, ofString_eq, String.reduceEq, reduceIte] <;> exact rfl)) (by (simp only [upds, ofString_eq, String.reduceEq, reduceIte] <;> exact rfl)) (by (simp only [upds, ofString_eq, String.reduceEq, reduceIte] <;> exact rfl))
        · exact hrun'
      · have h02 : i = 0 ∨ i = 2 := by omega
        have hdl' : (if i ≤ 1 then Str.ofString "???" else Str.ofString "AB") = if i + 1 ≤ 1 then Str.ofString "???" else Str.ofString "AB" := by rcases h02 with rfl | rfl <;> rfl
        have hpl : row.1 = 0 ∨ row.1 = 8 := by
          rcases h02 with rfl | rfl
          · exact .inl (by rw [← hrow]; rfl)
          · exact .inr (by rw [← hrow]; rfl)
        rcases row with ⟨c, cell⟩
        dsimp only at hm1 hpl
        have f5 : (c == 5) = false := by rcases hpl with rfl | rfl <;> rfl
        have f101 : (c == 101) = false := by rcases hpl with rfl | rfl <;> rfl
        have f102 : (c == 102) = false := by rcases hpl with rfl | rfl <;> rfl
        have f1001 : (c == 1001) = false := by rcases hpl with rfl | rfl <;> rfl
        simp only [vVars, hx3] at FC
        generalize (if i ≤ 1 then Str.ofString "???" else Str.ofString "AB") = hs0 at FC hdl'
        k_steps
        rename_i h9 F9 N9
        obtain ⟨q1, q2⟩ := back _ _ _ F9 N9
        refine ⟨q1, q2 lv ?_ ?_, hxa⟩
        · exact vVars_mk hdl' hx3' (by (simp only [upds, ofString_eq, String.reduceEq, reduceIte] <;> exact rfl)) (by (simp only [upds, ofString_eq, String.reduceEq, reduceIte] <;> exact rfl)) (by (simp only [upds, ofString_eq, String.reduceEq, reduceIte] <;> exact rfl)) (by (simp only [upds, ofString_eq, String.reduceEq, reduceIte] <;> exact rfl)) (by (simp only [upds, ofString_eq, String.reduceEq, reduceIte] <;> exact rfl)) (by (simp only [upds, ofString_eq, String.reduceEq, reduceIte] <;> exact rfl)) (by (simp only [upds, ofString_eq, String.reduceEq, reduceIte] <;> exact rfl)) (by (simp only [upds, ofString_eq, String.reduceEq, reduceIte] <;> exact rfl)) (by (simp only [upds, ofString_eq, String.reduceEq, reduceIte] <;> exact rfl))
        · exact hrun'
  case w2 =>
    intro I A2 s₀ s' va hS hG
    rcases hne with hend | hstop
    · refine .inr fun A1 va1 => ?_
      obtain ⟨⟨m5, F5⟩, N5, hCI, ⟨oI, hI, hIc, hId⟩, mC, lv, hns5, ⟨t1, t2, t3, t4, hvars⟩, hrun⟩ := hG
      have hvl : vs.length = 3 + bd.length := by rw [hT.length]; simp [hdRows]; omega
      refine next_end (i := n) (items := vs.toArray) (va.hh.trans hh) ⟨oI, hI, hIc, hId⟩ ⟨_, _, (N5 _ hx).1, rfl⟩ (by simp; omega) fun h1 hx1 => ?_
      refine ⟨rfl, ?_⟩
      have h₀I : h₀.get? I = none := Heap.get?_none_of_le (Nat.le_trans F5.above (Nat.le_of_lt (Nat.lt_trans hLC hCI)))
      have hLI : @Ne Nat L I := Nat.ne_of_lt (Nat.lt_trans hLC hCI)
      have F6 : Fr h₀ L h1 m5 := ⟨F5.ns.at' fun o e => hx1 _ _ hLI e, fun b o e => hx1 _ _ (fun z => by rw [z, h₀I] at e; cases e) (F5.keep b o e), F5.above⟩
      have N6 : News h₀ L h1 tn := fun p hp => ⟨hx1 _ _ (Nat.ne_of_lt (Nat.lt_trans (htn p hp) hCI)) (N5 p hp).1, (N5 p hp).2⟩
      have hns6 : h1.Ns C mC := hns5.at' fun o e => hx1 _ _ (Nat.ne_of_lt hCI) e
      obtain ⟨g, lg, cx2, Fg, FC, NC, hab, back⟩ := v_env0 cx hloc F6 N6 hLC htn hns6 va1 rfl rfl
      have hr1 : A1.depth + 80 < recursionLimit := by have := va1.dp; omega
      have hu1 : A1.units + 900 < cLine := by have := va1.un; omega
      have P1 : Pres C I s'.heap h1 := fun b o _ k2 e => hx1 b o k2 e
      have em := upds_self (m := mC) (l := vVars x n lv t1 t2 t3 t4) hvars
      have hx3 : decide (3 < n) = true := decide_eq_true hn3
      have hdl : ¬ n ≤ 1 := by omega
      rw [em] at FC
      simp only [vVars, hx3, if_neg hdl] at FC
      have hbr : vRun bd = some lv := by rw [← hrun, List.take_of_length_le (by omega)]
      have hnn := vRun_nn _ hrun
      have hlt0 : decide (lv < 0) = false := decide_eq_false (by omega)
      clear va va1 em hvars
      obtain ⟨B2, X2, T2, hh2, hA2, hf2, hk2⟩ := cx2
      revert X2
      k_fill
      intro X2
      obtain ⟨_, _, _, _, _⟩ := A1
      dsimp only at hA2 hh2 hr1 hu1
      subst hA2 hh2
      clear F' N' hns
      obtain ⟨⟨hh5, tk5, rfl⟩, P0, D0⟩ := hS
      by_cases hz0 : lv = 0
      · have hgt0 : decide (lv > 0) = false := decide_eq_false (by omega)
        k_steps
        exact ⟨hend, by rw [hbr, hz0], ⟨I, hCI, ⟨⟨_, _, rfl⟩, P0.trans P1, D0⟩⟩, ⟨m5, F6⟩, N6⟩
      · have hgt0 : decide (lv > 0) = true := decide_eq_true (by omega)
        k_steps
        rename_i h9 e9 x9
        refine ⟨_, _, _, _, _, base, g, h1, _, tn ++ lg, e9, _, _, rfl, rfl, rfl, B2, x9, FC, NC, fun h' t R U => ⟨?_, g, m5, e9, t, _, h', _, I, lg, rfl, rfl, Fg, R.s, U, hCI, D0, fun b o k1 k2 e => hab b o k1 (P1 b o (Nat.ne_of_gt k1) k2 (P0 b o (Nat.ne_of_gt k1) k2 e))⟩⟩
        rw [hbr]
        exact fun z => hz0 (Option.some.inj z)
    · refine .inl ?_
      have hnl : n < 3 + bd.length := by
        rcases Nat.lt_or_ge n (3 + bd.length) with h9 | h9
        · exact h9
        · obtain ⟨lv9, h8⟩ := hrn (n - 3) (Nat.le_refl _)
          rw [List.take_of_length_le (by omega)] at h8 hstop
          rw [h8] at hstop
          cases hstop
      have hi' : n < (hdRows ++ bd).length := by simp [hdRows]; omega
      obtain ⟨a, d, tka, ua, hxa, hma, hda, hua⟩ := tagAt hT hi'
      refine v_turn cx hloc hLC htn va rfl rfl rfl rfl hx hxa hS hG fun g lg h2 tk u mL lv t1 t2 t3 t4 oI cI dI cx2 Fg hab FC NC hrun back => ?_
      obtain ⟨⟨hh5, tk5, rfl⟩, P0, D0⟩ := hS
      have hCI2 := hG.2.2.1
      have hst := vRun_stop (by omega) hrun hstop
      have hnn := vRun_nn _ hrun
      have ho : rowAt bd (n - 3) = clo := by
        rcases hbd (n - 3) (by omega) (by omega) with h | h | h
        · rw [h] at hst
          have : del opn = 1 := rfl
          omega
        · exact h
        · have : del (rowAt bd (n - 3)) = 0 := by
            generalize rowAt bd (n - 3) = r at h
            obtain ⟨c, cell⟩ := r
            dsimp only at h
            rcases h with rfl | rfl <;> cases cell <;> rfl
          omega
      have hbn : vRun bd = none := vRun_none hstop
      have hdel : del clo = -1 := by decide +kernel
      rw [ho, hdel] at hst
      have hrow : rowAt (hdRows ++ bd) n = clo := by rw [rowAt_hd (by omega)]; exact ho
      rw [hrow] at hma hua
      obtain ⟨tu, rfl⟩ : ∃ t, ua = .str (Str.ofString "}") t := by
        cases hua
        exact ⟨_, rfl⟩
      have hm1 : (a, tagObj d 1002 tka (.str (Str.ofString "}") tu)) ∈ (I, oI) :: (tn ++ lg) := List.Mem.tail _ (List.mem_append_left _ hma)
      have hd1 : (d, dictOf [] 0) ∈ (I, oI) :: (tn ++ lg) := List.Mem.tail _ (List.mem_append_left _ hda)
      have hr1 : A2.depth + 80 < recursionLimit := by have := va.dp; omega
      have hu1 : A2.units + 900 < cLine := by have := va.un; omega
      clear va
      obtain ⟨B2, X2, T2, hh2, hA2, hf2, hk2⟩ := cx2
      revert X2
      k_fill
      intro X2
      obtain ⟨_, _, _, _, _⟩ := A2
      dsimp only at hA2 hh2 hr1 hu1
      subst hA2 hh2
      dsimp only [List.take_succ_cons, List.take_zero]
      clear F' N' hns
      have hx3 : decide (3 < n) = true := decide_eq_true hn3
      have hdl : ¬ n ≤ 1 := by omega
      simp only [vVars, hx3, if_neg hdl] at FC
      have hlt0 : decide (lv - 1 < 0) = true := decide_eq_true (by omega)
      k_steps
      rename_i h9 e9 x9
      refine ⟨_, _, _, _, _, base, g, _, _, tn ++ lg, e9, _, _, rfl, rfl, rfl, B2, x9, by assumption, news_sub (l := (I, oI) :: (tn ++ lg)) (by assumption) (fun q hq => List.Mem.tail _ hq), fun h' t R U => ⟨?_, g, mL, e9, t, _, h', _, I, lg, rfl, rfl, Fg, R.s, U, hCI2, D0, fun b o k1 k2 e => hab b o k1 k2 (P0 b o (Nat.ne_of_gt k1) k2 e)⟩⟩
      rw [hbn]
      exact fun z => nomatch z
end

/- part MFv -/
section
/-! `for tag in entity_structure_validator(..)`: the loop over the generator object, from the caller's side. -/
def vGO (C x : Addr) (bd : List Row) (I : Addr) (i : Nat) (oI oC : Obj) : Prop :=
  @LT.lt Nat _ C I ∧ oI.cls = .type "list_iterator" ∧ oI.data = .fields #[.ref x, .int (i : Int) 0] ∧ ∃ mC lv, LCg.NsObj oC mC ∧ vOk x i lv mC ∧ vRun (bd.take (i - 3)) = some lv
def vOff (C a : Addr) (tn nx : List (Addr × Obj)) : Prop := (∀ p ∈ tn, p ∈ nx) ∧ ∀ p ∈ nx, @Ne Nat p.1 C ∧ @Ne Nat p.1 a ∧ (@LT.lt Nat _ p.1 C ∨ p.2.cls ≠ .type "list_iterator")
def VEnd (s : Shared) (gn : Array GenState) (h₀ : Heap) (L : Addr) (pre : List (Addr × Obj)) (CJn : (Str → Option Value) → List (Addr × Obj) → Prop) (f : Flow) (s₃ : Shared) : Prop :=
  f = .next ∧ ∃ h' tk' m' nx', s₃ = { s with heap := h', toks := tk', gens := gn } ∧ Fr h₀ L h' m' ∧ News h₀ L h' (pre ++ nx') ∧ CJn m' nx'
section
variable {w : World} {A A₀ : Around} {base h₀ : Heap} {outer : List Env} {env : Env} {L C x dx a : Addr} {mg mb : Str → Option Value} {p₀ : Program} {loose : List Str} {tn : List (Addr × Obj)} {bd : List Row} {vs : List Value} {n : Nat}
theorem vGood_of {I : Addr} {i : Nat} {s : Shared} {m : Str → Option Value} {oI oC : Obj} (h : vGO C x bd I i oI oC) (F : Fr h₀ L s.heap m) (N : News h₀ L s.heap tn) (hI : s.heap.get? I = some oI) (hC : s.heap.get? C = some oC) : vGood h₀ L C x tn bd I i s := by
  obtain ⟨h1, h2, h3, mC, lv, h4, h5, h6⟩ := h
  exact ⟨⟨m, F⟩, N, h1, ⟨oI, hI, h2, h3⟩, mC, lv, h4.ns hC, h5, h6⟩
theorem vGood_to {I : Addr} {i : Nat} {s : Shared} (h : vGood h₀ L C x tn bd I i s) : ∃ oI oC, vGO C x bd I i oI oC ∧ s.heap.get? I = some oI ∧ s.heap.get? C = some oC := by
  obtain ⟨_, _, h1, ⟨oI, hI, h2, h3⟩, mC, lv, h4, h5, h6⟩ := h
  obtain ⟨oC, hC, h7⟩ := LCg.ns_obj h4
  exact ⟨oI, oC, ⟨h1, h2, h3, mC, lv, h7, h5, h6⟩, hI, hC⟩
theorem stop178 {w : World} : mroIn (hd.heap_39 w.params) 178 (.type "StopIteration") = some false := by kernel_rfl
theorem for_val {g : Nat} {nm q : Str} {t1 t2 : Tok} {s : Shared} {gs : GenState} {m₀ : Str → Option Value} {nx₀ : List (Addr × Obj)} {oC : Obj} {xv : Str} {px : Pos} {body : List Stmt} {Q : Flow → Shared → Prop} {E : Value → Shared → Prop}
    (cx : Cx w A A₀ base h₀ outer env L mg mb p₀ loose) (hloc : env.locals = L) (hroom : A.depth + 10 < recursionLimit) (hxk : env.kindOf xv = some .local) (hp : (env.scope.kind == .class || (env.scope.kind == .module && env.locals != env.globals)) = false)
    (F : Fr h₀ L s.heap m₀) (N : News h₀ L s.heap ((a, genObjF g nm q t1 t2) :: (C, oC) :: nx₀)) (hLC : @LT.lt Nat _ L C) (hCa : @LT.lt Nat _ C a) (hns : s.heap.Ns C (fun y => [(Str.ofString "tags", Value.ref x)].reverse.lookup y)) (hgs : s.gens[g]? = some gs)
    (hgo : ∀ I₀, GfAtI Challenge.rw_fy0015_01.row.toRowW.1 w A n (jSel (vJ0 h₀ L C x tn) (vGood h₀ L C x tn bd)) (vYv h₀ L C x tn bd vs) (vDn h₀ L C tn bd n) (vEr base h₀ L C (env :: outer) tn bd) I₀ 0 gs)
    (CJ : Nat → (Str → Option Value) → List (Addr × Obj) → Prop) (hoff : ∀ i m nx, CJ i m nx → vOff C a tn nx) (hJ : CJ 0 m₀ nx₀) (hE : PassesOwn (model Challenge.rw_fy0015_01.row.toRowW.1 w) A env E)
    (turn : ∀ i v m nx I oI oC' h tk gn, i < n → vs[i]? = some v → CJ i m nx → (∀ p ∈ nx, p.1 ≠ I) → @LT.lt Nat _ C I → Fr h₀ L h (fun y => if y = xv then some v else m y) → News h₀ L h ((a, genObjF g nm q t1 t2) :: (I, oI) :: (C, oC') :: nx) →
      wpAny (model Challenge.rw_fy0015_01.row.toRowW.1 w) A (execs body env) (VEnd s gn h₀ L ((a, genObjF g nm q t1 t2) :: (I, oI) :: [(C, oC')]) (CJ (i + 1))) E { s with heap := h, toks := tk, gens := gn })
    (done : n = 3 + bd.length → vRun bd = some 0 → ∀ m nx h tk gn, CJ n m nx → Fr h₀ L h m → News h₀ L h nx → (AllBare s.gens → AllBare gn) → Q .next { s with heap := h, toks := tk, gens := gn })
    (err : vRun bd ≠ some 0 → ∀ g9 m9 e t vs9 h tk gn, Fr h₀ L g9 m9 → RaisedS base g9 (env :: outer) e (.ref 178) t vs9 tn h → g9.UpToSlots h → (AllBare s.gens → AllBare gn) → E (.ref e) { s with heap := h, toks := tk, gens := gn })
    (XB : (hd.heap_39 w.params).In base) : ForAt Challenge.rw_fy0015_01.row.toRowW.1 w A env xv px body Q E (.ref a) s := by
  have hlim := cx.T.nolimit
  refine wpAny_pyIter_gen ⟨_, _, _, (N _ (List.Mem.head _)).1, rfl, rfl, rfl⟩ ?_
  refine codeAny_forLoop
    (fun k s' => ∃ h tk gn gs m nx I oC i, s' = { s with heap := h, toks := tk, gens := gn } ∧ (AllBare s.gens → AllBare gn) ∧ i ≤ n ∧ k = n + 1 - i ∧ gn[g]? = some gs ∧ GfAtI Challenge.rw_fy0015_01.row.toRowW.1 w A n (jSel (vJ0 h₀ L C x tn) (vGood h₀ L C x tn bd)) (vYv h₀ L C x tn bd vs) (vDn h₀ L C tn bd n) (vEr base h₀ L C (env :: outer) tn bd) I i gs ∧
      Fr h₀ L h m ∧ CJ i m nx ∧ News h₀ L h ((a, genObjF g nm q t1 t2) :: (C, oC) :: nx) ∧ ((i = 0 ∧ h.Ns C (fun y => [(Str.ofString "tags", Value.ref x)].reverse.lookup y)) ∨ (0 < i ∧ ∃ oI, h.get? I = some oI ∧ vGO C x bd I i oI oC))) ?_ (n + 1)
    ⟨s.heap, s.toks, s.gens, gs, m₀, nx₀, 0, oC, 0, rfl, id, Nat.zero_le _, rfl, hgs, hgo 0, F, hJ, N, .inl ⟨rfl, hns⟩⟩
  rintro k s' ⟨h, tk, gn, gs1, m, nx, I, oC1, i, rfl, hbg, hi, rfl, hg1, hgo1, F1, hJ1, N1, hcase⟩
  have off := hoff _ _ _ hJ1
  have Ntn : News h₀ L h tn := fun p hp => N1 p (List.Mem.tail _ (List.Mem.tail _ (off.1 p hp)))
  have ha := N1 _ (List.Mem.head _)
  have keep1 : ∀ I' h1, @LT.lt Nat _ C I' → Pres C I' h h1 → (h.get? I' = none ∨ ∃ o, h.get? I' = some o ∧ o.cls = .type "list_iterator") → News h₀ L h1 nx ∧ News h₀ L h1 [(a, genObjF g nm q t1 t2)] ∧ (∀ p ∈ nx, p.1 ≠ I') := by
    intro I' h1 hCI P D
    have neI : ∀ p ∈ nx, p.1 ≠ I' := fun p hp z => by
      rcases (off.2 p hp).2.2 with q1 | q1
      · rw [z] at q1
        exact absurd q1 (Nat.not_lt_of_lt hCI)
      · have e1 := (N1 p (List.Mem.tail _ (List.Mem.tail _ hp))).1
        rw [z] at e1
        rcases D with D | ⟨o, D, hc⟩
        · rw [D] at e1; cases e1
        · rw [D] at e1; cases e1; exact q1 hc
    refine ⟨fun p hp => ⟨P _ _ (off.2 p hp).1 (neI p hp) (N1 p (List.Mem.tail _ (List.Mem.tail _ hp))).1, (N1 p (List.Mem.tail _ (List.Mem.tail _ hp))).2⟩, fun p hp => ?_, neI⟩
    rcases List.mem_cons.mp hp with rfl | hp
    · refine ⟨P _ _ (Nat.ne_of_gt hCa) (fun z => ?_) ha.1, ha.2⟩
      rcases D with D | ⟨o, D, hc⟩
      · rw [← z, ha.1] at D; cases D
      · rw [← z, ha.1] at D
        cases D
        simp at hc
    · cases hp
  have hJs : jSel (vJ0 h₀ L C x tn) (vGood h₀ L C x tn bd) I i (({ s with heap := h, toks := tk, gens := gn } : Shared).setGen g .running) := by
    rcases hcase with ⟨rfl, hn0⟩ | ⟨hpos, oI, hI, hGO⟩
    · exact ⟨⟨m, F1⟩, Ntn, hn0⟩
    · obtain ⟨j, rfl⟩ : ∃ j, i = j + 1 := ⟨i - 1, by omega⟩
      exact vGood_of hGO F1 Ntn hI (N1 (C, oC1) (List.Mem.tail _ (List.Mem.head _))).1
  refine gf_nextI (fun I' i v s₀ s h => ⟨s, h.2.1⟩) cx.hh (hlim.keeps F1.keep) (by omega) ⟨_, _, _, ha.1, rfl, rfl, rfl⟩ hg1 hi hgo1 hJs ?item ?fin ?err
  case item =>
    rintro hlt I' v s₁ gs' hbr ⟨⟨⟨h1, tk1, rfl⟩, P, D⟩, hG, hv⟩ hgo'
    obtain ⟨oI, oC2, hGO, hI, hC⟩ := vGood_to hG
    obtain ⟨⟨m1, Fx⟩, _, hCI, _⟩ := hG
    obtain ⟨Nn, Na, neI⟩ := keep1 I' h1 hGO.1 P D
    have hLI : @Ne Nat L I' := Nat.ne_of_lt (Nat.lt_trans hLC hGO.1)
    have F2 : Fr h₀ L h1 m := ⟨F1.ns.at' fun o e => P _ _ (Nat.ne_of_lt hLC) hLI e, Fx.keep, F1.above⟩
    have h₀C : h₀.get? C = none := Heap.get?_none_of_le (Nat.le_trans F1.above (Nat.le_of_lt hLC))
    have h₀I : h₀.get? I' = none := Heap.get?_none_of_le (Nat.le_trans F1.above (Nat.le_of_lt (Nat.lt_trans hLC hGO.1)))
    have N2 : News h₀ L h1 ((a, genObjF g nm q t1 t2) :: (I', oI) :: (C, oC2) :: nx) := fun p hp => by
      rcases List.mem_cons.mp hp with rfl | hp
      · exact Na _ (List.Mem.head _)
      rcases List.mem_cons.mp hp with rfl | hp
      · exact ⟨hI, Ne.symm hLI, h₀I⟩
      rcases List.mem_cons.mp hp with rfl | hp
      · exact ⟨hC, Nat.ne_of_gt hLC, h₀C⟩
      · exact Nn p hp
    refine wpAny_assign_Name (wpAny_storeName_local hxk (hloc ▸ F2.ns) (fun h2 hn2 hs2 => ?_) hp)
    rw [hloc] at hn2 hs2
    refine wpAny_passesOwn hE (wpAny_mono (turn i v m nx I' oI oC2 h2 _ _ hlt hv hJ1 neI hGO.1 (F2.set hn2 hs2) (N2.set hs2)) (fun f s₃ z => ?_) fun _ _ e => e)
    obtain ⟨rfl, h', tk', m', nx', rfl, F', N', hJ'⟩ := z
    refine ⟨n + 1 - (i + 1), by omega, h', tk', _, gs', m', nx', I', oC2, i + 1, rfl, (fun z => bare_set (bare_run (hbg z)) hbr), hlt, rfl, ?_, hgo', F', hJ', ?_, .inr ⟨Nat.succ_pos _, oI, (N' _ (List.Mem.tail _ (List.Mem.head _))).1, hGO⟩⟩
    · have hgz : g < gn.size := (Array.getElem?_eq_some_iff.mp hg1).1
      show ((gn.setIfInBounds g GenState.running).setIfInBounds g gs')[g]? = some gs'
      simp [hgz]
    · intro p hp
      rcases List.mem_cons.mp hp with rfl | hp
      · exact N' _ (List.Mem.head _)
      · exact N' p (List.Mem.tail _ (List.Mem.tail _ hp))
  case fin =>
    rintro rfl s₁ ⟨hn, hr, ⟨I', hCI, ⟨h1, tk1, rfl⟩, P, D⟩, ⟨m1, Fx⟩, Nx⟩ h' hk
    refine wpAny_execs_nil ?_
    obtain ⟨Nn, Na, neI⟩ := keep1 I' h1 hCI P D
    have hLI : @Ne Nat L I' := Nat.ne_of_lt (Nat.lt_trans hLC hCI)
    have F2 : Fr h₀ L h1 m := ⟨F1.ns.at' fun o e => P _ _ (Nat.ne_of_lt hLC) hLI e, Fx.keep, F1.above⟩
    exact done hn hr m nx h' _ _ hJ1 (F2.keeps hk) (Nn.grown hk) (fun z => bare_fin (bare_run (hbg z)))
  case err =>
    rintro rfl e s₁ ⟨hne, g9, m9, ea, t, vs9, h1, tk1, I', lg, rfl, rfl, F9, R9, U9, hCI, D, hab⟩
    have haI : @Ne Nat a I' := fun z => by
      have ha' : h.get? I' = some (genObjF g nm q t1 t2) := z ▸ ha.1
      rcases D with D | ⟨o, D, hc⟩
      · have D : h.get? I' = none := D
        rw [ha'] at D
        cases D
      · have D : h.get? I' = some o := D
        rw [ha'] at D
        cases D
        simp at hc
    obtain ⟨⟨B, hB, hBG, hl, hfl, hnew⟩, htup⟩ := id R9
    have ha2 : h1.get? a = some (genObjF g nm q t1 t2) := hfl.1 _ _ (hl (a, _) (List.mem_append_right _ (hab a _ hCa haI ha.1))).1
    have X1 : (hd.heap_39 w.params).In h1 := (XB.keeps hB).keeps hfl.1
    obtain ⟨ob, hob, hobc⟩ := hfl.there
    have ty : ∀ M, Looks M h1 (isInstance (.ref ea) (.type "StopIteration")) false := fun M => ((Looks.ld hob).andThen (by rw [hobc]; exact .now)).andThen (looks_mroIn X1 stop178)
    unfold GenRaises Builtin.Generator.genLeft Builtin.Generator.madeByALambda
    refine wpAny_bind (wpAny_bind (wpAny_load ha2 ?_))
    refine wpAny_pure ?_
    refine wpAny_bind ((ty _).here ?_)
    rw [if_neg (by simp)]
    unfold Builtin.Generator.genEscaped
    refine wpAny_bind ((ty _).here ?_)
    simp only [Bool.not_false, if_true]
    refine wpAny_throw ⟨rfl, (ty _).here ⟨rfl, ?_⟩⟩
    exact hE _ _ (err hne g9 m9 ea t vs9 h1 _ _ F9 (raised_sub R9 fun p hp => List.mem_append_left _ hp) U9 (fun z => bare_fin (bare_run (hbg z))))
end
end

/- part MChk -/
end
theorem fresh_MChk : True ∧ True := by
  w_top off
  first
    | (walk1; done)
    | exact ⟨True.intro, True.intro⟩
section
local macro_rules | `(tactic| walk_at "newTuple") => `(tactic| (k_here; k_dflt (refine' newTup ?k1 ?k2 ?k3 ?_; (case k1 => k_asm); (case k2 => k_asm); (case k3 => exact Nat.le_of_ble_eq_true rfl); k_whole); intro D' h' F' N' l1; (first | (have hlt := TopLe.head l1; dsimp only at hlt) | (have hlt := TopLe.num l1; (try simp only [top_app, Nat.max_le] at hlt))); (try k_sweep)))
local macro_rules | `(tactic| walk_at "newList") => `(tactic| (k_here; k_dflt (refine' newLst ?k1 ?k2 ?k3 ?_; (case k1 => k_asm); (case k2 => k_asm); (case k3 => exact Nat.le_of_ble_eq_true rfl); k_whole); intro D' h' F' N' l1; (first | (have hlt := TopLe.head l1; dsimp only at hlt) | (have hlt := TopLe.num l1; (try simp only [top_app, Nat.max_le] at hlt))); (try k_sweep)))
local macro_rules | `(tactic| walk_at "exec For") => `(tactic| (with_unfolding_all refine for_at ?_))
local macro_rules | `(tactic| walk_at "exec For Name Call cons nil") => `(tactic| (with_unfolding_all refine for_at ?_))
local macro_rules | `(tactic| walk_at "exec For Name Name cons nil") => `(tactic| (with_unfolding_all refine for_at ?_))
local macro_rules | `(tactic| walk_at "binaryOp Add ref ref") => `(tactic| (k_here; k_dflt (refine' add_lists' ?k1 ?k2 ?k3 ?k4 ?k5 ?_; (case k1 => k_asm); (case k2 => k_asm); (case k3 => k_mem); (case k4 => k_mem); (case k5 => ((try simp only [List.length_append, List.length_cons, List.length_nil, List.length_replicate, Int.toNat_natCast]); omega)); k_whole); intro l' h' F' N' l1; (first | (have hlt := TopLe.head l1; dsimp only at hlt) | (have hlt := TopLe.num l1; (try simp only [top_app, Nat.max_le] at hlt))); (try k_sweep)))
local macro_rules | `(tactic| walk_at "binaryOp Mult ref int") => `(tactic| (k_here; k_dflt (refine' rep_list ?k1 ?k2 ?k3 ?k4 ?k5 ?_; (case k1 => k_asm); (case k2 => k_asm); (case k3 => k_mem); (case k4 => omega); (case k5 => omega); k_whole); intro l' h' F' N' l1; (first | (have hlt := TopLe.head l1; dsimp only at hlt) | (have hlt := TopLe.num l1; (try simp only [top_app, Nat.max_le] at hlt))); (try k_sweep)))
local macro_rules | `(tactic| walk_at "subscriptTail Name Name ref int") => `(tactic| (k_here; (with_reducible show wpAny _ _ (subscriptTail _ _ (Value.ref 537) (Value.int _ _)) _ _ _); k_dflt (refine' names_at ?k1 ?k2 ?k3 ?k4 ?_; (case k1 => k_asm); (case k2 => k_asm); (case k3 => first | omega | exact Int.fmod_nonneg_of_pos _ (by decide)); (case k4 => first | omega | exact Int.fmod_lt_of_pos _ (by decide)); k_whole); intro t'))
local macro_rules | `(tactic| walk_at "subscriptTail Name BinOp ref int") => `(tactic| (k_here; (with_reducible show wpAny _ _ (subscriptTail _ _ (Value.ref 537) (Value.int _ _)) _ _ _); k_dflt (refine' names_at ?k1 ?k2 ?k3 ?k4 ?_; (case k1 => k_asm); (case k2 => k_asm); (case k3 => first | omega | exact Int.fmod_nonneg_of_pos _ (by decide)); (case k4 => first | omega | exact Int.fmod_lt_of_pos _ (by decide)); k_whole); intro t'))
local macro_rules | `(tactic| walk_at "subscriptTail Name Constant ref int") => `(tactic| (k_here; (with_reducible show wpAny _ _ (subscriptTail _ _ (Value.ref 537) (Value.int _ _)) _ _ _); k_dflt (refine' names_at ?k1 ?k2 ?k3 ?k4 ?_; (case k1 => k_asm); (case k2 => k_asm); (case k3 => first | omega | exact Int.fmod_nonneg_of_pos _ (by decide)); (case k4 => first | omega | exact Int.fmod_lt_of_pos _ (by decide)); k_whole); intro t'))
local macro_rules | `(tactic| walk_at "subscriptTail Name UnaryOp ref int") => `(tactic| (k_here; (with_reducible show wpAny _ _ (subscriptTail _ _ (Value.ref 537) (Value.int _ _)) _ _ _); k_dflt (refine' names_at ?k1 ?k2 ?k3 ?k4 ?_; (case k1 => k_asm); (case k2 => k_asm); (case k3 => first | omega | exact Int.fmod_nonneg_of_pos _ (by decide)); (case k4 => first | omega | exact Int.fmod_lt_of_pos _ (by decide)); k_whole); intro t'))
local macro_rules | `(tactic| walk_at "subscriptTail Subscript Name ref int") => `(tactic| (k_here; (with_reducible show wpAny _ _ (subscriptTail _ _ (Value.ref 537) (Value.int _ _)) _ _ _); k_dflt (refine' names_at ?k1 ?k2 ?k3 ?k4 ?_; (case k1 => k_asm); (case k2 => k_asm); (case k3 => first | omega | exact Int.fmod_nonneg_of_pos _ (by decide)); (case k4 => first | omega | exact Int.fmod_lt_of_pos _ (by decide)); k_whole); intro t'))
local macro_rules | `(tactic| walk_at "subscriptTail Subscript BinOp ref int") => `(tactic| (k_here; (with_reducible show wpAny _ _ (subscriptTail _ _ (Value.ref 537) (Value.int _ _)) _ _ _); k_dflt (refine' names_at ?k1 ?k2 ?k3 ?k4 ?_; (case k1 => k_asm); (case k2 => k_asm); (case k3 => first | omega | exact Int.fmod_nonneg_of_pos _ (by decide)); (case k4 => first | omega | exact Int.fmod_lt_of_pos _ (by decide)); k_whole); intro t'))
local macro_rules | `(tactic| walk_at "subscriptTail Subscript Constant ref int") => `(tactic| (k_here; (with_reducible show wpAny _ _ (subscriptTail _ _ (Value.ref 537) (Value.int _ _)) _ _ _); k_dflt (refine' names_at ?k1 ?k2 ?k3 ?k4 ?_; (case k1 => k_asm); (case k2 => k_asm); (case k3 => first | omega | exact Int.fmod_nonneg_of_pos _ (by decide)); (case k4 => first | omega | exact Int.fmod_lt_of_pos _ (by decide)); k_whole); intro t'))
local macro_rules | `(tactic| walk_at "subscriptTail Subscript UnaryOp ref int") => `(tactic| (k_here; (with_reducible show wpAny _ _ (subscriptTail _ _ (Value.ref 537) (Value.int _ _)) _ _ _); k_dflt (refine' names_at ?k1 ?k2 ?k3 ?k4 ?_; (case k1 => k_asm); (case k2 => k_asm); (case k3 => first | omega | exact Int.fmod_nonneg_of_pos _ (by decide)); (case k4 => first | omega | exact Int.fmod_lt_of_pos _ (by decide)); k_whole); intro t'))
section
local macro_rules | `(tactic| walk_at "call builtin:len") => `(tactic| (k_here; (with_reducible show wpAny _ _ (call (Value.builtin "len") [Value.ref _]) _ _ _); k_dflt (refine' tlen ?F ?X ?N ?a ?z ?_; (case F => k_asm); (case X => k_asm); (case N => k_asm); (case a => k_mem); (case z => with_reducible assumption); k_whole)))
local macro_rules | `(tactic| walk_at "subscriptTail Name Name ref int") => `(tactic| (k_here; (with_reducible show wpAny _ _ (subscriptTail _ _ (Value.ref _) (Value.int _ _)) _ _ _); k_dflt (refine' titem ?F ?X ?N ?a ?b ?c ?d ?_; (case F => k_asm); (case X => k_asm); (case N => k_asm); (case a => k_mem); (case d => with_reducible assumption); (case b => omega); (case c => omega); k_whole)))
local macro_rules | `(tactic| walk_at "subscriptTail Name BinOp ref int") => `(tactic| (k_here; (with_reducible show wpAny _ _ (subscriptTail _ _ (Value.ref _) (Value.int _ _)) _ _ _); k_dflt (refine' titem ?F ?X ?N ?a ?b ?c ?d ?_; (case F => k_asm); (case X => k_asm); (case N => k_asm); (case a => k_mem); (case d => with_reducible assumption); (case b => omega); (case c => omega); k_whole)))
local macro_rules | `(tactic| walk_at "subscriptTail Name Constant ref int") => `(tactic| (k_here; (with_reducible show wpAny _ _ (subscriptTail _ _ (Value.ref _) (Value.int _ _)) _ _ _); k_dflt (refine' titem ?F ?X ?N ?a ?b ?c ?d ?_; (case F => k_asm); (case X => k_asm); (case N => k_asm); (case a => k_mem); (case d => with_reducible assumption); (case b => omega); (case c => omega); k_whole)))
local macro_rules | `(tactic| walk_at "subscriptTail Name UnaryOp ref int") => `(tactic| (k_here; (with_reducible show wpAny _ _ (subscriptTail _ _ (Value.ref _) (Value.int _ _)) _ _ _); k_dflt (refine' titem ?F ?X ?N ?a ?b ?c ?d ?_; (case F => k_asm); (case X => k_asm); (case N => k_asm); (case a => k_mem); (case d => with_reducible assumption); (case b => omega); (case c => omega); k_whole)))
local macro_rules | `(tactic| walk_at "subscriptTail Subscript Name ref int") => `(tactic| (k_here; (with_reducible show wpAny _ _ (subscriptTail _ _ (Value.ref _) (Value.int _ _)) _ _ _); k_dflt (refine' titem ?F ?X ?N ?a ?b ?c ?d ?_; (case F => k_asm); (case X => k_asm); (case N => k_asm); (case a => k_mem); (case d => with_reducible assumption); (case b => omega); (case c => omega); k_whole)))
local macro_rules | `(tactic| walk_at "subscriptTail Subscript BinOp ref int") => `(tactic| (k_here; (with_reducible show wpAny _ _ (subscriptTail _ _ (Value.ref _) (Value.int _ _)) _ _ _); k_dflt (refine' titem ?F ?X ?N ?a ?b ?c ?d ?_; (case F => k_asm); (case X => k_asm); (case N => k_asm); (case a => k_mem); (case d => with_reducible assumption); (case b => omega); (case c => omega); k_whole)))
local macro_rules | `(tactic| walk_at "subscriptTail Subscript Constant ref int") => `(tactic| (k_here; (with_reducible show wpAny _ _ (subscriptTail _ _ (Value.ref _) (Value.int _ _)) _ _ _); k_dflt (refine' titem ?F ?X ?N ?a ?b ?c ?d ?_; (case F => k_asm); (case X => k_asm); (case N => k_asm); (case a => k_mem); (case d => with_reducible assumption); (case b => omega); (case c => omega); k_whole)))
local macro_rules | `(tactic| walk_at "subscriptTail Subscript UnaryOp ref int") => `(tactic| (k_here; (with_reducible show wpAny _ _ (subscriptTail _ _ (Value.ref _) (Value.int _ _)) _ _ _); k_dflt (refine' titem ?F ?X ?N ?a ?b ?c ?d ?_; (case F => k_asm); (case X => k_asm); (case N => k_asm); (case a => k_mem); (case d => with_reducible assumption); (case b => omega); (case c => omega); k_whole)))
local macro_rules | `(tactic| walk_at "getAttr ref") => `(tactic| (k_here; (with_reducible show wpAny _ _ (getAttr (Value.ref _) (PySem.Str.ofString "code") _) _ _ _); k_dflt (refine' code_specX ?cx ?F ?N ?r ?u ?a ?b ?_; (case cx => (refine' ⟨?cB, ?cX, ?cT, ?ca, ?cb, ?cc, ?cd⟩; (case ca => exact rfl); (case cb => exact rfl); (case cc => exact rfl); (case cd => exact rfl); (case cB => k_asm); (case cX => k_asm); (case cT => k_asm))); (case F => k_asm); (case N => k_asm); (case r => k_room); (case u => k_units); (case a => k_mem); (case b => k_mem); k_whole); intro h' tk' F' N'))
local macro_rules | `(tactic| walk_at "getAttr ref") => `(tactic| (k_here; (with_reducible show wpAny _ _ (getAttr (Value.ref _) (PySem.Str.ofString "value") _) _ _ _); k_dflt (refine' value_specX ?v ?cx ?F ?N ?r ?u ?a ?b ?_; (case cx => (refine' ⟨?cB, ?cX, ?cT, ?ca, ?cb, ?cc, ?cd⟩; (case ca => exact rfl); (case cb => exact rfl); (case cc => exact rfl); (case cd => exact rfl); (case cB => k_asm); (case cX => k_asm); (case cT => k_asm))); (case F => k_asm); (case N => k_asm); (case r => k_room); (case u => k_units); (case a => k_mem); (case b => k_mem); (case v => first | rfl | with_reducible assumption); k_whole); intro h' tk' F' N'))
local macro_rules | `(tactic| walk_at "call ref") => `(tactic| (k_here; (first | (with_reducible show wpAny _ _ (call (Value.ref 366) _) _ _ _) | (with_reducible show wpAny _ _ (call (Value.ref 413) _) _ _ _) | (with_reducible show wpAny _ _ (call (Value.ref 466) _) _ _ _) | (with_reducible show wpAny _ _ (call (Value.ref 473) _) _ _ _) | (with_reducible show wpAny _ _ (call (Value.ref 480) _) _ _ _) | (with_reducible show wpAny _ _ (call (Value.ref 379) _) _ _ _) | (with_reducible show wpAny _ _ (call (Value.ref 386) _) _ _ _) | (with_reducible show wpAny _ _ (call (Value.ref 406) _) _ _ _) | (with_reducible show wpAny _ _ (call (Value.ref 501) _) _ _ _) | (with_reducible show wpAny _ _ (call (Value.ref 515) _) _ _ _) | (with_reducible show wpAny _ _ (call (Value.ref 206) _) _ _ _) | (with_reducible show wpAny _ _ (call (Value.ref 536) _) _ _ _) | (with_reducible show wpAny _ _ (call (Value.ref 551) _) _ _ _) | (with_reducible show wpAny _ _ (call (Value.ref 544) _) _ _ _) | (with_reducible show wpAny _ _ (call (Value.ref 556) _) _ _ _) | (with_reducible show wpAny _ _ (call (Value.ref 563) _) _ _ _) | (with_reducible show wpAny _ _ (call (Value.ref 570) _) _ _ _) | (with_reducible show wpAny _ _ (call (Value.ref 525) _) _ _ _) ); refine stop_at ?_))
local macro_rules | `(tactic| walk_at "call ref") => `(tactic| (k_here; (with_reducible show wpAny _ _ (call (Value.ref _) [Value.ref _]) _ _ _); refine stop_at ?_))
local macro_rules | `(tactic| walk_at "exec For") => `(tactic| (with_unfolding_all refine for_at ?_))
local macro_rules | `(tactic| walk_at "exec For Name Call cons nil") => `(tactic| (with_unfolding_all refine for_at ?_))
section
theorem nm178 {w : World} : nsIn (hd.heap_39 w.params) mainGlobals (Str.ofString "DXFXDataError") = some (some (.ref 178)) := by kernel_rfl
theorem vN (bd : List Row) (hb0 : 0 < bd.length ∧ rowAt bd 0 = (1001, .s (Str.ofString "APP"))) : ∃ n, 3 < n ∧ n ≤ 3 + bd.length ∧ (∀ j, j ≤ n - 3 → ∃ lv, vRun (bd.take j) = some lv) ∧ (n = 3 + bd.length ∨ vRun (bd.take (n - 3 + 1)) = none) := by
  have key : ∀ k, k + 1 ≤ bd.length → (∃ j, j ≤ k ∧ 0 < j ∧ (∀ i, i ≤ j → ∃ lv, vRun (bd.take i) = some lv) ∧ (vRun (bd.take (j + 1)) = none)) ∨ ∀ i, i ≤ k + 1 → ∃ lv, vRun (bd.take i) = some lv := by
    intro k
    induction k with
    | zero =>
      intro _
      refine .inr fun i hi => ?_
      rcases Nat.eq_zero_or_pos i with rfl | hp
      · exact ⟨0, rfl⟩
      · obtain rfl : i = 1 := by omega
        refine ⟨0, ?_⟩
        rw [take_row (by omega : 0 < bd.length), vRun_snoc, hb0.2]
        rfl
    | succ k ih =>
      intro hk
      rcases ih (by omega) with ⟨j, h1, h2⟩ | h
      · exact .inl ⟨j, by omega, h2⟩
      · cases e : vRun (bd.take (k + 1 + 1)) with
        | none => exact .inl ⟨k + 1, Nat.le_refl _, Nat.succ_pos _, h, e⟩
        | some lv =>
          refine .inr fun i hi => ?_
          rcases Nat.lt_or_ge i (k + 2) with h3 | h3
          · exact h i (by omega)
          · obtain rfl : i = k + 1 + 1 := by omega
            exact ⟨lv, e⟩
  rcases key (bd.length - 1) (by omega) with ⟨j, h1, h2, h3, h4⟩ | h
  · exact ⟨3 + j, by omega, by omega, fun i hi => h3 i (by omega), .inr (by rw [show 3 + j - 3 + 1 = j + 1 by omega]; exact h4)⟩
  · exact ⟨3 + bd.length, by omega, Nat.le_refl _, fun i hi => h i (by omega), .inl rfl⟩
def CkJ (C a x dx pl : Addr) (vs : List Value) (nn : Nat) (rest : List (Addr × Obj)) (rs : List Row) (i : Nat) (m : Str → Option Value) (nx : List (Addr × Obj)) : Prop :=
  m (Str.ofString "passed") = some (.ref pl) ∧ ∃ ys n2 ad, nx = (pl, listOf ys.toArray n2) :: (ad ++ (x, tagsObj dx vs nn) :: rest) ∧ RowsIn ad ys (rs.take i) ∧ (∀ p ∈ ad, p.2.cls = .type "tuple" ∧ @LT.lt Nat _ C p.1 ∧ @LT.lt Nat _ a p.1)
def chkDat (bd : List Row) : Dat := if vRun bd = some 0 then .list [.str (Str.ofString "let through"), .list ((hdRows ++ bd).map rowDat)] else .list [.str (Str.ofString "refused")]
set_option maxHeartbeats 2000000 in
theorem check_spec {mean : ExcName → Option Value} {w : World} {A A₀ : Around} {s : Shared} {h₀ : Heap} {env : Env} {L : Addr} {m mg mb : Str → Option Value} {p₀ : Program} {loose : List Str} {news : List (Addr × Obj)} {E : Value → Shared → Prop} {Q : Value → Shared → Prop}
    {rl : Addr} {rvs : List Value} {rn : Nat} {bd : List Row} {ps : Array Value} (TT : Top p₀ loose mean mg mb h₀) (hloc : env.locals = L) (hb : Bm mg h₀)
    (cx : Cx w A A₀ h₀ h₀ [] env L mg mb p₀ loose) (F : Fr h₀ L s.heap m) (N : News h₀ L s.heap ((201, tabObj ps) :: news)) (hr : A.depth + 300 < recursionLimit) (hu : A.units + 5000 < cLine)
    (hps : TriplesOk ps.toList) (hoff : ∀ p ∈ news, p.1 ≠ 201) (hl : (rl, listOf rvs.toArray rn) ∈ news) (hR : RowsIn news rvs (hdRows ++ bd)) (hz : bd.length ≤ 800)
    (hb0 : 0 < bd.length ∧ rowAt bd 0 = (1001, .s (Str.ofString "APP"))) (hbd : ∀ j, 0 < j → j < bd.length → rowAt bd j = opn ∨ rowAt bd j = clo ∨ (rowAt bd j).1 = 1000 ∨ (rowAt bd j).1 = 1071)
    (hq : ∀ (D : Nat) (ps' : Array Value) add h' tk' gn, Fr h₀ L h' m → News h₀ L h' ((201, tabObj ps') :: (add ++ news)) → TriplesOk ps'.toList → DatIn (add ++ news) (.ref D) (chkDat bd) → Apart add ((201, tabObj ps) :: news) → (AllBare s.gens → AllBare gn) → Q (.ref D) (gSt s h' tk' gn)) :
    wpAny (model Challenge.rw_fy0015_01.row.toRowW.1 w) A (call (.ref 570) [.ref rl]) Q E s := by
  obtain ⟨B, X₀, T, hh, hA, hf, hk⟩ := cx
  revert X₀
  k_fill
  intro X₀
  obtain ⟨_, _, _, _, _⟩ := A
  obtain ⟨⟨_, _, _, _, _⟩, _, _, _, _, _, _, _, _⟩ := env
  dsimp only at hA hf hk hh hr hu
  subst hA hf hk hh
  refine wpAny_call ?_
  refine' code_defS0R ?k1 ?k2 ?k3 ?k4 ?k5 ?kA ?kF ?kK ?kL ?k6 ?k7 ?k8 ?k9 ?kB ?_ ?c2 ?c3 ?c4 ?c5
  case kA => exact rfl
  case kF => exact rfl
  case kK => exact rfl
  case kL => exact hloc
  case k1 => k_asm
  case k2 => k_asm
  case k3 => k_asm
  case k4 => k_asm
  case k5 => exact TT
  case k6 => k_is
  case k7 => k_is
  case k8 => k_room
  case k9 => exact BindsTo.of_eq rfl
  case c5 => decide
  case kB => exact locs rfl
  case c2 => exact rfl
  case c3 => exact rfl
  case c4 => exact rfl
  intro g1 L1 h1 FG1 F1 N1 B1 X1 TT1 D1 l1
  have T1 : TopRead p₀ loose mg mb g1 := topRead_of TT1
  (try dsimp only)
  (try k_fold)
  k_steps
  rename_i pl _ l2 lt2 h2 F2 N2 q2 h3 F3 N3 l3 lt3
  have Bm1 := hb.keeps FG1.keep
  refine stop_go (call_meth N3 (List.Mem.head _) (ft_spec (ol := listOf rvs.toArray rn) (l := rl) (vs := rvs) (rows := hdRows ++ bd) (ps1 := ps) (news := (q2, methodObj (Value.ref 206) (Value.ref 366)) :: (pl, listOf #[] 0) :: news) Bm1 (by exact ⟨B1, X1, T1, rfl, rfl, rfl, rfl⟩) F3 (news_sub N3 (by intro p hp; (repeat' (rcases List.mem_cons.mp hp with rfl | hp)) <;> (repeat (first | exact List.Mem.head _ | exact hp | exact List.mem_append_right _ hp | refine List.Mem.tail _ ?_)))) (by k_room) (by k_units) hps ?o1 (List.Mem.tail _ (List.Mem.tail _ hl)) ⟨rn, .inl rfl⟩ (srcIn_rows (hR.mono fun p hp => List.Mem.tail _ (List.Mem.tail _ hp))) (by simp [hdRows]; omega) fun ps1' x dx vs' nn add h4 tk4 gn4 F4 N4 hps4 hT4 q4 q5 hb4 => ?_))
  case o1 =>
    intro p hp
    rcases List.mem_cons.mp hp with rfl | hp
    · exact Nat.ne_of_gt (l3.lt (201, _) (List.Mem.tail _ (List.Mem.head _)))
    rcases List.mem_cons.mp hp with rfl | hp
    · exact Nat.ne_of_gt lt2
    · exact hoff p hp
  k_steps
  have hplx : @LT.lt Nat _ pl x := by
    have := TopLe.lt (d := x) q5 (pl, _) (List.Mem.tail _ (List.Mem.tail _ (List.Mem.head _)))
    exact this
  have hTn : TagsIn ((x, tagsObj dx vs' nn) :: (add ++ (201, tabObj ps1') :: news)) vs' (hdRows ++ bd) := hT4.mono fun p hp => List.Mem.tail _ (List.mem_append_left _ hp)
  obtain ⟨n, hn3, hn, hrn, hne⟩ := vN bd hb0
  have hsb : ∀ p ∈ (x, tagsObj dx vs' nn) :: (add ++ (201, tabObj ps1') :: news), p ∈ (x, tagsObj dx vs' nn) :: (add ++ (201, tabObj ps1') :: (q2, methodObj (Value.ref 206) (Value.ref 366)) :: (pl, listOf #[] 0) :: news) := by
    intro p hp
    rcases List.mem_cons.mp hp with rfl | hp
    · exact List.Mem.head _
    rcases List.mem_append.mp hp with hp | hp
    · exact List.Mem.tail _ (List.mem_append_left _ hp)
    rcases List.mem_cons.mp hp with rfl | hp
    · exact List.Mem.tail _ (List.mem_append_right _ (List.Mem.head _))
    · exact List.Mem.tail _ (List.mem_append_right _ (List.Mem.tail _ (List.Mem.tail _ (List.Mem.tail _ hp))))
  refine stop_go (val_spec (tn := (x, tagsObj dx vs' nn) :: (add ++ (201, tabObj ps1') :: news)) (n := n) (bd := bd) (nx := nn) (dx := dx) hsb rfl (by exact ⟨B1, X1, T1, rfl, rfl, rfl, rfl⟩) F4 N4 (by k_room) (by k_units) (List.Mem.head _) hTn (by omega) hb0 hbd hn3 hn hrn hne fun C a oC h5 tk5 t1 t2 gs nm q F5 N5 lC hLC hCa hns hgo hbgs => ?_)
  have hplC : @LT.lt Nat _ pl C := lC.lt (pl, _) (List.Mem.tail _ (List.mem_append_right _ (List.Mem.tail _ (List.Mem.tail _ (List.Mem.head _)))))
  have hltC : ∀ p ∈ (x, tagsObj dx vs' nn) :: (add ++ (201, tabObj ps1') :: news), @LT.lt Nat _ p.1 C := fun p hp => lC.lt p (hsb p hp)
  k_steps
  refine for_val (C := C) (x := x) (a := a) (g := gn4.size) (nm := nm) (q := q) (t1 := t1) (t2 := t2) (gs := gs) (oC := oC) (tn := (x, tagsObj dx vs' nn) :: (add ++ (201, tabObj ps1') :: news)) (bd := bd) (vs := vs') (n := n) (nx₀ := (pl, listOf #[] 0) :: ([] ++ (x, tagsObj dx vs' nn) :: (add ++ (201, tabObj ps1') :: news))) (by exact ⟨B1, X1, T1, rfl, rfl, rfl, rfl⟩) rfl (by k_room) rfl rfl F5 (news_sub N5 ?sub) hLC hCa hns (show (gn4.push gs)[gn4.size]? = some gs from Array.getElem?_push_size) hgo (CkJ C a x dx pl vs' nn (add ++ (201, tabObj ps1') :: news) (hdRows ++ bd)) ?off ?j0 (by passes_own) ?turn ?done ?err X₀
  case sub =>
    intro p hp
    rcases List.mem_cons.mp hp with rfl | hp
    · exact List.Mem.head _
    rcases List.mem_cons.mp hp with rfl | hp
    · exact List.Mem.tail _ (List.Mem.head _)
    refine List.Mem.tail _ (List.Mem.tail _ ?_)
    rcases List.mem_cons.mp hp with rfl | hp
    · exact List.Mem.tail _ (List.mem_append_right _ (List.Mem.tail _ (List.Mem.tail _ (List.Mem.head _))))
    · exact hsb p hp
  case off =>
    rintro i5 m5 nx ⟨hm, ys, n2, ad, rfl, hR2, hd⟩
    refine ⟨fun p hp => List.Mem.tail _ (List.mem_append_right _ hp), fun p hp => ?_⟩
    rcases List.mem_cons.mp hp with rfl | hp
    · exact ⟨Nat.ne_of_lt hplC, Nat.ne_of_lt (Nat.lt_trans hplC hCa), .inl hplC⟩
    rcases List.mem_append.mp hp with hp | hp
    · obtain ⟨c1, c2, c3⟩ := hd p hp
      exact ⟨Nat.ne_of_gt c2, Nat.ne_of_gt c3, .inr (by rw [c1]; simp)⟩
    · exact ⟨Nat.ne_of_lt (hltC p hp), Nat.ne_of_lt (Nat.lt_trans (hltC p hp) hCa), .inl (hltC p hp)⟩
  case j0 =>
    refine ⟨?_, [], 0, [], rfl, RowsIn.nil, fun p hp => by cases hp⟩
    exact if_pos rfl
  case turn =>
    rintro i5 v m5 nx I oI oC' h9 tk9 gn9 hi hv ⟨hm, ys, n2, ad, rfl, hR2, hd⟩ hnI hCI F9 N9
    obtain ⟨ta, d, tka, ua, hxa, hma, hda, hua⟩ := tagAt hT4 (i := i5) (by simp [hdRows]; omega)
    obtain rfl : v = .ref ta := by
      rw [hv] at hxa
      exact Option.some.inj hxa
    have hhu : handedIn ua = true := handed_dat hua
    have em := upds_self (m := m5) (l := [(Str.ofString "passed", .ref pl)]) (by simp [hm])
    rw [em] at F9
    have hyl : ys.length ≤ 1000 := by
      have := hR2.length
      rw [this]
      simp [hdRows]
      omega
    have hm1 : (ta, tagObj d (rowAt (hdRows ++ bd) i5).1 tka ua) ∈ (a, genObjF gn4.size nm q t1 t2) :: (I, oI) :: (C, oC') :: (pl, listOf ys.toArray n2) :: (ad ++ (x, tagsObj dx vs' nn) :: (add ++ (201, tabObj ps1') :: news)) := List.Mem.tail _ (List.Mem.tail _ (List.Mem.tail _ (List.Mem.tail _ (List.mem_append_right _ (List.Mem.tail _ (List.mem_append_left _ hma))))))
    have hd1 : (d, dictOf [] 0) ∈ (a, genObjF gn4.size nm q t1 t2) :: (I, oI) :: (C, oC') :: (pl, listOf ys.toArray n2) :: (ad ++ (x, tagsObj dx vs' nn) :: (add ++ (201, tabObj ps1') :: news)) := List.Mem.tail _ (List.Mem.tail _ (List.Mem.tail _ (List.Mem.tail _ (List.mem_append_right _ (List.Mem.tail _ (List.mem_append_left _ hda))))))
    clear F4 N4 F5 N5 F2 N2 F3 N3 hns hgo em
    k_steps
    rename_i D5 h10 F10 N10 lt10 _
    have hpm : (pl, listOf ys.toArray n2) ∈ (D5, ({ cls := .type "tuple", data := .seq [Value.int (rowAt (hdRows ++ bd) i5).1 tka, ua].toArray } : Obj)) :: (a, genObjF gn4.size nm q t1 t2) :: (I, oI) :: (C, oC') :: (pl, listOf ys.toArray n2) :: (ad ++ (x, tagsObj dx vs' nn) :: (add ++ (201, tabObj ps1') :: news)) := List.Mem.tail _ (List.Mem.tail _ (List.Mem.tail _ (List.Mem.tail _ (List.Mem.head _))))
    have hD5a : @LT.lt Nat _ a D5 := lt10.head
    have hplne : ∀ p ∈ (D5, ({ cls := .type "tuple", data := .seq [Value.int (rowAt (hdRows ++ bd) i5).1 tka, ua].toArray } : Obj)) :: (a, genObjF gn4.size nm q t1 t2) :: (I, oI) :: (C, oC') :: (ad ++ (x, tagsObj dx vs' nn) :: (add ++ (201, tabObj ps1') :: news)), @Ne Nat p.1 pl := by
      intro p hp
      rcases List.mem_cons.mp hp with rfl | hp
      · exact Nat.ne_of_gt (Nat.lt_trans hplC (Nat.lt_trans hCa hD5a))
      rcases List.mem_cons.mp hp with rfl | hp
      · exact Nat.ne_of_gt (Nat.lt_trans hplC hCa)
      rcases List.mem_cons.mp hp with rfl | hp
      · exact Nat.ne_of_gt (Nat.lt_trans hplC hCI)
      rcases List.mem_cons.mp hp with rfl | hp
      · exact Nat.ne_of_gt hplC
      rcases List.mem_append.mp hp with hp | hp
      · exact Nat.ne_of_gt (Nat.lt_trans hplC (hd p hp).2.1)
      rcases List.mem_cons.mp hp with rfl | hp
      · exact Nat.ne_of_gt hplx
      rcases List.mem_append.mp hp with hp | hp
      · exact Nat.ne_of_gt (TopLe.lt (d := p.1) (q4 p hp).1 (pl, _) (List.Mem.tail _ (List.Mem.tail _ (List.Mem.head _))))
      rcases List.mem_cons.mp hp with rfl | hp
      · exact Nat.ne_of_lt lt2
      · exact Nat.ne_of_lt (TopLe.lt l2 p (List.Mem.tail _ hp))
    refine append_at (hsz := by simp [sizeLine_eq]; omega) (N10 _ hpm).1 fun h11 hs11 hD11 => ?_
    have F11 := F10.change hs11 (N10 _ hpm).2.1 (N10 _ hpm).2.2
    have N11 : News g1 L1 h11 ((a, genObjF gn4.size nm q t1 t2) :: (I, oI) :: (C, oC') :: (pl, listOf (ys ++ [Value.ref D5]).toArray (n2 + 1)) :: (((D5, ({ cls := .type "tuple", data := .seq [Value.int (rowAt (hdRows ++ bd) i5).1 tka, ua].toArray } : Obj)) :: ad) ++ (x, tagsObj dx vs' nn) :: (add ++ (201, tabObj ps1') :: news))) := by
      have gen : ∀ p ∈ (D5, ({ cls := .type "tuple", data := .seq [Value.int (rowAt (hdRows ++ bd) i5).1 tka, ua].toArray } : Obj)) :: (a, genObjF gn4.size nm q t1 t2) :: (I, oI) :: (C, oC') :: (ad ++ (x, tagsObj dx vs' nn) :: (add ++ (201, tabObj ps1') :: news)), h11.get? p.1 = some p.2 ∧ p.1 ≠ L1 ∧ g1.get? p.1 = none := fun p hp => by
        have hm5 : p ∈ (D5, ({ cls := .type "tuple", data := .seq [Value.int (rowAt (hdRows ++ bd) i5).1 tka, ua].toArray } : Obj)) :: (a, genObjF gn4.size nm q t1 t2) :: (I, oI) :: (C, oC') :: (pl, listOf ys.toArray n2) :: (ad ++ (x, tagsObj dx vs' nn) :: (add ++ (201, tabObj ps1') :: news)) := by
          rcases List.mem_cons.mp hp with rfl | hp
          · exact List.Mem.head _
          rcases List.mem_cons.mp hp with rfl | hp
          · exact List.Mem.tail _ (List.Mem.head _)
          rcases List.mem_cons.mp hp with rfl | hp
          · exact List.Mem.tail _ (List.Mem.tail _ (List.Mem.head _))
          rcases List.mem_cons.mp hp with rfl | hp
          · exact List.Mem.tail _ (List.Mem.tail _ (List.Mem.tail _ (List.Mem.head _)))
          · exact List.Mem.tail _ (List.Mem.tail _ (List.Mem.tail _ (List.Mem.tail _ (List.Mem.tail _ hp))))
        exact ⟨hs11.extBut _ _ (hplne p hp) (N10 p hm5).1, (N10 p hm5).2⟩
      intro p hp
      rcases List.mem_cons.mp hp with rfl | hp
      · exact gen _ (List.Mem.tail _ (List.Mem.head _))
      rcases List.mem_cons.mp hp with rfl | hp
      · exact gen _ (List.Mem.tail _ (List.Mem.tail _ (List.Mem.head _)))
      rcases List.mem_cons.mp hp with rfl | hp
      · exact gen _ (List.Mem.tail _ (List.Mem.tail _ (List.Mem.tail _ (List.Mem.head _))))
      rcases List.mem_cons.mp hp with rfl | hp
      · refine ⟨?_, (N10 _ hpm).2⟩
        rw [hD11]
        simp [W.listOf]
      rcases List.mem_cons.mp hp with rfl | hp
      · exact gen _ (List.Mem.head _)
      · exact gen _ (List.Mem.tail _ (List.Mem.tail _ (List.Mem.tail _ (List.Mem.tail _ hp))))
    clear N10 F10 N9 F9
    k_steps
    refine ⟨rfl, h11, _, _, _, rfl, F11, N11, ?_, ys ++ [Value.ref D5], n2 + 1, _, rfl, ?_, ?_⟩
    · (simp only [upds, ofString_eq, String.reduceEq, reduceIte] <;> exact rfl)
    · rw [take_row (by simp [hdRows]; omega : i5 < (hdRows ++ bd).length)]
      exact (hR2.mono fun p hp => List.Mem.tail _ hp).app (RowsIn.cons (DatIn.tuple (List.Mem.head _) (DatAll.cons (DatIn.int _ _) (DatAll.cons (dat_any hua) DatAll.nil))) RowsIn.nil)
    · intro p hp
      rcases List.mem_cons.mp hp with rfl | hp
      · exact ⟨rfl, Nat.lt_trans hCa hD5a, hD5a⟩
      · exact hd p hp
  case done =>
    rintro hn5 hr5 m5 nx h9 tk9 gn9 ⟨hm, ys, n2, ad, rfl, hR2, hd⟩ F9 N9 hb9
    have em := upds_self (m := m5) (l := [(Str.ofString "passed", .ref pl)]) (by simp [hm])
    rw [em] at F9
    clear F4 N4 F5 N5 F2 N2 F3 N3 hns hgo em
    k_steps
    rename_i D6 h10 FG6 N6 l6 _ F10 N10 _ _
    have hall : n ≤ (hdRows ++ bd).length ∧ (hdRows ++ bd).length ≤ n := by simp [hdRows]; omega
    rw [List.take_of_length_le hall.2] at hR2
    refine hq D6 ps1' ((D6, W.listOf #[Value.str (Str.ofString "let through") tk9, Value.ref pl] 0) :: (pl, W.listOf ys.toArray n2) :: (ad ++ (x, tagsObj dx vs' nn) :: add)) _ _ _ F10 (news_sub N10 ?_) hps4 ?_ ?_ (fun z => hb9 (AllBare.push (hb4 z) hbgs))
    · intro p hp
      simp at hp ⊢
      rcases hp with h | h | h | h | h | h | h <;> simp [h]
    · unfold chkDat
      rw [if_pos hr5]
      refine DatIn.list (vs := [Value.str (Str.ofString "let through") tk9, Value.ref pl]) (List.Mem.head _) (DatAll.cons (DatIn.str _ _) (DatAll.cons (DatIn.list (vs := ys) (List.Mem.tail _ (List.Mem.head _)) (DatAll.mono ?_ hR2)) DatAll.nil))
      intro p hp
      simp [hp]
    · intro p hp q' hq'
      have hpq := TopLe.lt l2 q' hq'
      rcases List.mem_cons.mp hp with rfl | hp
      · exact Nat.ne_of_gt (Nat.lt_trans hpq l6.head)
      rcases List.mem_cons.mp hp with rfl | hp
      · exact Nat.ne_of_gt hpq
      rcases List.mem_append.mp hp with hp | hp
      · exact Nat.ne_of_gt (Nat.lt_trans hpq (Nat.lt_trans hplC (hd p hp).2.1))
      rcases List.mem_cons.mp hp with rfl | hp
      · exact Nat.ne_of_gt (Nat.lt_trans hpq hplx)
      · exact Nat.ne_of_gt (Nat.lt_trans hpq (TopLe.lt (d := p.1) (q4 p hp).1 (pl, _) (List.Mem.tail _ (List.Mem.tail _ (List.Mem.head _)))))
  case err =>
    intro hne5 g9 m9 e t vs9 h9 tk9 gn9 F9 R9 U9 hb9
    clear F4 N4 F5 N5 F2 N2 F3 N3 hns hgo
    k_steps
    rename_i D6 h10 FG6 N6 l6 _ F10 N10 _ _
    refine hq D6 ps1' ((D6, W.listOf #[Value.str (Str.ofString "refused") tk] 0) :: (x, tagsObj dx vs' nn) :: add) _ _ _ F10 (news_sub N10 ?_) hps4 ?_ ?_ (fun z => hb9 (AllBare.push (hb4 z) hbgs))
    · intro p hp
      simp at hp ⊢
      rcases hp with h | h | h | h | h <;> simp [h]
    · unfold chkDat
      rw [if_neg hne5]
      exact DatIn.list (vs := [Value.str (Str.ofString "refused") tk]) (List.Mem.head _) (DatAll.cons (DatIn.str _ _) DatAll.nil)
    · intro p hp q' hq'
      have hpq := TopLe.lt l2 q' hq'
      rcases List.mem_cons.mp hp with rfl | hp
      · exact Nat.ne_of_gt (Nat.lt_trans hpq (Nat.lt_trans hplx l6.head))
      rcases List.mem_cons.mp hp with rfl | hp
      · exact Nat.ne_of_gt (Nat.lt_trans hpq hplx)
      · exact Nat.ne_of_gt (Nat.lt_trans hpq (TopLe.lt (d := p.1) (q4 p hp).1 (pl, _) (List.Mem.tail _ (List.Mem.tail _ (List.Mem.head _)))))
end

/- part MLd -/
section
/- the law's own text, told apart piece by piece (each piece is found by rfl, nothing is typed) -/
def lawParts : {x : Str × List Stmt × Scope // ∀ w : World, ∃ params oc od osl dV kV doc pm an cdv ct, ((hd.heap_39 w.params)).lookup 575 = some ⟨oc, od, .func (fnOf x.1 x.1 params x.2.1 x.2.2 dV kV doc pm an cdv ct), osl⟩} :=
  ⟨(_, _, _), fun w => ⟨_, _, _, _, _, _, _, _, _, _, _, by with_unfolding_all exact rfl⟩⟩
def lawFor : {x : PySem.Expr × List Stmt × Pos × Pos // lawParts.1.2.1[7]? = some (.For (.Name (Str.ofString "k") x.2.2.1) x.1 x.2.1 [] x.2.2.2)} := ⟨(_, _, _, _), by with_unfolding_all exact rfl⟩
def tS1 : {x : Stmt // lawFor.1.2.1[0]? = some x} := ⟨_, by with_unfolding_all exact rfl⟩
def tS2 : {x : Stmt // lawFor.1.2.1[1]? = some x} := ⟨_, by with_unfolding_all exact rfl⟩
def tS3 : {x : Stmt // lawFor.1.2.1[2]? = some x} := ⟨_, by with_unfolding_all exact rfl⟩
def tS4 : {x : Stmt // lawFor.1.2.1[3]? = some x} := ⟨_, by with_unfolding_all exact rfl⟩
def tS5 : {x : Stmt // lawFor.1.2.1[4]? = some x} := ⟨_, by with_unfolding_all exact rfl⟩
def tS6 : {x : Stmt // lawFor.1.2.1[5]? = some x} := ⟨_, by with_unfolding_all exact rfl⟩
def tS7 : {x : Stmt // lawFor.1.2.1[6]? = some x} := ⟨_, by with_unfolding_all exact rfl⟩
def tS8 : {x : Stmt // lawFor.1.2.1[7]? = some x} := ⟨_, by with_unfolding_all exact rfl⟩
def tS9 : {x : Stmt // lawFor.1.2.1[8]? = some x} := ⟨_, by with_unfolding_all exact rfl⟩
def tS10 : {x : Stmt // lawFor.1.2.1[9]? = some x} := ⟨_, by with_unfolding_all exact rfl⟩
theorem forBody_is : lawFor.1.2.1 = [tS1.1, tS2.1, tS3.1, tS4.1, tS5.1, tS6.1, tS7.1, tS8.1, tS9.1, tS10.1] := by with_unfolding_all exact rfl
def eS1 : {x : Stmt // lawParts.1.2.1[8]? = some x} := ⟨_, by with_unfolding_all exact rfl⟩
def eS2 : {x : Stmt // lawParts.1.2.1[9]? = some x} := ⟨_, by with_unfolding_all exact rfl⟩
def eS3 : {x : Stmt // lawParts.1.2.1[10]? = some x} := ⟨_, by with_unfolding_all exact rfl⟩
def eS4 : {x : Stmt // lawParts.1.2.1[11]? = some x} := ⟨_, by with_unfolding_all exact rfl⟩
def eS5 : {x : Stmt // lawParts.1.2.1[12]? = some x} := ⟨_, by with_unfolding_all exact rfl⟩
def eS6 : {x : Stmt // lawParts.1.2.1[13]? = some x} := ⟨_, by with_unfolding_all exact rfl⟩
def eS7 : {x : Stmt // lawParts.1.2.1[14]? = some x} := ⟨_, by with_unfolding_all exact rfl⟩
theorem tail_is : lawParts.1.2.1.drop 8 = [eS1.1, eS2.1, eS3.1, eS4.1, eS5.1, eS6.1, eS7.1] := by with_unfolding_all exact rfl
abbrev LEnv (L fa : Addr) (cd : Value) : Env := envOfC lawParts.1.1 lawParts.1.2.2 L fa cd
end

/- part MLe -/
section
theorem sbs_nil {l : List (Addr × Obj)} : ∀ p ∈ ([] : List (Addr × Obj)), p ∈ l := fun _ h => nomatch h
theorem sbs_cons {a : Addr × Obj} {r l : List (Addr × Obj)} (h : List.Mem a l) (k : ∀ p ∈ r, p ∈ l) : ∀ p ∈ a :: r, p ∈ l := fun p hp => by
  rcases List.mem_cons.mp hp with rfl | hp
  · exact h
  · exact k p hp
theorem sbs_app {a b l : List (Addr × Obj)} (h : ∀ p ∈ a, p ∈ l) (k : ∀ p ∈ b, p ∈ l) : ∀ p ∈ a ++ b, p ∈ l := fun p hp => (List.mem_append.mp hp).elim (h p) (k p)
theorem sbs_refl {l : List (Addr × Obj)} : ∀ p ∈ l, p ∈ l := fun _ h => h
theorem sbs_tail {a : Addr × Obj} {r l : List (Addr × Obj)} (h : ∀ p ∈ r, p ∈ l) : ∀ p ∈ r, p ∈ a :: l := fun p hp => List.Mem.tail _ (h p hp)
theorem sbs_left {a b r : List (Addr × Obj)} (h : ∀ p ∈ r, p ∈ b) : ∀ p ∈ r, p ∈ a ++ b := fun p hp => List.mem_append_right _ (h p hp)
theorem sbs_right {a b : List (Addr × Obj)} : ∀ p ∈ a, p ∈ a ++ b := fun p hp => List.mem_append_left _ hp
theorem mem_right9 {a : Addr × Obj} {l r : List (Addr × Obj)} (h : List.Mem a r) : List.Mem a (l ++ r) := List.mem_append_right _ h
def SeqO (o : Obj) : Prop := ∃ xs n, o.data = .seq xs n
section
variable {news news' : List (Addr × Obj)}
mutual
theorem DatIn.strip (hs : ∀ p ∈ news, SeqO p.2 → p ∈ news') : ∀ {v : Value} {d : Dat}, DatIn news v d → DatIn news' v d
  | _, _, .none => .none
  | _, _, .bool b => .bool b
  | _, _, .int i t => .int i t
  | _, _, .str x t => .str x t
  | _, _, .bytes b t => .bytes b t
  | _, _, .tuple h r => .tuple (hs _ h ⟨_, _, rfl⟩) (DatAll.strip hs r)
  | _, _, .list h r => .list (hs _ h ⟨_, _, rfl⟩) (DatAll.strip hs r)
theorem DatAll.strip (hs : ∀ p ∈ news, SeqO p.2 → p ∈ news') : ∀ {vs : List Value} {ds : List Dat}, DatAll news vs ds → DatAll news' vs ds
  | _, _, .nil => .nil
  | _, _, .cons h r => .cons (DatIn.strip hs h) (DatAll.strip hs r)
end
theorem RowsIn.strip {vs : List Value} {rows : List Row} (hs : ∀ p ∈ news, SeqO p.2 → p ∈ news') (h : RowsIn news vs rows) : RowsIn news' vs rows := DatAll.strip hs h
theorem KvIn.strip (hs : ∀ p ∈ news, SeqO p.2 → p ∈ news') {kvs : List (Str × Value)} {D : List (Str × Dat)} (h : KvIn news kvs D) : KvIn news' kvs D := by
  induction h with
  | nil => exact .nil
  | cons a _ ih => exact .cons (DatIn.strip hs a) ih
theorem DictIs.strip {prog : Program} {w : World} {o : Obj} {D : List (Str × Dat)} (hs : ∀ p ∈ news, SeqO p.2 → p ∈ news') (h : DictIs prog w news o D) : DictIs prog w news' o D := let ⟨kvs, a, b⟩ := h; ⟨kvs, a, b.strip hs⟩
end
/-- neither a cell nor a table -/
def Solid (o : Obj) : Prop := (∃ xs n, o.data = .seq xs n) ∨ ∃ es ep, o.data = .dict es ep
theorem SeqO.solid {o : Obj} (h : SeqO o) : Solid o := .inl h
theorem solid_dict {prog : Program} {w : World} {o : Obj} {kvs : List (Str × Value)} (h : o.IsDictOf (strKind prog w) kvs) : Solid o := by
  obtain ⟨es, ep, _, h1, _⟩ := h
  exact .inr ⟨es, ep, h1⟩
def key8 (L : Addr) (o5 o4 o3 o2 o1 : Obj) (ps1 ps ps2 : Array Value) (R : List (Addr × Obj)) : List (Addr × Obj) :=
  (L + 1 + 1 + 1 + 1 + 1, o5) :: (L + 1 + 1 + 1 + 1, o4) :: (L + 1 + 1 + 1, o3) :: (L + 1 + 1, o2) :: (L + 1, o1) :: (468, tabObj ps1) :: (408, tabObj ps) :: (201, tabObj ps2) :: R
theorem not_solid_cell {o : Obj} {x : Option Value} (h : o.data = .cell x) : ¬ Solid o := by
  rintro (⟨xs, n, e⟩ | ⟨es, ep, e⟩) <;> rw [h] at e <;> cases e
theorem not_solid_tab {ps : Array Value} : ¬ Solid (tabObj ps) := by
  rintro (⟨xs, n, e⟩ | ⟨es, ep, e⟩) <;> cases e
theorem key_strip {L : Addr} {o5 o4 o3 o2 o1 : Obj} {ps1 ps ps2 : Array Value} {add R : List (Addr × Obj)} {x1 x2 x3 x4 x5 : Option Value}
    (c1 : o1.data = .cell x1) (c2 : o2.data = .cell x2) (c3 : o3.data = .cell x3) (c4 : o4.data = .cell x4) (c5 : o5.data = .cell x5) :
    ∀ p ∈ add ++ key8 L o5 o4 o3 o2 o1 ps1 ps ps2 R, Solid p.2 → p ∈ add ++ R := by
  intro p hp hs
  rcases List.mem_append.mp hp with hp | hp
  · exact List.mem_append_left _ hp
  · refine List.mem_append_right _ ?_
    unfold key8 at hp
    rcases List.mem_cons.mp hp with rfl | hp
    · exact absurd hs (not_solid_cell c5)
    rcases List.mem_cons.mp hp with rfl | hp
    · exact absurd hs (not_solid_cell c4)
    rcases List.mem_cons.mp hp with rfl | hp
    · exact absurd hs (not_solid_cell c3)
    rcases List.mem_cons.mp hp with rfl | hp
    · exact absurd hs (not_solid_cell c2)
    rcases List.mem_cons.mp hp with rfl | hp
    · exact absurd hs (not_solid_cell c1)
    rcases List.mem_cons.mp hp with rfl | hp
    · exact absurd hs not_solid_tab
    rcases List.mem_cons.mp hp with rfl | hp
    · exact absurd hs not_solid_tab
    rcases List.mem_cons.mp hp with rfl | hp
    · exact absurd hs not_solid_tab
    · exact hp
/-- all addresses above b -/
def Above (b : Nat) (l : List (Addr × Obj)) : Prop := ∀ p ∈ l, @LT.lt Nat _ b p.1
theorem Above.nil {b : Nat} : Above b [] := fun _ h => nomatch h
theorem Above.app {b : Nat} {l r : List (Addr × Obj)} (h : Above b l) (k : Above b r) : Above b (l ++ r) := fun p hp => (List.mem_append.mp hp).elim (h p) (k p)
theorem Above.cons {b : Nat} {a : Addr} {o : Obj} {r : List (Addr × Obj)} (h : @LT.lt Nat _ b a) (k : Above b r) : Above b ((a, o) :: r) := fun p hp => by
  rcases List.mem_cons.mp hp with rfl | hp
  · exact h
  · exact k p hp
theorem Above.ne {b c : Nat} {l : List (Addr × Obj)} (h : Above b l) (hc : c ≤ b) : ∀ p ∈ l, p.1 ≠ c := fun p hp e => by
  have := h p hp; rw [e] at this; exact absurd this (Nat.not_lt.mpr hc)
theorem above_top {b : Nat} {add lg : List (Addr × Obj)} (h : ∀ p ∈ add, top lg ≤ p.1) (hb : @LT.lt Nat _ b (top lg)) : Above b add := fun p hp => Nat.lt_of_lt_of_le hb (h p hp)
theorem top_key {L : Addr} {o5 o4 o3 o2 o1 : Obj} {ps1 ps ps2 : Array Value} {R : List (Addr × Obj)} : @LT.lt Nat _ (L + 1 + 1 + 1 + 1 + 1) (top (key8 L o5 o4 o3 o2 o1 ps1 ps ps2 R)) := by
  unfold key8; rw [top_cons]; exact Nat.lt_of_lt_of_le (Nat.lt_succ_self _) (Nat.le_max_left _ _)
theorem key_sub {L : Addr} {o5 o4 o3 o2 o1 : Obj} {ps1 ps ps2 : Array Value} {add R : List (Addr × Obj)} : ∀ p ∈ key8 L o5 o4 o3 o2 o1 ps1 ps ps2 (add ++ R), p ∈ add ++ key8 L o5 o4 o3 o2 o1 ps1 ps ps2 R := by
  unfold key8
  intro p hp
  rcases List.mem_cons.mp hp with rfl | hp
  · exact List.mem_append_right _ (List.Mem.head _)
  rcases List.mem_cons.mp hp with rfl | hp
  · exact List.mem_append_right _ (.tail _ (List.Mem.head _))
  rcases List.mem_cons.mp hp with rfl | hp
  · exact List.mem_append_right _ (.tail _ (.tail _ (List.Mem.head _)))
  rcases List.mem_cons.mp hp with rfl | hp
  · exact List.mem_append_right _ (.tail _ (.tail _ (.tail _ (List.Mem.head _))))
  rcases List.mem_cons.mp hp with rfl | hp
  · exact List.mem_append_right _ (.tail _ (.tail _ (.tail _ (.tail _ (List.Mem.head _)))))
  rcases List.mem_cons.mp hp with rfl | hp
  · exact List.mem_append_right _ (.tail _ (.tail _ (.tail _ (.tail _ (.tail _ (List.Mem.head _))))))
  rcases List.mem_cons.mp hp with rfl | hp
  · exact List.mem_append_right _ (.tail _ (.tail _ (.tail _ (.tail _ (.tail _ (.tail _ (List.Mem.head _)))))))
  rcases List.mem_cons.mp hp with rfl | hp
  · exact List.mem_append_right _ (.tail _ (.tail _ (.tail _ (.tail _ (.tail _ (.tail _ (.tail _ (List.Mem.head _))))))))
  rcases List.mem_append.mp hp with hp | hp
  · exact List.mem_append_left _ hp
  · exact List.mem_append_right _ (.tail _ (.tail _ (.tail _ (.tail _ (.tail _ (.tail _ (.tail _ (.tail _ hp))))))))
structure LC (w : World) (H : Heap) (L : Addr) (loose : List Str) (mean : ExcName → Option Value) (mg mb : Str → Option Value) : Prop where
  B : Below callerA H [] H
  X : (hd.heap_39 w.params).In H
  T : Top topProg loose mean mg mb H
  hb : Bm mg H
  l468 : @LT.lt Nat _ 468 L
theorem LC.cx {w : World} {H : Heap} {L fa : Addr} {cd : Value} {loose : List Str} {mean : ExcName → Option Value} {mg mb : Str → Option Value} (lc : LC w H L loose mean mg mb) :
    Cx w (callerA.deeper (LEnv L fa cd)) callerA H H [] (LEnv L fa cd) L mg mb topProg loose := ⟨lc.B, lc.X, topRead_of lc.T, rfl, rfl, rfl, rfl⟩
end

/- part MLf -/
section
abbrev c5a (L : Nat) : Nat := L + 1 + 1 + 1 + 1 + 1
theorem add_key {w : World} {A A₀ : Around} {s : Shared} {base h₀ : Heap} {outer : List Env} {env : Env} {L : Addr} {m mg mb : Str → Option Value} {p₀ : Program} {loose : List Str} {E : Value → Shared → Prop} {Q : Value → Shared → Prop}
    {o5 o4 o3 o2 o1 : Obj} {R : List (Addr × Obj)} {xo xd d l : Addr} {od ol : Obj} {tkx ta : Tok} {nx : Nat} {kvs : List (Str × Value)} {vs : List Value} {rows : List Row} {ps1 ps ps2 : Array Value} {app : Str} (hb : Bm mg h₀) (cx : Cx w A A₀ base h₀ outer env L mg mb p₀ loose) (F : Fr h₀ L s.heap m)
    (N : News h₀ L s.heap (key8 L o5 o4 o3 o2 o1 ps1 ps ps2 ((d, od) :: R))) (hr : A.depth + 160 < recursionLimit) (hu : A.units + 3000 < cLine) (hps1 : TriplesOk ps1.toList) (hps : TriplesOk ps.toList)
    (l468 : @LT.lt Nat _ 468 L) (hd5 : @LT.lt Nat _ (c5a L) d) (hR : Above (c5a L) R) (hoffd : ∀ p ∈ R, p.1 ≠ d)
    (hx : (xo, instObj 525 xd) ∈ R) (hxd : (xd, xAttrs w tkx d nx) ∈ R) (hod : od.IsDictOf (strKind Challenge.rw_fy0015_01.row.toRowW.1 w) kvs) (hkz : kvs.length ≤ 1000)
    (hl : (l, ol) ∈ R) (hol : SrcObj ol vs) (hT : SrcIn R vs rows) (hz : rows.length ≤ 900) (hne : rows ≠ []) (hcod : ∀ r ∈ rows, r.1 ∈ vCodes) (hok : ∀ r ∈ rows, rowOk r = true) (hok2 : rowOk (1001, .s app) = true)
    (h : ∀ (ps1' ps' : Array Value) od' (x dx : Nat) vs' nn add h' tk gn, Fr h₀ L h' m → News h₀ L h' (key8 L o5 o4 o3 o2 o1 ps1' ps' ps2 ((d, od') :: (x, tagsObj dx vs' nn) :: (add ++ R))) → TriplesOk ps1'.toList → TriplesOk ps'.toList →
      od'.IsDictOf (strKind Challenge.rw_fy0015_01.row.toRowW.1 w) (stored kvs app (.ref x)) → TagsIn add vs' (outRows rows app) → Above (c5a L) add → c5a L < x → (∀ p ∈ add, p.1 ≠ d) → (∀ p ∈ add, p.1 ≠ x) → (∀ p ∈ R, p.1 ≠ x) → (@Ne Nat x d) → Apart add R → (AllBare s.gens → AllBare gn) → Q .none (gSt s h' tk gn)) :
    wpAny (model Challenge.rw_fy0015_01.row.toRowW.1 w) A (call (.ref 473) [.ref xo, .str app ta, .ref l]) Q E s := by
  unfold key8 at N
  have hd6 : @LT.lt Nat _ (L + 5) d := hd5
  refine add_spec (xd := xd) (tkx := tkx) (nx := nx) (news := (L + 1 + 1 + 1 + 1 + 1, o5) :: (L + 1 + 1 + 1 + 1, o4) :: (L + 1 + 1 + 1, o3) :: (L + 1 + 1, o2) :: (L + 1, o1) :: (201, tabObj ps2) :: R) hb cx F (news_sub N (by (try unfold key8); (repeat' (first | with_reducible exact sbs_nil | with_reducible refine sbs_cons ?_ ?_ | with_reducible refine sbs_app ?_ ?_)); all_goals (repeat' (first | with_reducible exact List.Mem.head _ | with_reducible exact sbs_refl | with_reducible refine List.Mem.tail _ ?_ | with_reducible refine sbs_tail ?_ | with_reducible exact sbs_right | with_reducible refine sbs_left ?_ | with_reducible refine mem_right9 ?_)))) hr hu hps1 hps ?a ?b ?c (Nat.lt_trans l468 (by omega)) ?hx ?hxd hod hkz ?hl hol ?hT hz hne hcod hok hok2 fun ps1' ps' od' x dx vs' nn add h' tk gn F1 N1 q1 q2 q3 q4 q5 q6 q7 => ?_
  case hx => exact List.mem_append_right [_, _, _, _, _, _] hx
  case hxd => exact List.mem_append_right [_, _, _, _, _, _] hxd
  case hl => exact List.mem_append_right [_, _, _, _, _, _] hl
  case hT => exact ⟨hT.1, fun i hi => let ⟨a, b, c⟩ := hT.2 i hi; ⟨a, b, c.mono fun p hp => List.mem_append_right [_, _, _, _, _, _] hp⟩⟩
  case a =>
    simp only [List.forall_mem_cons]
    refine ⟨?_, ?_, ?_, ?_, ?_, ?_, hR.ne (by simp only [c5a]; omega)⟩ <;> (show @Ne Nat _ _) <;> omega
  case b =>
    simp only [List.forall_mem_cons]
    refine ⟨?_, ?_, ?_, ?_, ?_, ?_, hR.ne (by simp only [c5a]; omega)⟩ <;> (show @Ne Nat _ _) <;> omega
  case c =>
    simp only [List.forall_mem_cons]
    refine ⟨?_, ?_, ?_, ?_, ?_, ?_, hoffd⟩ <;> (show @Ne Nat _ _) <;> omega
  have t0 : TopLe ((468, tabObj ps1) :: (408, tabObj ps) :: (d, od) :: (L + 1 + 1 + 1 + 1 + 1, o5) :: (L + 1 + 1 + 1 + 1, o4) :: (L + 1 + 1 + 1, o3) :: (L + 1 + 1, o2) :: (L + 1, o1) :: (201, tabObj ps2) :: R) x := q6
  have lt0 := TopLe.lt t0
  have ltd := lt0 (d, od) (.tail _ (.tail _ (.head _)))
  refine h ps1' ps' od' x dx vs' nn add h' tk gn F1 (news_sub N1 (by (try unfold key8); (repeat' (first | with_reducible exact sbs_nil | with_reducible refine sbs_cons ?_ ?_ | with_reducible refine sbs_app ?_ ?_)); all_goals (repeat' (first | with_reducible exact List.Mem.head _ | with_reducible exact sbs_refl | with_reducible refine List.Mem.tail _ ?_ | with_reducible refine sbs_tail ?_ | with_reducible exact sbs_right | with_reducible refine sbs_left ?_ | with_reducible refine mem_right9 ?_)))) q1 q2 q3 q4 ?_ ?_ ?_ (fun p hp => (q5 p hp).2) ?_ (Nat.ne_of_gt ltd) (fun p hp q hq => Nat.ne_of_gt (Nat.lt_of_lt_of_le (TopLe.lt (d := top _) (Nat.le_refl _) q (.tail _ (.tail _ (.tail _ (List.mem_append_right [_, _, _, _, _, _] hq))))) (q5 p hp).1)) q7
  · exact fun p hp => Nat.lt_of_lt_of_le (TopLe.lt (d := top _) (Nat.le_refl _) (L + 1 + 1 + 1 + 1 + 1, o5) (.tail _ (.tail _ (.tail _ (.head _))))) (q5 p hp).1
  · exact lt0 (L + 1 + 1 + 1 + 1 + 1, o5) (.tail _ (.tail _ (.tail _ (.head _))))
  · exact fun p hp => Nat.ne_of_gt (Nat.lt_of_lt_of_le (TopLe.lt (d := top _) (Nat.le_refl _) (d, od) (.tail _ (.tail _ (.head _)))) (q5 p hp).1)
  · exact fun p hp => Nat.ne_of_lt (lt0 p (.tail _ (.tail _ (.tail _ (List.mem_append_right [_, _, _, _, _, _] hp)))))
theorem ds_key {mean : ExcName → Option Value} {w : World} {A A₀ : Around} {s : Shared} {h₀ : Heap} {env : Env} {L : Addr} {m mg mb : Str → Option Value} {p₀ : Program} {loose : List Str} {E : Value → Shared → Prop} {Q : Value → Shared → Prop}
    {o5 o4 o3 o2 o1 : Obj} {R : List (Addr × Obj)} {xo xd d l dl : Addr} {od : Obj} {tkx ta tx : Tok} {nx n : Nat} {kvs : List (Str × Value)} {vs : List Value} {rs : List Row} {ps1 ps ps2 : Array Value} {app x : Str} (TT : Top p₀ loose mean mg mb h₀) (hloc : env.locals = L) (hb : Bm mg h₀)
    (cx : Cx w A A₀ h₀ h₀ [] env L mg mb p₀ loose) (F : Fr h₀ L s.heap m) (N : News h₀ L s.heap (key8 L o5 o4 o3 o2 o1 ps1 ps ps2 ((d, od) :: (l, tagsObj dl vs n) :: R))) (hr : A.depth + 200 < recursionLimit) (hu : A.units + 4000 < cLine) (hps1 : TriplesOk ps1.toList) (hps : TriplesOk ps.toList)
    (l468 : @LT.lt Nat _ 468 L) (hd5 : @LT.lt Nat _ (c5a L) d) (hl5 : @LT.lt Nat _ (c5a L) l) (h468 : ∀ p ∈ R, p.1 ≠ 468) (h408 : ∀ p ∈ R, p.1 ≠ 408) (hoffd : ∀ p ∈ R, p.1 ≠ d) (hoffl : ∀ p ∈ R, p.1 ≠ l) (hld : @Ne Nat l d)
    (hx : (xo, instObj 525 xd) ∈ R) (hxd : (xd, xAttrs w tkx d nx) ∈ R) (hod : od.IsDictOf (strKind Challenge.rw_fy0015_01.row.toRowW.1 w) kvs) (hkz : kvs.length ≤ 1000) (hv : valueAt kvs app = some (.ref l))
    (hT : TagsIn R vs rs) (hz : rs.length ≤ 900) (hcod : ∀ r ∈ rs, r.1 ∈ vCodes) (hok : ∀ r ∈ rs, rowOk r = true) (hok2 : rowOk (1001, .s app) = true) (hokx : rowOk (1000, .s x) = true) (hnx : ∀ i, i < rs.length → rowAt rs i = (1000, .s x) → i + 1 < rs.length)
    (hcut : ∀ b e lv, scan rs x rs.length = ⟨some b, lv, some e⟩ → cutRows rs b e ≠ [])
    (hq : ∀ b e lv (ps1' ps' : Array Value) od' (y dy : Nat) vs' nn add h' tk gn, scan rs x rs.length = ⟨some b, lv, some e⟩ → Fr h₀ L h' m → News h₀ L h' (key8 L o5 o4 o3 o2 o1 ps1' ps' ps2 ((d, od') :: (y, tagsObj dy vs' nn) :: (add ++ R))) → TriplesOk ps1'.toList → TriplesOk ps'.toList →
      od'.IsDictOf (strKind Challenge.rw_fy0015_01.row.toRowW.1 w) (stored kvs app (.ref y)) → TagsIn add vs' (outRows (cutRows rs b e) app) → Apart add (key8 L o5 o4 o3 o2 o1 ps1 ps ps2 ((d, od) :: (l, tagsObj dl vs n) :: R)) → @LT.lt Nat _ (c5a L) y → (∀ p ∈ add, p.1 ≠ y) → (∀ p ∈ R, p.1 ≠ y) → (@Ne Nat y d) → (AllBare s.gens → AllBare gn) → Q .none (gSt s h' tk gn))
    (hn : ∀ lv h' tk gn, scan rs x rs.length = ⟨none, lv, none⟩ → Fr h₀ L h' m → News h₀ L h' (key8 L o5 o4 o3 o2 o1 ps1 ps ps2 ((d, od) :: (l, tagsObj dl vs n) :: R)) → (AllBare s.gens → AllBare gn) → Q .none (gSt s h' tk gn))
    (hdx : ∀ b lv g e t vs' h' tk gn, scan rs x rs.length = ⟨some b, lv, none⟩ → Fr h₀ L g m → RaisedS h₀ g [env] e (.ref 154) t vs' (key8 L o5 o4 o3 o2 o1 ps1 ps ps2 ((d, od) :: (l, tagsObj dl vs n) :: R)) h' → g.UpToSlots h' → (AllBare s.gens → AllBare gn) → E (.ref e) (gSt s h' tk gn)) :
    wpAny (model Challenge.rw_fy0015_01.row.toRowW.1 w) A (call (.ref 515) [.ref xo, .str app ta, .str x tx]) Q E s := by
  have hd6 : @LT.lt Nat _ (L + 5) d := hd5
  have hl6 : @LT.lt Nat _ (L + 5) l := hl5
  refine ds_spec (xd := xd) (tkx := tkx) (nx := nx) (news := (L + 1 + 1 + 1 + 1 + 1, o5) :: (L + 1 + 1 + 1 + 1, o4) :: (L + 1 + 1 + 1, o3) :: (L + 1 + 1, o2) :: (L + 1, o1) :: (201, tabObj ps2) :: R) TT hloc hb cx F (news_sub N (by (try unfold key8); (repeat' (first | with_reducible exact sbs_nil | with_reducible refine sbs_cons ?_ ?_ | with_reducible refine sbs_app ?_ ?_)); all_goals (repeat' (first | with_reducible exact List.Mem.head _ | with_reducible exact sbs_refl | with_reducible refine List.Mem.tail _ ?_ | with_reducible refine sbs_tail ?_ | with_reducible exact sbs_right | with_reducible refine sbs_left ?_ | with_reducible refine mem_right9 ?_)))) hr hu hps1 hps ?a ?b ?c ?d (Nat.lt_trans l468 (by omega)) (Nat.lt_trans l468 (by omega)) hld ?hx ?hxd hod hkz hv ?hT hz hcod hok hok2 hokx hnx hcut ?hq ?hn ?hdx
  case hx => exact List.mem_append_right [_, _, _, _, _, _] hx
  case hxd => exact List.mem_append_right [_, _, _, _, _, _] hxd
  case hT => exact hT.mono fun p hp => List.mem_append_right [_, _, _, _, _, _] hp
  case a =>
    simp only [List.forall_mem_cons]
    refine ⟨?_, ?_, ?_, ?_, ?_, ?_, h468⟩ <;> (show @Ne Nat _ _) <;> omega
  case b =>
    simp only [List.forall_mem_cons]
    refine ⟨?_, ?_, ?_, ?_, ?_, ?_, h408⟩ <;> (show @Ne Nat _ _) <;> omega
  case c =>
    simp only [List.forall_mem_cons]
    refine ⟨?_, ?_, ?_, ?_, ?_, ?_, hoffd⟩ <;> (show @Ne Nat _ _) <;> omega
  case d =>
    simp only [List.forall_mem_cons]
    refine ⟨?_, ?_, ?_, ?_, ?_, ?_, hoffl⟩ <;> (show @Ne Nat _ _) <;> omega
  case hn => exact fun lv h' tk gn hs F1 N1 hb9 => hn lv h' tk gn hs F1 (news_sub N1 (by (try unfold key8); (repeat' (first | with_reducible exact sbs_nil | with_reducible refine sbs_cons ?_ ?_ | with_reducible refine sbs_app ?_ ?_)); all_goals (repeat' (first | with_reducible exact List.Mem.head _ | with_reducible exact sbs_refl | with_reducible refine List.Mem.tail _ ?_ | with_reducible refine sbs_tail ?_ | with_reducible exact sbs_right | with_reducible refine sbs_left ?_ | with_reducible refine mem_right9 ?_)))) hb9
  case hdx => exact fun b lv g e t vs' h' tk gn hs F1 R1 U hb9 => hdx b lv g e t vs' h' tk gn hs F1 (raised_sub R1 (by (try unfold key8); (repeat' (first | with_reducible exact sbs_nil | with_reducible refine sbs_cons ?_ ?_ | with_reducible refine sbs_app ?_ ?_)); all_goals (repeat' (first | with_reducible exact List.Mem.head _ | with_reducible exact sbs_refl | with_reducible refine List.Mem.tail _ ?_ | with_reducible refine sbs_tail ?_ | with_reducible exact sbs_right | with_reducible refine sbs_left ?_ | with_reducible refine mem_right9 ?_)))) U hb9
  case hq =>
    intro b e lv ps1' ps' od' y dy vs' nn add h' tk gn hs F1 N1 q1 q2 q3 q4 q5 q6 q7
    have t0 : TopLe ((468, tabObj ps1) :: (408, tabObj ps) :: (d, od) :: (l, tagsObj dl vs n) :: (L + 1 + 1 + 1 + 1 + 1, o5) :: (L + 1 + 1 + 1 + 1, o4) :: (L + 1 + 1 + 1, o3) :: (L + 1 + 1, o2) :: (L + 1, o1) :: (201, tabObj ps2) :: R) y := q6
    have lt0 := TopLe.lt t0
    have ltd := lt0 (d, od) (.tail _ (.tail _ (.head _)))
    have sub9 : ∀ p ∈ key8 L o5 o4 o3 o2 o1 ps1 ps ps2 ((d, od) :: (l, tagsObj dl vs n) :: R), p ∈ (468, tabObj ps1) :: (408, tabObj ps) :: (d, od) :: (l, tagsObj dl vs n) :: (L + 1 + 1 + 1 + 1 + 1, o5) :: (L + 1 + 1 + 1 + 1, o4) :: (L + 1 + 1 + 1, o3) :: (L + 1 + 1, o2) :: (L + 1, o1) :: (201, tabObj ps2) :: R := (by (try unfold key8); (repeat' (first | with_reducible exact sbs_nil | with_reducible refine sbs_cons ?_ ?_ | with_reducible refine sbs_app ?_ ?_)); all_goals (repeat' (first | with_reducible exact List.Mem.head _ | with_reducible exact sbs_refl | with_reducible refine List.Mem.tail _ ?_ | with_reducible refine sbs_tail ?_ | with_reducible exact sbs_right | with_reducible refine sbs_left ?_ | with_reducible refine mem_right9 ?_)))
    refine hq b e lv ps1' ps' od' y dy vs' nn add h' tk gn hs F1 (news_sub N1 (by (try unfold key8); (repeat' (first | with_reducible exact sbs_nil | with_reducible refine sbs_cons ?_ ?_ | with_reducible refine sbs_app ?_ ?_)); all_goals (repeat' (first | with_reducible exact List.Mem.head _ | with_reducible exact sbs_refl | with_reducible refine List.Mem.tail _ ?_ | with_reducible refine sbs_tail ?_ | with_reducible exact sbs_right | with_reducible refine sbs_left ?_ | with_reducible refine mem_right9 ?_)))) q1 q2 q3 q4 ?_ ?_ (fun p hp => (q5 p hp).2) ?_ (Nat.ne_of_gt ltd) q7
    · exact fun p hp q hq' => Nat.ne_of_gt (Nat.lt_of_lt_of_le (TopLe.lt (d := top _) (Nat.le_refl _) q (sub9 q hq')) (q5 p hp).1)
    · exact lt0 (L + 1 + 1 + 1 + 1 + 1, o5) (.tail _ (.tail _ (.tail _ (.tail _ (.head _)))))
    · exact fun p hp => Nat.ne_of_lt (lt0 p (.tail _ (.tail _ (.tail _ (.tail _ (List.mem_append_right [_, _, _, _, _, _] hp))))))
end

/- part MLk -/
section
/-! The plain law: what is left behind the taken lists, as a list of rows. -/
section
variable {rows : List Row} {m : Nat} {D : List (Nat × Nat)}
def left (rows : List Row) (p : Nat → Bool) : List Row := krows (rowAt rows) p rows.length
theorem left_len (rows : List Row) (p : Nat → Bool) : (left rows p).length = rk p rows.length := krows_len _ _ _
theorem kix_len_le (p : Nat → Bool) : ∀ n, (kix p n).length ≤ n := fun n => by
  unfold kix; have := List.length_filter_le p (List.range n); simpa using this
theorem left_le (rows : List Row) (p : Nat → Bool) : (left rows p).length ≤ rows.length := by rw [left_len]; exact kix_len_le p _
theorem rowAt_mem {rows : List Row} {j : Nat} (h : j < rows.length) : rowAt rows j ∈ rows := by
  unfold rowAt; rw [List.getD_eq_getElem?_getD, List.getElem?_eq_getElem h]; exact List.getElem_mem h
theorem left_mem {p : Nat → Bool} {r : Row} (h : r ∈ left rows p) : r ∈ rows := by
  unfold left krows at h
  obtain ⟨j, hj, rfl⟩ := List.mem_map.mp h
  exact rowAt_mem (mem_kix.mp hj).1
theorem codes_all (F : BlF rows m) : ∀ r ∈ rows, r.1 ∈ vCodes := by
  intro r hr
  obtain ⟨j, hj, rfl⟩ := List.getElem_of_mem hr
  have e : rowAt rows j = rows[j] := by unfold rowAt; rw [List.getD_eq_getElem?_getD, List.getElem?_eq_getElem hj]; rfl
  rw [← e]
  cases j with
  | zero => rw [F.hd]; decide
  | succ j =>
    rcases F.cod (j + 1) (by omega) hj with h | h | h | h
    · rw [h]; decide
    · rw [h]; decide
    · rw [h]; decide
    · rw [h]; decide
theorem kept_zero (F : BlF rows m) (hD : ∀ q ∈ D, IsP (rowAt rows) rows.length q.1 q.2) : kept D 0 = true := by
  rw [kept_iff]
  intro q hq hc
  have P := hD q hq
  have e : q.1 = 0 := by omega
  have := P.nm
  rw [e, F.hd] at this
  exact absurd this (by decide)
theorem kix_cons {p : Nat → Bool} (h : p 0 = true) : ∀ n, ∃ r, kix p (n + 1) = 0 :: r := fun n => by
  unfold kix
  rw [List.range_succ_eq_map, List.filter_cons, if_pos h]
  exact ⟨_, rfl⟩
theorem left_head (F : BlF rows m) (hD : ∀ q ∈ D, IsP (rowAt rows) rows.length q.1 q.2) : ∃ r, left rows (kept D) = (1001, .s (Str.ofString "APP")) :: r := by
  unfold left krows
  obtain ⟨n, e⟩ : ∃ n, rows.length = n + 1 := ⟨rows.length - 1, by have := F.pos; omega⟩
  obtain ⟨r, er⟩ := kix_cons (kept_zero F hD) n
  rw [e, er, List.map_cons, F.hd]
  exact ⟨_, rfl⟩
theorem left_at {p : Nat → Bool} : ∀ n i, i < (kix p n).length → ∃ j, j < n ∧ p j = true ∧ rk p j = i
  | 0, i, h => by simp [kix] at h
  | n + 1, i, h => by
    cases hp : p n with
    | false =>
      rw [kix_f hp] at h
      obtain ⟨j, a, b, c⟩ := left_at n i h
      exact ⟨j, by omega, b, c⟩
    | true =>
      rw [kix_t hp] at h
      rw [List.length_append, List.length_singleton] at h
      rcases Nat.lt_or_ge i (kix p n).length with h1 | h1
      · obtain ⟨j, a, b, c⟩ := left_at n i h1
        exact ⟨j, by omega, b, c⟩
      · exact ⟨n, by omega, hp, by unfold rk; omega⟩
theorem left_next (F : BlF rows m) (hD : ∀ q ∈ D, IsP (rowAt rows) rows.length q.1 q.2) {x : Str} : ∀ i, i < (left rows (kept D)).length → rowAt (left rows (kept D)) i = (1000, .s x) → i + 1 < (left rows (kept D)).length := by
  intro i hi hr
  have S := F.shaped
  rw [left_len] at hi ⊢
  obtain ⟨j, hj, hk, rfl⟩ := left_at rows.length i hi
  have e : rowAt (left rows (kept D)) (rk (kept D) j) = rowAt rows j := krows_at (rowAt rows) hj hk
  rw [e] at hr
  have hn := kept_next S hD hj hk (by rw [hr])
  have h2 := (F.nx j hj (by rw [hr])).1
  have h3 := rk_mono (kept D) (i := j + 1 + 1) (j := rows.length) (by omega)
  rw [rk_t hn, rk_t hk] at h3
  omega
theorem left_ok (F : BlF rows m) {p : Nat → Bool} : ∀ r ∈ left rows p, rowOk r = true := fun r hr => F.ok r (left_mem hr)
theorem left_codes (F : BlF rows m) {p : Nat → Bool} : ∀ r ∈ left rows p, r.1 ∈ vCodes := fun r hr => codes_all F r (left_mem hr)
theorem kix_take {p : Nat → Bool} {l h n : Nat} (h1 : l ≤ h) (h2 : h ≤ n) : (kix p n).take (rk p l) ++ (kix p n).drop (rk p h) = kix (fun j => p j && !(decide (l ≤ j) && decide (j < h))) n := by
  rw [kix_rest p h1 h2]
  unfold kix
  rw [List.filter_filter]
  congr 1
  funext j
  rw [Bool.and_comm]
theorem left_cut {p : Nat → Bool} {l h b e : Nat} (h1 : l ≤ h) (h2 : h ≤ rows.length) (hb : b = rk p l) (he : e + 1 = rk p h) :
    cutRows (left rows p) b e = left rows (fun j => p j && !(decide (l ≤ j) && decide (j < h))) := by
  unfold cutRows left krows
  rw [he, hb, ← List.map_take, ← List.map_drop, ← List.map_append, kix_take h1 h2]
theorem left_told {p : Nat → Bool} {l h b e : Nat} (h1 : l ≤ h) (h2 : h ≤ rows.length) (hb : b = rk p l) (he : e + 1 = rk p h) :
    ((left rows p).drop b).take (e + 1 - b) = ((kix p rows.length).filter fun j => decide (l ≤ j) && decide (j < h)).map (rowAt rows) := by
  unfold left krows
  rw [he, hb, ← List.map_drop, ← List.map_take, ← kix_cut p h1 h2, List.drop_take]
theorem kix_nil (rows : List Row) (n : Nat) : kix (kept (Dof (prOf rows) [])) n = List.range n := by
  unfold kix
  exact List.filter_eq_self.mpr fun _ _ => rfl
theorem left_all (rows : List Row) : left rows (kept (Dof (prOf rows) [])) = rows := krows_all rows
end
theorem drStep_len (d : Dr) (n : Int) : d.rows.length ≤ (drStep d n).rows.length := by
  unfold drStep
  split
  · simp
  · split
    · simp
    · split <;> simp
theorem fold_len : ∀ (ns : List Int) (d : Dr), d.rows.length ≤ (ns.foldl drStep d).rows.length
  | [], _ => Nat.le_refl _
  | n :: ns, d => Nat.le_trans (drStep_len d n) (fold_len ns (drStep d n))
theorem drawn_ge (ns : List Int) : 3 ≤ (drawn ns).length := by
  have h : 3 ≤ (drFold ns).rows.length := fold_len (ns.take 10) drInit
  unfold drawn
  split
  · rw [List.length_append]; omega
  · exact h
def APP : Str := Str.ofString "APP"
def REST : Str := Str.ofString "REST"
theorem rest_out {rows : List Row} {m : Nat} (F : BlF rows m) (h : 2 ≤ rows.length) : outRows rows.tail REST = (1001, .s REST) :: rows.tail := by
  unfold outRows
  rw [if_neg]
  match rows, h with
  | r :: q :: t, _ =>
    have := F.cod 1 (Nat.le_refl _) (by simp)
    have e : rowAt (r :: q :: t) 1 = q := rfl
    rw [e] at this
    intro hc
    have hq : q = (1001, .s REST) := by simpa using hc
    subst hq
    rcases this with a | a | a | a <;> exact absurd a (by decide)
end

/- part MLg -/
section
/-! The state of the law's frame between the turns. -/
inductive StrsIn : List Value → List Str → Prop
  | nil : StrsIn [] []
  | cons {x : Str} {t : Tok} {vs : List Value} {xs : List Str} : StrsIn vs xs → StrsIn (.str x t :: vs) (x :: xs)
theorem StrsIn.length {vs : List Value} {xs : List Str} (h : StrsIn vs xs) : vs.length = xs.length := by
  induction h with
  | nil => rfl
  | cons _ ih => simp [ih]
theorem StrsIn.get {vs : List Value} {xs : List Str} (h : StrsIn vs xs) : ∀ {i : Nat} {x : Str}, xs[i]? = some x → ∃ t, vs[i]? = some (.str x t) := by
  induction h with
  | nil => intro i x e; simp at e
  | cons _ ih =>
    intro i x e
    cases i with
    | zero => simp at e; subst e; exact ⟨_, rfl⟩
    | succ i => simpa using ih (by simpa using e)
theorem StrsIn.snoc {vs : List Value} {xs : List Str} (h : StrsIn vs xs) {x : Str} {t : Tok} : StrsIn (vs ++ [.str x t]) (xs ++ [x]) := by
  induction h with
  | nil => exact .cons .nil
  | cons _ ih => exact .cons ih
structure Fx where
  rl : Addr
  rvs : List Value
  nr : Nat
  d1 : Addr
  od1 : Obj
  d2 : Addr
  od2 : Obj
  al : Addr
  avs : List Value
  na : Nat
  xo : Addr
  xd : Addr
  d : Addr
  tkx : Tok
  nx : Nat
  xo2 : Addr
  xd2 : Addr
  dd2 : Addr
  odd2 : Obj
  tkx2 : Tok
  nx2 : Nat
  l2 : Addr
  dl2 : Addr
  vs2 : List Value
  n2 : Nat
  l3 : Addr
  dl3 : Addr
  vs3 : List Value
  n3 : Nat
  o1 : Obj
  o2 : Obj
structure Fixed (w : World) (L : Addr) (rows : List Row) (x : Fx) (R : List (Addr × Obj)) : Prop where
  rl_in : (x.rl, listOf x.rvs.toArray x.nr) ∈ R
  rl_is : RowsIn R x.rvs rows
  d1_in : (x.d1, x.od1) ∈ R
  d1_is : DictIs Challenge.rw_fy0015_01.row.toRowW.1 w R x.od1 (prOf rows).opened
  d2_in : (x.d2, x.od2) ∈ R
  d1_100 : @LT.lt Nat _ 100 x.d1
  d2_100 : @LT.lt Nat _ 100 x.d2
  d2_is : DictIs Challenge.rw_fy0015_01.row.toRowW.1 w R x.od2 (prOf rows).pairs
  al_in : (x.al, listOf x.avs.toArray x.na) ∈ R
  al_is : IntsAre x.avs (natDat ((prOf rows).alone ++ (prOf rows).begun))
  xo_in : (x.xo, instObj 525 x.xd) ∈ R
  xd_in : (x.xd, xAttrs w x.tkx x.d x.nx) ∈ R
  xo2_in : (x.xo2, instObj 525 x.xd2) ∈ R
  xd2_in : (x.xd2, xAttrs w x.tkx2 x.dd2 x.nx2) ∈ R
  dd2_in : (x.dd2, x.odd2) ∈ R
  dd2_is : x.odd2.IsDictOf (strKind Challenge.rw_fy0015_01.row.toRowW.1 w) [(APP, .ref x.l3)]
  dd2_100 : @LT.lt Nat _ 100 x.dd2
  l3_in : (x.l3, tagsObj x.dl3 x.vs3 x.n3) ∈ R
  l3_is : TagsIn R x.vs3 rows
  l2_in : (x.l2, tagsObj x.dl2 x.vs2 x.n2) ∈ R
  l2_is : TagsIn R x.vs2 ((1001, .s REST) :: rows.tail)
  c1 : x.o1.data = .cell (some (.ref x.rl))
  c2 : x.o2.data = .cell (some (.ref x.d2))
  d5 : @LT.lt Nat _ (c5a L) x.d
theorem Fixed.mono {w : World} {L : Addr} {rows : List Row} {x : Fx} {R R' : List (Addr × Obj)} (h : Fixed w L rows x R) (hs : ∀ p ∈ R, p ∈ R') : Fixed w L rows x R' :=
  { h with
    rl_in := hs _ h.rl_in, rl_is := h.rl_is.mono hs, d1_in := hs _ h.d1_in, d1_is := h.d1_is.mono hs, d2_in := hs _ h.d2_in, d2_is := h.d2_is.mono hs, al_in := hs _ h.al_in, xo_in := hs _ h.xo_in, xd_in := hs _ h.xd_in,
    xo2_in := hs _ h.xo2_in, xd2_in := hs _ h.xd2_in, dd2_in := hs _ h.dd2_in, l3_in := hs _ h.l3_in, l3_is := h.l3_is.mono hs, l2_in := hs _ h.l2_in, l2_is := h.l2_is.mono hs }
structure St where
  o5 : Obj
  o4 : Obj
  o3 : Obj
  ps1 : Array Value
  ps : Array Value
  ps2 : Array Value
  od : Obj
  l : Addr
  dl : Addr
  vs : List Value
  n : Nat
  lf : Addr
  lvs : List Value
  nl : Nat
  rs : Addr
  svs : List Value
  ns : Nat
abbrev remain (rows : List Row) (xs : List Str) : Nat → Bool := kept (Dof (prOf rows) xs)
/-- the whole ledger -/
def led (L : Addr) (x : Fx) (y : St) (R : List (Addr × Obj)) : List (Addr × Obj) := key8 L y.o5 y.o4 y.o3 x.o2 x.o1 y.ps1 y.ps y.ps2 ((x.d, y.od) :: (y.l, tagsObj y.dl y.vs y.n) :: R)
structure Off (L d' l' : Addr) (R : List (Addr × Obj)) : Prop where
  c5 : ∀ p ∈ R, p.1 ≠ L + 1 + 1 + 1 + 1 + 1
  c4 : ∀ p ∈ R, p.1 ≠ L + 1 + 1 + 1 + 1
  c3 : ∀ p ∈ R, p.1 ≠ L + 1 + 1 + 1
  t1 : ∀ p ∈ R, p.1 ≠ 468
  t2 : ∀ p ∈ R, p.1 ≠ 408
  t3 : ∀ p ∈ R, p.1 ≠ 201
  d : ∀ p ∈ R, p.1 ≠ d'
  l : ∀ p ∈ R, p.1 ≠ l'
theorem all_app {P : Addr × Obj → Prop} {a b : List (Addr × Obj)} (h : ∀ p ∈ a, P p) (k : ∀ p ∈ b, P p) : ∀ p ∈ a ++ b, P p := fun p hp => (List.mem_append.mp hp).elim (h p) (k p)
theorem Off.app {L d' l' : Addr} {a R : List (Addr × Obj)} (h : Off L d' l' a) (k : Off L d' l' R) : Off L d' l' (a ++ R) :=
  ⟨all_app h.c5 k.c5, all_app h.c4 k.c4, all_app h.c3 k.c3, all_app h.t1 k.t1, all_app h.t2 k.t2, all_app h.t3 k.t3, all_app h.d k.d, all_app h.l k.l⟩
theorem Off.of {L : Addr} {x : Fx} {y : St} {a R : List (Addr × Obj)} (h : Apart a (led L x y R)) : Off L x.d y.l a := by
  have k : ∀ q ∈ led L x y R, ∀ p ∈ a, p.1 ≠ q.1 := fun q hq p hp => h p hp q hq
  unfold led key8 at k
  exact ⟨k _ (.head _), k _ (.tail _ (.head _)), k _ (.tail _ (.tail _ (.head _))), k _ (.tail _ (.tail _ (.tail _ (.tail _ (.tail _ (.head _)))))), k _ (.tail _ (.tail _ (.tail _ (.tail _ (.tail _ (.tail _ (.head _))))))),
    k _ (.tail _ (.tail _ (.tail _ (.tail _ (.tail _ (.tail _ (.tail _ (.head _)))))))), k _ (.tail _ (.tail _ (.tail _ (.tail _ (.tail _ (.tail _ (.tail _ (.tail _ (.head _))))))))), k _ (.tail _ (.tail _ (.tail _ (.tail _ (.tail _ (.tail _ (.tail _ (.tail _ (.tail _ (.head _))))))))))⟩
theorem apart_of_top {a l : List (Addr × Obj)} (h : ∀ p ∈ a, top l ≤ p.1) : Apart a l := fun p hp q hq => Nat.ne_of_gt (Nat.lt_of_lt_of_le (TopLe.lt (d := top l) (Nat.le_refl _) q hq) (h p hp))
theorem Apart.sub {a l l' : List (Addr × Obj)} (h : Apart a l) (hs : ∀ p ∈ l', p ∈ l) : Apart a l' := fun p hp q hq => h p hp q (hs q hq)
theorem led_sub {L : Addr} {x : Fx} {y : St} {a R : List (Addr × Obj)} : ∀ p ∈ led L x y (a ++ R), p ∈ a ++ led L x y R := by
  unfold led; exact (by (try unfold key8); (repeat' (first | with_reducible exact sbs_nil | with_reducible refine sbs_cons ?_ ?_ | with_reducible refine sbs_app ?_ ?_)); all_goals (repeat' (first | with_reducible exact List.Mem.head _ | with_reducible exact sbs_refl | with_reducible refine List.Mem.tail _ ?_ | with_reducible refine sbs_tail ?_ | with_reducible exact sbs_right | with_reducible refine sbs_left ?_ | with_reducible refine mem_right9 ?_)))
theorem led_R {L : Addr} {x : Fx} {y : St} {R : List (Addr × Obj)} : ∀ p ∈ R, p ∈ led L x y R := by
  unfold led; exact (by (try unfold key8); (repeat' (first | with_reducible exact sbs_nil | with_reducible refine sbs_cons ?_ ?_ | with_reducible refine sbs_app ?_ ?_)); all_goals (repeat' (first | with_reducible exact List.Mem.head _ | with_reducible exact sbs_refl | with_reducible refine List.Mem.tail _ ?_ | with_reducible refine sbs_tail ?_ | with_reducible exact sbs_right | with_reducible refine sbs_left ?_ | with_reducible refine mem_right9 ?_)))
/-- what changes from turn to turn; xs: the names taken, rem: the names left -/
structure Now (w : World) (L : Addr) (rows : List Row) (x : Fx) (i : Nat) (xs rem : List Str) (y : St) (R : List (Addr × Obj)) : Prop where
  c5 : ∃ v, y.o5.data = .cell v
  c4 : ∃ v, y.o4.data = .cell v
  c3 : ∃ v, y.o3.data = .cell v
  p1 : TriplesOk y.ps1.toList
  p : TriplesOk y.ps.toList
  p2 : TriplesOk y.ps2.toList
  od_is : y.od.IsDictOf (strKind Challenge.rw_fy0015_01.row.toRowW.1 w) [(APP, .ref y.l), (REST, .ref x.l2)]
  l5 : @LT.lt Nat _ (c5a L) y.l
  ld : @Ne Nat y.l x.d
  off : Off L x.d y.l R
  tags : TagsIn R y.vs (left rows (remain rows xs))
  lf_in : (y.lf, listOf y.lvs.toArray y.nl) ∈ R
  lf_is : IntsAre y.lvs (natDat (kix (remain rows xs) rows.length))
  rs_in : (y.rs, listOf y.svs.toArray y.ns) ∈ R
  rs_is : StrsIn y.svs rem
  rem_nd : rem.Nodup
  rem_len : rem.length + i = 4
  rem_nm : ∀ s ∈ rem, ∃ k, k < 4 ∧ s = nm k
  all_nm : ∀ k, k < 4 → nm k ∈ xs ∨ nm k ∈ rem
def frame (scr : Addr) (x : Fx) (y : St) : List (Str × Value) := [(Str.ofString "script", .ref scr), (Str.ofString "opened", .ref x.d1), (Str.ofString "alone", .ref x.al), (Str.ofString "held", .ref x.xo), (Str.ofString "second", .ref x.xo2), (Str.ofString "left", .ref y.lf), (Str.ofString "rest", .ref y.rs)]
def LJ (w : World) (L : Addr) (rows : List Row) (scr : Addr) (x : Fx) (i : Nat) (m : Str → Option Value) (nx : List (Addr × Obj)) : Prop :=
  ∃ u y xs rem R, m = upds (frame scr x y) u ∧ Fixed w L rows x R ∧ Now w L rows x i xs rem y R ∧ ∀ q ∈ led L x y R, q ∈ nx
end

/- part MLo -/
section
def TurnEndG (s₀ : Shared) (h₀ : Heap) (L I : Addr) (oI : Obj) (Jn : (Str → Option Value) → List (Addr × Obj) → Prop) (Q : Flow → Shared → Prop) (f : Flow) (s₂ : Shared) : Prop := match f with
  | .ret v => Q (.ret v) s₂
  | .brk => Q .next s₂
  | _ => ∃ h' tk' gn' m' nx', s₂ = gSt s₀ h' tk' gn' ∧ (AllBare s₀.gens → AllBare gn') ∧ Fr h₀ L h' m' ∧ News h₀ L h' ((I, oI) :: nx') ∧ (∀ p ∈ nx', p.1 ≠ I) ∧ Jn m' nx'
section
variable {prog : Program} {w : World} {A : Around} {E : Value → Shared → Prop} {s : Shared} {env : Env} {h₀ : Heap}
theorem for_rangeG {x : Str} {px : Pos} {body : List Stmt} {r : Addr} {a b : Int} {t u v : Tok} {n : Nat} {Q : Flow → Shared → Prop} {m₀ : Str → Option Value} {nx₀ : List (Addr × Obj)}
    (hh : A.handled = none) (hx : env.kindOf x = some .local) (hp : (env.scope.kind == .class || (env.scope.kind == .module && env.locals != env.globals)) = false)
    (hr : IsRange s.heap r a b 1 t u v) (hsmall : Builtin.Range.small a b 1 = true) (hsz : Builtin.Range.rangeSize a b 1 = (n : Int))
    (J : Nat → (Str → Option Value) → List (Addr × Obj) → Prop)
    (F : Fr h₀ env.locals s.heap m₀) (N : News h₀ env.locals s.heap nx₀) (hJ : J 0 m₀ nx₀) (hE : PassesOwn (model prog w) A env E)
    (turn : ∀ i k m nx I oI h tk gn, i < n → J i m nx → s.heap.objs.size ≤ I → (∀ p ∈ nx, p.1 ≠ I) → Fr h₀ env.locals h (fun y => if y = x then some (.int (a + (i : Int)) k) else m y) → News h₀ env.locals h ((I, oI) :: nx) → (AllBare s.gens → AllBare gn) →
      wpAny (model prog w) A (execs body env) (TurnEndG s h₀ env.locals I oI (J (i + 1)) Q) E (gSt s h tk gn))
    (done : ∀ m nx h tk gn, J n m nx → Fr h₀ env.locals h m → News h₀ env.locals h nx → (AllBare s.gens → AllBare gn) → Q .next (gSt s h tk gn)) :
    ForAt prog w A env x px body Q E (.ref r) s := by
  refine wpAny_pyIter_range hr hsmall ?_
  have F1 := F.push (o := { cls := .type "range_iterator", data := .fields #[rawInt a, rawInt (Builtin.Range.rangeSize a b 1), rawInt 1] })
  have N1 := N.push F { cls := .type "range_iterator", data := .fields #[rawInt a, rawInt (Builtin.Range.rangeSize a b 1), rawInt 1] }
  have W : Walks prog w A s.heap.objs.size [s.heap.objs.size] [s.heap.objs.size] n _ _ := Walks.range hh s.heap.objs.size a 1 n
  refine codeAny_forLoop
    (fun k s' => ∃ h tk gn m nx oI i, s' = gSt s h tk gn ∧ (AllBare s.gens → AllBare gn) ∧ i ≤ n ∧ k = n + 1 - i ∧ Fr h₀ env.locals h m ∧ News h₀ env.locals h ((s.heap.objs.size, oI) :: nx) ∧ oI = { cls := .type "range_iterator", data := .fields #[rawInt (a + (i : Nat) * 1), rawInt ((n : Int) - (i : Nat)), rawInt 1] } ∧ (∀ p ∈ nx, p.1 ≠ s.heap.objs.size) ∧ J i m nx) ?_ (n + 1)
    ⟨_, s.toks, s.gens, m₀, nx₀, _, 0, rfl, id, Nat.zero_le _, rfl, F1, N1, by rw [hsz]; simp, fun p hp => Nat.ne_of_lt (Heap.lt_size (N p hp).1), hJ⟩
  rintro k s' ⟨h, tk, gn, m, nx, oI, i, rfl, hb, hi, rfl, F, N, he, hoff, hJ⟩
  have hI := N (s.heap.objs.size, oI) List.mem_cons_self
  have Nt : News h₀ env.locals h nx := fun p hp => N p (List.mem_cons_of_mem _ hp)
  have nxt : ∀ h₁ : Heap, (∀ b o, b ∉ [s.heap.objs.size] → h.get? b = some o → h₁.get? b = some o) → Fr h₀ env.locals h₁ m ∧ News h₀ env.locals h₁ nx := fun h₁ hk =>
    ⟨⟨F.ns.at' fun o e => hk _ o (fun q => hI.2.1 (List.mem_singleton.mp q).symm) e, fun b o e => hk b o (fun q => by rw [List.mem_singleton.mp q, hI.2.2] at e; cases e) (F.keep b o e), F.above⟩,
     fun p hp => ⟨hk _ _ (fun q => hoff p hp (List.mem_singleton.mp q)) (Nt p hp).1, (Nt p hp).2⟩⟩
  have st := hI.1
  rw [he] at st
  by_cases hlt : i < n
  · refine W.item i _ _ _ hlt st fun v h₁ tk₁ hP st₁ hk => ?_
    obtain ⟨kt, rfl⟩ := hP
    obtain ⟨F₁, N₁⟩ := nxt h₁ hk
    have N₁' : News h₀ env.locals h₁ ((s.heap.objs.size, { cls := .type "range_iterator", data := .fields #[rawInt (a + ((i + 1 : Nat) : Nat) * 1), rawInt ((n : Int) - ((i + 1 : Nat) : Nat)), rawInt 1] }) :: nx) := fun p hp => by
      rcases List.mem_cons.mp hp with rfl | hp
      · exact ⟨st₁, hI.2⟩
      · exact N₁ p hp
    refine wpAny_assign_Name (wpAny_storeName_local hx F₁.ns (fun h₂ hn₂ hs₂ => ?_) hp)
    have F₂ := F₁.set hn₂ hs₂
    rw [Int.mul_one] at F₂
    refine wpAny_passesOwn hE (wpAny_mono (turn i kt m nx s.heap.objs.size _ h₂ (tk₁ + 1) gn hlt hJ (Nat.le_refl _) hoff F₂ (N₁'.set hs₂) hb) (fun f s₃ z => ?_) fun _ _ e => e)
    have fin : (∃ h' tk' gn' m' nx', s₃ = gSt s h' tk' gn' ∧ (AllBare s.gens → AllBare gn') ∧ Fr h₀ env.locals h' m' ∧ News h₀ env.locals h' ((s.heap.objs.size, { cls := .type "range_iterator", data := .fields #[rawInt (a + ((i + 1 : Nat) : Nat) * 1), rawInt ((n : Int) - ((i + 1 : Nat) : Nat)), rawInt 1] }) :: nx') ∧ (∀ p ∈ nx', p.1 ≠ s.heap.objs.size) ∧ J (i + 1) m' nx') →
        ∃ k', k' < n + 1 - i ∧ ∃ h tk gn m nx oI i, s₃ = gSt s h tk gn ∧ (AllBare s.gens → AllBare gn) ∧ i ≤ n ∧ k' = n + 1 - i ∧ Fr h₀ env.locals h m ∧ News h₀ env.locals h ((s.heap.objs.size, oI) :: nx) ∧ oI = { cls := .type "range_iterator", data := .fields #[rawInt (a + (i : Nat) * 1), rawInt ((n : Int) - (i : Nat)), rawInt 1] } ∧ (∀ p ∈ nx, p.1 ≠ s.heap.objs.size) ∧ J i m nx := by
      rintro ⟨h', tk', gn', m', nx', rfl, hb', F', N', ho', hJ'⟩
      exact ⟨n + 1 - (i + 1), by omega, h', tk', gn', m', nx', _, i + 1, rfl, hb', hlt, rfl, F', N', rfl, ho', hJ'⟩
    cases f with
    | ret v => exact z
    | brk => exact z
    | cont => exact fin z
    | next => exact fin z
  · have hin : i = n := by omega
    subst hin
    refine W.done _ _ _ st fun h₁ tk₁ hk => wpAny_execs_nil ?_
    obtain ⟨F₁, N₁⟩ := nxt h₁ hk
    exact done m nx h₁ tk₁ gn hJ F₁ N₁ hb
end
end

/- part MLc -/
end
theorem fresh_MLc : True ∧ True := by
  w_top off
  first
    | (walk1; done)
    | exact ⟨True.intro, True.intro⟩
section
local macro_rules | `(tactic| walk_at "compareOp Eq ref ref") => `(tactic| (k_here; (with_reducible show wpAny _ _ (compareOp CmpOp.Eq (Value.ref _) (Value.ref _)) _ _ _); k_dflt (first
  | (refine' eq_row_t ?N ?a ?s ?b ?c ?d ?e ?_; (case N => k_asm); (case a => with_reducible assumption); (case s => (intro p hp; repeat (first | exact hp | exact List.mem_append_right _ hp | refine List.Mem.tail _ ?_))); (case b => k_mem); (case c => with_reducible assumption); (case d => with_reducible assumption); (case e => k_units); k_whole)
  | (refine' eq_row_f ?N ?a ?s ?b ?c ?d ?f ?e ?_; (case N => k_asm); (case a => with_reducible assumption); (case s => (intro p hp; repeat (first | exact hp | exact List.mem_append_right _ hp | refine List.Mem.tail _ ?_))); (case b => k_mem); (case c => with_reducible assumption); (case d => with_reducible assumption); (case f => first | exact ok_open | exact ok_close | with_reducible assumption); (case e => k_units); k_whole)
  | (refine' eq_nil_t ?N ?a ?b ?c ?e ?_; (case N => k_asm); (case a => k_mem); (case b => k_mem); (case c => with_reducible assumption); (case e => k_units); k_whole)
  | (refine' eq_nil_f ?N ?a ?b ?c ?e ?_; (case N => k_asm); (case a => k_mem); (case b => k_mem); (case c => with_reducible assumption); (case e => k_units); k_whole))))
local macro_rules | `(tactic| walk_at "subscriptTail Name Name ref int") => `(tactic| (k_here; first
  | ((with_reducible show wpAny _ _ (subscriptTail _ _ (Value.ref _) (Value.int (-1) _)) _ _ _); k_dflt (refine' item_last ?N ?a ?_; (case N => k_asm); (case a => k_mem); k_whole))
  | ((with_reducible show wpAny _ _ (subscriptTail _ _ (Value.ref _) (Value.int _ _)) _ _ _); k_dflt (refine' item_at ?N ?a ?b ?c ?d ?_; (case N => k_asm); (case a => k_mem); (case d => with_reducible assumption); (case b => omega); (case c => omega); k_whole))))
local macro_rules | `(tactic| walk_at "subscriptTail Name BinOp ref int") => `(tactic| (k_here; first
  | ((with_reducible show wpAny _ _ (subscriptTail _ _ (Value.ref _) (Value.int (-1) _)) _ _ _); k_dflt (refine' item_last ?N ?a ?_; (case N => k_asm); (case a => k_mem); k_whole))
  | ((with_reducible show wpAny _ _ (subscriptTail _ _ (Value.ref _) (Value.int _ _)) _ _ _); k_dflt (refine' item_at ?N ?a ?b ?c ?d ?_; (case N => k_asm); (case a => k_mem); (case d => with_reducible assumption); (case b => omega); (case c => omega); k_whole))))
local macro_rules | `(tactic| walk_at "subscriptTail Name Constant ref int") => `(tactic| (k_here; first
  | ((with_reducible show wpAny _ _ (subscriptTail _ _ (Value.ref _) (Value.int (-1) _)) _ _ _); k_dflt (refine' item_last ?N ?a ?_; (case N => k_asm); (case a => k_mem); k_whole))
  | ((with_reducible show wpAny _ _ (subscriptTail _ _ (Value.ref _) (Value.int _ _)) _ _ _); k_dflt (refine' item_at ?N ?a ?b ?c ?d ?_; (case N => k_asm); (case a => k_mem); (case d => with_reducible assumption); (case b => omega); (case c => omega); k_whole))))
local macro_rules | `(tactic| walk_at "subscriptTail Name UnaryOp ref int") => `(tactic| (k_here; first
  | ((with_reducible show wpAny _ _ (subscriptTail _ _ (Value.ref _) (Value.int (-1) _)) _ _ _); k_dflt (refine' item_last ?N ?a ?_; (case N => k_asm); (case a => k_mem); k_whole))
  | ((with_reducible show wpAny _ _ (subscriptTail _ _ (Value.ref _) (Value.int _ _)) _ _ _); k_dflt (refine' item_at ?N ?a ?b ?c ?d ?_; (case N => k_asm); (case a => k_mem); (case d => with_reducible assumption); (case b => omega); (case c => omega); k_whole))))
local macro_rules | `(tactic| walk_at "subscriptTail Subscript Name ref int") => `(tactic| (k_here; first
  | ((with_reducible show wpAny _ _ (subscriptTail _ _ (Value.ref _) (Value.int (-1) _)) _ _ _); k_dflt (refine' item_last ?N ?a ?_; (case N => k_asm); (case a => k_mem); k_whole))
  | ((with_reducible show wpAny _ _ (subscriptTail _ _ (Value.ref _) (Value.int _ _)) _ _ _); k_dflt (refine' item_at ?N ?a ?b ?c ?d ?_; (case N => k_asm); (case a => k_mem); (case d => with_reducible assumption); (case b => omega); (case c => omega); k_whole))))
local macro_rules | `(tactic| walk_at "subscriptTail Subscript BinOp ref int") => `(tactic| (k_here; first
  | ((with_reducible show wpAny _ _ (subscriptTail _ _ (Value.ref _) (Value.int (-1) _)) _ _ _); k_dflt (refine' item_last ?N ?a ?_; (case N => k_asm); (case a => k_mem); k_whole))
  | ((with_reducible show wpAny _ _ (subscriptTail _ _ (Value.ref _) (Value.int _ _)) _ _ _); k_dflt (refine' item_at ?N ?a ?b ?c ?d ?_; (case N => k_asm); (case a => k_mem); (case d => with_reducible assumption); (case b => omega); (case c => omega); k_whole))))
local macro_rules | `(tactic| walk_at "subscriptTail Subscript Constant ref int") => `(tactic| (k_here; first
  | ((with_reducible show wpAny _ _ (subscriptTail _ _ (Value.ref _) (Value.int (-1) _)) _ _ _); k_dflt (refine' item_last ?N ?a ?_; (case N => k_asm); (case a => k_mem); k_whole))
  | ((with_reducible show wpAny _ _ (subscriptTail _ _ (Value.ref _) (Value.int _ _)) _ _ _); k_dflt (refine' item_at ?N ?a ?b ?c ?d ?_; (case N => k_asm); (case a => k_mem); (case d => with_reducible assumption); (case b => omega); (case c => omega); k_whole))))
local macro_rules | `(tactic| walk_at "subscriptTail Subscript UnaryOp ref int") => `(tactic| (k_here; first
  | ((with_reducible show wpAny _ _ (subscriptTail _ _ (Value.ref _) (Value.int (-1) _)) _ _ _); k_dflt (refine' item_last ?N ?a ?_; (case N => k_asm); (case a => k_mem); k_whole))
  | ((with_reducible show wpAny _ _ (subscriptTail _ _ (Value.ref _) (Value.int _ _)) _ _ _); k_dflt (refine' item_at ?N ?a ?b ?c ?d ?_; (case N => k_asm); (case a => k_mem); (case d => with_reducible assumption); (case b => omega); (case c => omega); k_whole))))
local macro_rules | `(tactic| walk_at "setItem ref str") => `(tactic| (k_here; k_dflt (refine' dset ?F ?N ?U ?d ?z ?_; (case F => k_asm); (case N => k_asm); (case U => k_updF); (case d => with_reducible assumption); (case z => omega); k_whole); intro h' o' F' N' hd'; (try dsimp only at N'); (try k_sweep)))
local macro_rules | `(tactic| walk_at "call builtin:len") => `(tactic| (k_here; (with_reducible show wpAny _ _ (call (Value.builtin "len") [Value.ref _]) _ _ _); k_dflt (refine' len_at ?k1 ?k2 ?k3 ?_; (case k1 => k_asm); (case k2 => k_mem); (case k3 => omega); k_whole)))
local macro_rules | `(tactic| walk_at "call type:range") => `(tactic| (k_here; (with_reducible show wpAny _ _ (call (Value.type "range") [Value.int _ _]) _ _ _); k_dflt (refine' range_at ?k1 ?k2 ?_; (case k1 => k_asm); (case k2 => k_asm); k_whole); intro r' t' u' v' tk' h' F' N' l1; (first | (have hlt := TopLe.head l1; dsimp only at hlt) | (have hlt := TopLe.num l1; (try simp only [top_app, Nat.max_le] at hlt))); (try k_sweep)))
local macro_rules | `(tactic| walk_at "subscriptTail Name Slice ref ref") => `(tactic| (k_here; (with_reducible show wpAny _ _ (subscriptTail _ (PySem.Expr.Slice _ _ none _) (Value.ref _) (Value.ref _)) _ _ _); k_dflt (refine' kms_slice_lit ?F ?N ?l ?p ?q rfl ?_ ?s ?t ?z; (case F => k_asm); (case N => k_asm); (case l => exact News.isList (by k_asm) (by k_mem)); (case p => kmk_part); (case q => kmk_part); (case s => with_unfolding_all rfl); (case t => kmk_pure); (case z => (simp only [List.size_toArray, sizeLine_eq]; omega))); intro D' h' F' N' l1; (try k_lt l1); (try k_sweep)))
local macro_rules | `(tactic| walk_at "call builtin:len") => `(tactic| (k_here; (with_reducible show wpAny _ _ (call (Value.builtin "len") [Value.ref _]) _ _ _); k_dflt (refine' tlen ?F ?X ?N ?a ?z ?_; (case F => k_asm); (case X => k_asm); (case N => k_asm); (case a => k_mem); (case z => with_reducible assumption); k_whole)))
local macro_rules | `(tactic| walk_at "subscriptTail Name Name ref int") => `(tactic| (k_here; (with_reducible show wpAny _ _ (subscriptTail _ _ (Value.ref _) (Value.int _ _)) _ _ _); k_dflt (refine' titem ?F ?X ?N ?a ?b ?c ?d ?_; (case F => k_asm); (case X => k_asm); (case N => k_asm); (case a => k_mem); (case d => with_reducible assumption); (case b => omega); (case c => omega); k_whole)))
local macro_rules | `(tactic| walk_at "subscriptTail Name BinOp ref int") => `(tactic| (k_here; (with_reducible show wpAny _ _ (subscriptTail _ _ (Value.ref _) (Value.int _ _)) _ _ _); k_dflt (refine' titem ?F ?X ?N ?a ?b ?c ?d ?_; (case F => k_asm); (case X => k_asm); (case N => k_asm); (case a => k_mem); (case d => with_reducible assumption); (case b => omega); (case c => omega); k_whole)))
local macro_rules | `(tactic| walk_at "subscriptTail Name Constant ref int") => `(tactic| (k_here; (with_reducible show wpAny _ _ (subscriptTail _ _ (Value.ref _) (Value.int _ _)) _ _ _); k_dflt (refine' titem ?F ?X ?N ?a ?b ?c ?d ?_; (case F => k_asm); (case X => k_asm); (case N => k_asm); (case a => k_mem); (case d => with_reducible assumption); (case b => omega); (case c => omega); k_whole)))
local macro_rules | `(tactic| walk_at "subscriptTail Name UnaryOp ref int") => `(tactic| (k_here; (with_reducible show wpAny _ _ (subscriptTail _ _ (Value.ref _) (Value.int _ _)) _ _ _); k_dflt (refine' titem ?F ?X ?N ?a ?b ?c ?d ?_; (case F => k_asm); (case X => k_asm); (case N => k_asm); (case a => k_mem); (case d => with_reducible assumption); (case b => omega); (case c => omega); k_whole)))
local macro_rules | `(tactic| walk_at "subscriptTail Subscript Name ref int") => `(tactic| (k_here; (with_reducible show wpAny _ _ (subscriptTail _ _ (Value.ref _) (Value.int _ _)) _ _ _); k_dflt (refine' titem ?F ?X ?N ?a ?b ?c ?d ?_; (case F => k_asm); (case X => k_asm); (case N => k_asm); (case a => k_mem); (case d => with_reducible assumption); (case b => omega); (case c => omega); k_whole)))
local macro_rules | `(tactic| walk_at "subscriptTail Subscript BinOp ref int") => `(tactic| (k_here; (with_reducible show wpAny _ _ (subscriptTail _ _ (Value.ref _) (Value.int _ _)) _ _ _); k_dflt (refine' titem ?F ?X ?N ?a ?b ?c ?d ?_; (case F => k_asm); (case X => k_asm); (case N => k_asm); (case a => k_mem); (case d => with_reducible assumption); (case b => omega); (case c => omega); k_whole)))
local macro_rules | `(tactic| walk_at "subscriptTail Subscript Constant ref int") => `(tactic| (k_here; (with_reducible show wpAny _ _ (subscriptTail _ _ (Value.ref _) (Value.int _ _)) _ _ _); k_dflt (refine' titem ?F ?X ?N ?a ?b ?c ?d ?_; (case F => k_asm); (case X => k_asm); (case N => k_asm); (case a => k_mem); (case d => with_reducible assumption); (case b => omega); (case c => omega); k_whole)))
local macro_rules | `(tactic| walk_at "subscriptTail Subscript UnaryOp ref int") => `(tactic| (k_here; (with_reducible show wpAny _ _ (subscriptTail _ _ (Value.ref _) (Value.int _ _)) _ _ _); k_dflt (refine' titem ?F ?X ?N ?a ?b ?c ?d ?_; (case F => k_asm); (case X => k_asm); (case N => k_asm); (case a => k_mem); (case d => with_reducible assumption); (case b => omega); (case c => omega); k_whole)))
local macro_rules | `(tactic| walk_at "getAttr ref") => `(tactic| (k_here; (with_reducible show wpAny _ _ (getAttr (Value.ref _) (PySem.Str.ofString "code") _) _ _ _); k_dflt (refine' code_specX ?cx ?F ?N ?r ?u ?a ?b ?_; (case cx => (refine' ⟨?cB, ?cX, ?cT, ?ca, ?cb, ?cc, ?cd⟩; (case ca => exact rfl); (case cb => exact rfl); (case cc => exact rfl); (case cd => exact rfl); (case cB => k_asm); (case cX => k_asm); (case cT => k_asm))); (case F => k_asm); (case N => k_asm); (case r => k_room); (case u => k_units); (case a => k_mem); (case b => k_mem); k_whole); intro h' tk' F' N'))
local macro_rules | `(tactic| walk_at "getAttr ref") => `(tactic| (k_here; (with_reducible show wpAny _ _ (getAttr (Value.ref _) (PySem.Str.ofString "value") _) _ _ _); k_dflt (refine' value_specX ?v ?cx ?F ?N ?r ?u ?a ?b ?_; (case cx => (refine' ⟨?cB, ?cX, ?cT, ?ca, ?cb, ?cc, ?cd⟩; (case ca => exact rfl); (case cb => exact rfl); (case cc => exact rfl); (case cd => exact rfl); (case cB => k_asm); (case cX => k_asm); (case cT => k_asm))); (case F => k_asm); (case N => k_asm); (case r => k_room); (case u => k_units); (case a => k_mem); (case b => k_mem); (case v => first | rfl | with_reducible assumption); k_whole); intro h' tk' F' N'))
local macro_rules | `(tactic| walk_at "call ref") => `(tactic| (k_here; (first | (with_reducible show wpAny _ _ (call (Value.ref 366) _) _ _ _) | (with_reducible show wpAny _ _ (call (Value.ref 413) _) _ _ _) | (with_reducible show wpAny _ _ (call (Value.ref 466) _) _ _ _) | (with_reducible show wpAny _ _ (call (Value.ref 473) _) _ _ _) | (with_reducible show wpAny _ _ (call (Value.ref 480) _) _ _ _) | (with_reducible show wpAny _ _ (call (Value.ref 379) _) _ _ _) | (with_reducible show wpAny _ _ (call (Value.ref 386) _) _ _ _) | (with_reducible show wpAny _ _ (call (Value.ref 406) _) _ _ _) | (with_reducible show wpAny _ _ (call (Value.ref 501) _) _ _ _) | (with_reducible show wpAny _ _ (call (Value.ref 515) _) _ _ _) | (with_reducible show wpAny _ _ (call (Value.ref 206) _) _ _ _) | (with_reducible show wpAny _ _ (call (Value.ref 536) _) _ _ _) | (with_reducible show wpAny _ _ (call (Value.ref 551) _) _ _ _) | (with_reducible show wpAny _ _ (call (Value.ref 544) _) _ _ _) | (with_reducible show wpAny _ _ (call (Value.ref 556) _) _ _ _) | (with_reducible show wpAny _ _ (call (Value.ref 563) _) _ _ _) | (with_reducible show wpAny _ _ (call (Value.ref 570) _) _ _ _) | (with_reducible show wpAny _ _ (call (Value.ref 525) _) _ _ _) ); refine stop_at ?_))
section
open PyProof.Rows.LCg PyProof.Rows.LCt
/-! The comprehensions of the law's frame. -/
def jrScope : Scope := { kind := .function, names := [(Str.ofString ".0", .local), (Str.ofString "j", .local), (Str.ofString "rows", .free)], isGenerator := false, isCoroutine := false, more := [] }
def toldScope : Scope := { kind := .function, names := [(Str.ofString ".0", .local), (Str.ofString "j", .local), (Str.ofString "high", .free), (Str.ofString "low", .free), (Str.ofString "rows", .free)], isGenerator := false, isCoroutine := false, more := [] }
def behScope : Scope := { kind := .function, names := [(Str.ofString ".0", .local), (Str.ofString "j", .local), (Str.ofString "high", .free), (Str.ofString "low", .free)], isGenerator := false, isCoroutine := false, more := [] }
def othScope : Scope := { kind := .function, names := [(Str.ofString ".0", .local), (Str.ofString "other", .local), (Str.ofString "name", .free)], isGenerator := false, isCoroutine := false, more := [] }
theorem natDat_get {l : List Nat} {i : Nat} (h : i < l.length) : (natDat l)[i]? = some (l[i] : Int) := by
  unfold natDat
  rw [List.getElem?_map, List.getElem?_eq_getElem h]
  rfl
theorem take_succ_map {α β : Type} {l : List α} {f : α → β} {i : Nat} (h : i < l.length) : (l.take (i + 1)).map f = (l.take i).map f ++ [f l[i]] := by
  rw [List.take_succ_eq_append_getElem h, List.map_append]; rfl
def TestIs (b : Bool) (nx : Shared → Prop) (ok : Bool) (s' : Shared) : Prop := ok = b ∧ nx s'
section
variable {prog : Program} {w : World} {A : Around} {s : Shared} {h₀ : Heap} {L : Addr} {m : Str → Option Value} {env : Env} {ct elt : PySem.Expr} {x : Str} {scope : Scope} {cl : List (Str × Addr)} {S : List (Addr × Obj) → Prop} {P : Nat → Value → Prop} {Fin : List Value → List (Addr × Obj) → Prop}
theorem restT_two {n : Nat} (J : Nat → List Value → List (Addr × Obj) → Prop)
    (step : ∀ i ys news, i < n → J i ys news → ∀ v I oI C oC D m₂ h tk (E' : Value → Shared → Prop), P i v → NsObj oC m₂ → m₂ x = some v → Fr h₀ L h m → News h₀ L h ((I, oI) :: (C, oC) :: (D, lst ys) :: news) → Off3 I C D news → ((@Ne Nat I C) ∧ (@Ne Nat I D) ∧ (@Ne Nat C D)) →
      wpAny (model prog w) A (isTrue ct (compEnvC scope cl C env) (eval ct (compEnvC scope cl C env))) (TestIs true fun s' => wpAny (model prog w) A (eval elt (compEnvC scope cl C env)) (CompEnd h₀ L m { s with heap := h, toks := tk } I oI C oC D (lst ys) S (fun y news' => J (i + 1) (ys ++ [y]) news')) E' s') E' { s with heap := h, toks := tk } ∨
      wpAny (model prog w) A (isTrue ct (compEnvC scope cl C env) (eval ct (compEnvC scope cl C env))) (TestIs false fun s' => CompEnd h₀ L m { s with heap := h, toks := tk } I oI C oC D (lst ys) S (fun _ news' => J (i + 1) ys news') Value.none s') E' { s with heap := h, toks := tk })
    (fin : ∀ ys news, J n ys news → Fin ys news) : ∀ k i ys news, i + k = n → J i ys news → CompRestT prog w A h₀ L m env ct elt x scope cl s S P Fin k i ys news := by
  intro k
  induction k with
  | zero =>
    intro i ys news e hJ
    have : i = n := by omega
    subst this
    exact CompRestT.zero (fin _ _ hJ)
  | succ k ih =>
    intro i ys news e hJ
    refine CompRestT.succ fun v I oI C oC D m₂ h tk E' a1 a2 a3 a4 a5 a6 a7 => ?_
    rcases step i ys news (by omega) hJ v I oI C oC D m₂ h tk E' a1 a2 a3 a4 a5 a6 a7 with z | z
    · refine wpAny_mono z (fun ok s2 h2 => ?_) fun _ _ e => e
      obtain ⟨rfl, h2⟩ := h2
      simp only [if_true]
      exact wpAny_mono h2 (fun y s3 h3 => CompEnd.mono h3 fun n hn => ih (i + 1) _ _ (by omega) hn) fun _ _ e => e
    · refine wpAny_mono z (fun ok s2 h2 => ?_) fun _ _ e => e
      obtain ⟨rfl, h2⟩ := h2
      simp only [Bool.false_eq_true, if_false]
      exact CompEnd.mono h2 fun n hn => ih (i + 1) _ _ (by omega) hn
end
section
variable {w : World} {H : Heap} {L fa : Addr} {cd : Value} {loose : List Str} {mean : ExcName → Option Value} {mg mb : Str → Option Value} {s : Shared} {E : Value → Shared → Prop} {Q : Value → Shared → Prop} {m : Str → Option Value} {lg R : List (Addr × Obj)}
  {rl lf : Addr} {rvs lvs : List Value} {nr nl : Nat} {rows : List Row} {p : Nat → Bool} {o1 : Obj} {p1 p2 p3 p4 p5 p6 p12 p13 : Pos} {Qf : Flow → Shared → Prop}
set_option maxHeartbeats 1000000 in
theorem comp_left (lc : LC w H L loose mean mg mb) (F : Fr H L s.heap m) (N : News H L s.heap lg) (hm : m (Str.ofString "left") = some (.ref lf)) (hsub : ∀ q ∈ R, q ∈ lg)
    (ho1 : (L + 1, o1) ∈ lg) (c1 : o1.data = .cell (some (.ref rl))) (hrl : (rl, listOf rvs.toArray nr) ∈ R) (hR : RowsIn R rvs rows) (hlf : (lf, listOf lvs.toArray nl) ∈ R) (hI : IntsAre lvs (natDat (kix p rows.length))) (hz : rows.length ≤ 200)
    (h : ∀ (D : Nat) ys nn h' tk', Fr H L h' m → News H L h' ((D, listOf ys.toArray nn) :: lg) → RowsIn R ys (left rows p) → (∀ q ∈ lg, q.1 ≠ D) → Q (.ref D) { s with heap := h', toks := tk' }) :
    wpAny (model Challenge.rw_fy0015_01.row.toRowW.1 w) (callerA.deeper (LEnv L fa cd)) (eval (.ListComp (.Subscript (.Name (Str.ofString "rows") p1) (.Name (Str.ofString "j") p2) p3) [⟨.Name (Str.ofString "j") p4, .Name (Str.ofString "left") p5, [], 0⟩] jrScope p6) (LEnv L fa cd)) Q E s := by
  obtain ⟨B1, X1, TT1, hb, l468⟩ := lc
  revert X1
  k_fill
  intro X1
  have T1 : TopRead topProg loose mg mb H := topRead_of TT1
  unfold LEnv lawParts jrScope
  dsimp only
  have hll : lvs.length = (kix p rows.length).length := by rw [hI.length]; simp [natDat]
  have hkl := kix_len_le p rows.length
  refine LCg.ListComp_U F (by with_unfolding_all rfl) (by decide) (by rfl) (by decide) (by rfl) ?_
  refine nameX_L F hm ?_
  refine LCg.CompSrc.ledger rfl F N (hsub _ hlf) (by rw [sizeLine_eq]; simp; omega) fun g => ?_
  refine rest_all (n := lvs.length) (fun i ys nw => nw = lg ∧ RowsIn R ys (((kix p rows.length).take i).map (rowAt rows))) ?step ?fin lvs.length 0 [] lg (by omega) ⟨rfl, by simpa using RowsIn.nil⟩
  case fin =>
    rintro ys nw ⟨rfl, hR2⟩
    intro D h' tk F' N' o1
    rw [hll, List.take_length] at hR2
    exact h D ys ys.length h' tk F' N' hR2 (off1_mem o1)
  case step =>
    rintro i ys nw hi ⟨rfl, hR2⟩ v I oI C oC D m₂ h' tk E' hv hoC hmx F' N' o3 ne3
    have hik : i < (kix p rows.length).length := by omega
    obtain ⟨tj, htj⟩ := hI.get i _ (natDat_get hik)
    obtain rfl : v = .int ((kix p rows.length)[i] : Int) tj := Option.some.inj ((by simpa using hv : lvs[i]? = some v).symm.trans htj)
    have hj : (kix p rows.length)[i] < rows.length := kix_lt (List.getElem_mem hik)
    obtain ⟨a, n0, c, t0, u0, hx, hma, hc, hdu, hda⟩ := rows_at hR hj
    have hx0 : rvs[(((kix p rows.length)[i] : Nat) : Int).toNat]? = some (.ref a) := by rw [Int.toNat_natCast]; exact hx
    have htk := take_succ_map (f := rowAt rows) hik
    generalize hjj : (kix p rows.length)[i] = j at *
    have hrl2 := hsub _ hrl
    k_steps
    refine CompEnd.intro F' N' nw (fun q hq => hq) o3 (.inr ⟨_, hsub _ hlf, rfl, _, rfl⟩) ⟨rfl, ?_⟩
    rw [htk]
    exact hR2.app (RowsIn.cons hda RowsIn.nil)
set_option maxHeartbeats 1000000 in
theorem comp_told {o4 o5 : Obj} {l k : Nat} {tl tk0 : Tok} {p7 p8 p9 p10 : Pos} (lc : LC w H L loose mean mg mb) (F : Fr H L s.heap m) (N : News H L s.heap lg) (hm : m (Str.ofString "left") = some (.ref lf)) (hsub : ∀ q ∈ R, q ∈ lg)
    (ho1 : (L + 1, o1) ∈ lg) (c1 : o1.data = .cell (some (.ref rl))) (ho4 : (L + 1 + 1 + 1 + 1, o4) ∈ lg) (c4 : o4.data = .cell (some (.int l tl))) (ho5 : (L + 1 + 1 + 1 + 1 + 1, o5) ∈ lg) (c5 : o5.data = .cell (some (.int k tk0)))
    (hrl : (rl, listOf rvs.toArray nr) ∈ R) (hR : RowsIn R rvs rows) (hlf : (lf, listOf lvs.toArray nl) ∈ R) (hI : IntsAre lvs (natDat (kix p rows.length))) (hz : rows.length ≤ 200)
    (h : ∀ (D : Nat) ys nn h' tk', Fr H L h' m → News H L h' ((D, listOf ys.toArray nn) :: lg) → RowsIn R ys (((kix p rows.length).filter fun j => decide (l ≤ j) && decide (j < k)).map (rowAt rows)) → (∀ q ∈ lg, q.1 ≠ D) → Q (.ref D) { s with heap := h', toks := tk' }) :
    wpAny (model Challenge.rw_fy0015_01.row.toRowW.1 w) (callerA.deeper (LEnv L fa cd)) (eval (.ListComp (.Subscript (.Name (Str.ofString "rows") p1) (.Name (Str.ofString "j") p2) p3) [⟨.Name (Str.ofString "j") p4, .Name (Str.ofString "left") p5, [.Compare (.Name (Str.ofString "low") p7) [.LtE, .Lt] [.Name (Str.ofString "j") p8, .Name (Str.ofString "high") p9] p10], 0⟩] toldScope p6) (LEnv L fa cd)) Q E s := by
  obtain ⟨B1, X1, TT1, hb, l468⟩ := lc
  revert X1
  k_fill
  intro X1
  have T1 : TopRead topProg loose mg mb H := topRead_of TT1
  unfold LEnv lawParts toldScope
  dsimp only
  have hll : lvs.length = (kix p rows.length).length := by rw [hI.length]; simp [natDat]
  have hkl := kix_len_le p rows.length
  refine LCt.ListComp_T F (by with_unfolding_all rfl) (by decide) (by rfl) (by decide) (by rfl) ?_
  refine nameX_L F hm ?_
  refine LCt.CompSrcT.ledger rfl F N (hsub _ hlf) (by rw [sizeLine_eq]; simp; omega) fun g => ?_
  refine restT_two (n := lvs.length) (fun i ys nw => nw = lg ∧ RowsIn R ys ((((kix p rows.length).take i).filter fun j => decide (l ≤ j) && decide (j < k)).map (rowAt rows))) ?step ?fin lvs.length 0 [] lg (by omega) ⟨rfl, by simpa using RowsIn.nil⟩
  case fin =>
    rintro ys nw ⟨rfl, hR2⟩
    intro D h' tk F' N' o1
    rw [hll, List.take_length] at hR2
    exact h D ys ys.length h' tk F' N' hR2 (off1_mem o1)
  case step =>
    rintro i ys nw hi ⟨rfl, hR2⟩ v I oI C oC D m₂ h' tk E' hv hoC hmx F' N' o3 ne3
    have hik : i < (kix p rows.length).length := by omega
    obtain ⟨tj, htj⟩ := hI.get i _ (natDat_get hik)
    obtain rfl : v = .int ((kix p rows.length)[i] : Int) tj := Option.some.inj ((by simpa using hv : lvs[i]? = some v).symm.trans htj)
    have hj : (kix p rows.length)[i] < rows.length := kix_lt (List.getElem_mem hik)
    obtain ⟨a, n0, c, t0, u0, hx, hma, hc, hdu, hda⟩ := rows_at hR hj
    have hx0 : rvs[(((kix p rows.length)[i] : Nat) : Int).toNat]? = some (.ref a) := by rw [Int.toNat_natCast]; exact hx
    have htk : (kix p rows.length).take (i + 1) = (kix p rows.length).take i ++ [(kix p rows.length)[i]] := by rw [List.take_succ_eq_append_getElem hik]
    rw [htk, List.filter_append, List.map_append]
    clear htk
    generalize hjj : (kix p rows.length)[i] = j at *
    have hrl2 := hsub _ hrl
    by_cases e1 : (l : Int) ≤ (j : Int)
    · by_cases e2 : (j : Int) < (k : Int)
      · have ef : [j].filter (fun j => decide (l ≤ j) && decide (j < k)) = [j] := by simp; omega
        rw [ef]
        left
        k_steps
        refine ⟨decide_eq_true e2, ?_⟩
        k_steps
        refine CompEnd.intro F' N' nw (fun q hq => hq) o3 (.inr ⟨_, hsub _ hlf, rfl, _, rfl⟩) ⟨rfl, ?_⟩
        exact hR2.app (RowsIn.cons hda RowsIn.nil)
      · have ef : [j].filter (fun j => decide (l ≤ j) && decide (j < k)) = [] := by simp; omega
        rw [ef, List.map_nil, List.append_nil]
        right
        k_steps
        exact ⟨decide_eq_false e2, CompEnd.intro F' N' nw (fun q hq => hq) o3 (.inr ⟨_, hsub _ hlf, rfl, _, rfl⟩) ⟨rfl, hR2⟩⟩
    · have ef : [j].filter (fun j => decide (l ≤ j) && decide (j < k)) = [] := by simp; omega
      rw [ef, List.map_nil, List.append_nil]
      right
      k_steps
      exact ⟨rfl, CompEnd.intro F' N' nw (fun q hq => hq) o3 (.inr ⟨_, hsub _ hlf, rfl, _, rfl⟩) ⟨rfl, hR2⟩⟩
theorem natDat_app (a b : List Nat) : natDat (a ++ b) = natDat a ++ natDat b := by simp [natDat]
theorem natDat_one (a : Nat) : natDat [a] = [(a : Int)] := rfl
set_option maxHeartbeats 1000000 in
theorem comp_behind {o4 o5 : Obj} {l k : Nat} {tl tk0 : Tok} {p7 p8 p9 p10 p11 : Pos} (hsw : swapsWith (.ListComp (.Name (Str.ofString "j") p2) [⟨.Name (Str.ofString "j") p4, .Name (Str.ofString "left") p5, [.BoolOp .Or [.Compare (.Name (Str.ofString "j") p7) [.Lt] [.Name (Str.ofString "low") p8] p9, .Compare (.Name (Str.ofString "j") p3) [.GtE] [.Name (Str.ofString "high") p10] p11] p12], 0⟩] behScope p6) (some (.Name (Str.ofString "behind") p1)) p13.line (LEnv L fa cd) = pure true) (lc : LC w H L loose mean mg mb) (F : Fr H L s.heap m) (N : News H L s.heap lg) (hm : m (Str.ofString "left") = some (.ref lf)) (hsub : ∀ q ∈ R, q ∈ lg)
    (ho4 : (L + 1 + 1 + 1 + 1, o4) ∈ lg) (c4 : o4.data = .cell (some (.int l tl))) (ho5 : (L + 1 + 1 + 1 + 1 + 1, o5) ∈ lg) (c5 : o5.data = .cell (some (.int k tk0)))
    (hlf : (lf, listOf lvs.toArray nl) ∈ R) (hI : IntsAre lvs (natDat (kix p rows.length))) (hz : rows.length ≤ 200)
    (h : ∀ (D : Nat) ys nn h' tk', Fr H L h' (fun y => if y = Str.ofString "behind" then some (.ref D) else m y) → News H L h' ((D, listOf ys.toArray nn) :: lg) → IntsAre ys (natDat ((kix p rows.length).filter fun j => !(decide (l ≤ j) && decide (j < k)))) → (∀ q ∈ lg, q.1 ≠ D) → Qf .next { s with heap := h', toks := tk' }) :
    wpAny (model Challenge.rw_fy0015_01.row.toRowW.1 w) (callerA.deeper (LEnv L fa cd)) (exec (.Assign [.Name (Str.ofString "behind") p1] (.ListComp (.Name (Str.ofString "j") p2) [⟨.Name (Str.ofString "j") p4, .Name (Str.ofString "left") p5, [.BoolOp .Or [.Compare (.Name (Str.ofString "j") p7) [.Lt] [.Name (Str.ofString "low") p8] p9, .Compare (.Name (Str.ofString "j") p3) [.GtE] [.Name (Str.ofString "high") p10] p11] p12], 0⟩] behScope p6) p13) (LEnv L fa cd)) Qf E s := by
  obtain ⟨B1, X1, TT1, hb, l468⟩ := lc
  revert X1
  k_fill
  intro X1
  have T1 : TopRead topProg loose mg mb H := topRead_of TT1
  unfold LEnv lawParts behScope
  dsimp only
  have hll : lvs.length = (kix p rows.length).length := by rw [hI.length]; simp [natDat]
  have hkl := kix_len_le p rows.length
  refine LCt.Assign_ListComp_T F (by rfl) hsw (by with_unfolding_all rfl) (by decide) (by rfl) (by decide) (by rfl) (by rfl) (by rfl) ?_
  refine nameX_L F hm ?_
  refine LCt.CompSrcT.ledger rfl F N (hsub _ hlf) (by rw [sizeLine_eq]; simp; omega) fun g => ?_
  refine restT_two (n := lvs.length) (fun i ys nw => nw = lg ∧ IntsAre ys (natDat (((kix p rows.length).take i).filter fun j => !(decide (l ≤ j) && decide (j < k))))) ?step ?fin lvs.length 0 [] lg (by omega) ⟨rfl, by simpa [natDat] using IntsAre.nil⟩
  case fin =>
    rintro ys nw ⟨rfl, hR2⟩
    intro D h' tk F' N' o1
    rw [hll, List.take_length] at hR2
    exact h D ys ys.length h' tk F' N' hR2 (off1_mem o1)
  case step =>
    rintro i ys nw hi ⟨rfl, hR2⟩ v I oI C oC D m₂ h' tk E' hv hoC hmx F' N' o3 ne3
    have hik : i < (kix p rows.length).length := by omega
    obtain ⟨tj, htj⟩ := hI.get i _ (natDat_get hik)
    obtain rfl : v = .int ((kix p rows.length)[i] : Int) tj := Option.some.inj ((by simpa using hv : lvs[i]? = some v).symm.trans htj)
    have htk : (kix p rows.length).take (i + 1) = (kix p rows.length).take i ++ [(kix p rows.length)[i]] := by rw [List.take_succ_eq_append_getElem hik]
    rw [htk, List.filter_append, natDat_app]
    clear htk
    generalize hjj : (kix p rows.length)[i] = j at *
    by_cases e1 : (j : Int) < (l : Int)
    · have ef : [j].filter (fun j => !(decide (l ≤ j) && decide (j < k))) = [j] := by simp; omega
      rw [ef]
      left
      k_steps
      refine ⟨rfl, ?_⟩
      k_steps
      refine CompEnd.intro F' N' nw (fun q hq => hq) o3 (.inr ⟨_, hsub _ hlf, rfl, _, rfl⟩) ⟨rfl, ?_⟩
      exact hR2.append (.cons _ _ .nil)
    · by_cases e2 : (k : Int) ≤ (j : Int)
      · have ef : [j].filter (fun j => !(decide (l ≤ j) && decide (j < k))) = [j] := by simp; omega
        rw [ef]
        left
        k_steps
        refine ⟨rfl, ?_⟩
        k_steps
        refine CompEnd.intro F' N' nw (fun q hq => hq) o3 (.inr ⟨_, hsub _ hlf, rfl, _, rfl⟩) ⟨rfl, ?_⟩
        exact hR2.append (.cons _ _ .nil)
      · have ef : [j].filter (fun j => !(decide (l ≤ j) && decide (j < k))) = [] := by simp; omega
        rw [ef]
        right
        k_steps
        refine ⟨rfl, CompEnd.intro F' N' nw (fun q hq => hq) o3 (.inr ⟨_, hsub _ hlf, rfl, _, rfl⟩) ⟨rfl, ?_⟩⟩
        simpa [natDat] using hR2
end
end

/- part MLp -/
theorem fresh_MLp : True ∧ True := by
  w_top off
  first
    | (walk1; done)
    | exact ⟨True.intro, True.intro⟩
section
local macro_rules | `(tactic| walk_at "call type:list") => `(tactic| (k_here; (with_reducible show wpAny _ _ (call (Value.type "list") [Value.ref _]) _ _ _); refine stop_at ?_))
section
set_option maxHeartbeats 4000000 in
theorem law_pre {w : World} {H : Heap} {L fa : Addr} {cd : Value} {loose : List Str} {mean : ExcName → Option Value} {mg mb : Str → Option Value} {s : Shared} {E : Value → Shared → Prop} {Q : Flow → Shared → Prop} {scr : Addr} {vs : List Value} {ns : List Int}
    {o1 o2 o3 o4 o5 : Obj} {x1 x2 x3 x4 x5 : Option Value} (lc : LC w H L loose mean mg mb) (F : Fr H L s.heap (upds [(Str.ofString "script", .ref scr)] fun _ => none))
    (N : News H L s.heap (key8 L o5 o4 o3 o2 o1 #[] #[] #[] []))
    (c1 : o1.data = .cell x1) (c2 : o2.data = .cell x2) (c3 : o3.data = .cell x3) (c4 : o4.data = .cell x4) (c5 : o5.data = .cell x5)
    (hS : H.IsList scr vs.toArray) (hI : IntsAre vs ns) (hlen : ns.length ≤ 63)
    (h : ∀ (x : Fx) m nx gn h' tk (r : Nat) t u v (Qf : Flow → Shared → Prop), LJ w L (drawn ns) scr x 0 m nx → Fr H L h' m → News H L h' nx → IsRange h' r 0 4 1 t u v → (AllBare s.gens → AllBare gn) →
      (∀ s', wpAny (model Challenge.rw_fy0015_01.row.toRowW.1 w) (callerA.deeper (LEnv L fa cd)) (execs [eS1.1, eS2.1, eS3.1, eS4.1, eS5.1, eS6.1, eS7.1] (LEnv L fa cd)) Q E s' → Qf .next s') →
      ForAt Challenge.rw_fy0015_01.row.toRowW.1 w (callerA.deeper (LEnv L fa cd)) (LEnv L fa cd) (Str.ofString "k") lawFor.1.2.2.1 lawFor.1.2.1 Qf E (.ref r) (gSt s h' tk gn)) :
    wpAny (model Challenge.rw_fy0015_01.row.toRowW.1 w) (callerA.deeper (LEnv L fa cd)) (execs lawParts.1.2.1 (LEnv L fa cd)) Q E s := by
  have cx := lc.cx (fa := fa) (cd := cd)
  have hc5 : c5a L = L + 5 := rfl
  obtain ⟨B1, X1, TT1, hb, l468⟩ := lc
  revert X1
  k_fill
  intro X1
  have T1 : TopRead topProg loose mg mb H := topRead_of TT1
  unfold LEnv lawParts
  unfold LEnv lawParts at cx
  unfold key8 at N
  dsimp only at cx ⊢
  (try k_fold)
  k_steps
  refine stop_go (drawn_spec (vs := vs) (ns := ns) cx (by k_asm) (by k_asm) (by k_room) (by k_units) hS hI hlen fun rl rvs nr R1 h2 tk2 F2 N2 q1 q2 q3 => ?_)
  replace N2 : News H L h2 (key8 L o5 o4 o3 o2 o1 #[] #[] #[] (R1 ++ [])) := news_sub N2 key_sub
  have st := key_strip (L := L) (ps1 := #[]) (ps := #[]) (ps2 := #[]) (add := R1) (R := []) c1 c2 c3 c4 c5
  replace q2 := st _ q2 (.inl ⟨_, _, rfl⟩)
  replace q3 := q3.strip fun p hp hs => st p hp hs.solid
  replace q1 := above_top q1 top_key
  rw [List.append_nil] at N2 q2 q3
  clear st F N
  have z1 := q1.ne (c := L + 1) (by omega)
  have z2 := q1.ne (c := L + 1 + 1) (by omega)
  unfold key8 at N2
  k_steps
  rename_i h3 p1 F3 N3 e1
  obtain ⟨bm, hbl⟩ := blf_drawn ns
  have hln := drawn_len ns
  refine stop_go (pairs_spec (rl := rl) (vs := rvs) (nr := nr) (rows := drawn ns) cx F3 N3 (by k_room) (by k_units) (by k_mem) (q3.mono fun p hp => (.tail _ (.tail _ (.tail _ (.tail _ (.tail _ (.tail _ (.tail _ (.tail _ hp))))))))) hln hbl.ok hbl.well fun t d1 d2 al odp1 odp2 avs na nt R2 h4 tk4 F4 N4 q4 q5 q6 q7 q8 q9 q10 q11 => ?_)
  replace N4 : News H L h4 (key8 L o5 o4 o3 o2 p1 #[] #[] #[] (R2 ++ R1)) := news_sub N4 key_sub
  have st := key_strip (L := L) (ps1 := #[]) (ps := #[]) (ps2 := #[]) (add := R2) (R := R1) e1 c2 c3 c4 c5
  replace q4 : Above (L + 1 + 1 + 1 + 1 + 1) R2 := above_top q4 top_key
  replace q5 := st _ q5 (.inl ⟨_, _, rfl⟩)
  replace q6 := st _ q6 (let ⟨_, a, _⟩ := q8; solid_dict a)
  replace q7 := st _ q7 (let ⟨_, a, _⟩ := q9; solid_dict a)
  replace q10 := st _ q10 (.inl ⟨_, _, rfl⟩)
  replace q8 := q8.strip fun p hp hs => st p hp hs.solid
  replace q9 := q9.strip fun p hp hs => st p hp hs.solid
  replace q1 := q4.app q1
  replace q2 := List.mem_append_right R2 q2
  replace q3 := q3.mono (news' := R2 ++ R1) fun p hp => List.mem_append_right _ hp
  clear st F3 N3 z1 z2
  generalize R2 ++ R1 = R3 at *
  clear q4
  have z1 := q1.ne (c := L + 1) (by omega)
  have z2 := q1.ne (c := L + 1 + 1) (by omega)
  unfold key8 at N4
  k_steps
  rename_i h5a h5b h5c p2 e2 h6 F6 N6
  refine stop_go (xd_spec cx F6 N6 (by k_room) (by k_units) fun xo xd d od tkx nx h7 tk7 F7 N7 dE ltx1 ltx2 ltx3 => ?_)
  k_steps
  refine stop_go (xd_spec cx F7 N7 (by k_room) (by k_units) fun xo2 xd2 dd2 od2 tkx2 nx2 h8 tk8 F8 N8 dE2 lty1 lty2 lty3 => ?_)
  clear F6 N6 F7 N7
  k_steps
  rename_i Dt hDt lDt hlDt ha hb9 hc FD ND
  refine stop_go (list_copyK FD ND (News.isList ND (by k_mem)) (fun Dc cc h9 F9 N9 l9 => ?_) (by rw [sizeLine_eq]; simp; have := q3.length; omega))
  k_steps
  have hxd5 : @LT.lt Nat _ (c5a L) xd := ltx1.head
  have hdxd2 : @LT.lt Nat _ d xd2 := lty1.head
  have hDt : @LT.lt Nat _ dd2 Dt := lDt.head
  have hDc : @LT.lt Nat _ Dt Dc := l9 _ (List.Mem.head _)
  have ltR3 : ∀ p ∈ R3, @LT.lt Nat _ p.1 xd := fun p hp => TopLe.lt ltx1 p (.tail _ (.tail _ (.tail _ (.tail _ (.tail _ (.tail _ (.tail _ (.tail _ hp))))))))
  have hd5 : @LT.lt Nat _ (c5a L) d := by omega
  have zd : ∀ p ∈ R3, p.1 ≠ d := fun p hp => Nat.ne_of_lt (Nat.lt_trans (ltR3 p hp) (by omega))
  have zdd : ∀ p ∈ R3, p.1 ≠ dd2 := fun p hp => Nat.ne_of_lt (Nat.lt_trans (ltR3 p hp) (by omega))
  have hne : drawn ns ≠ [] := by intro e; have := hbl.pos; rw [e] at this; simp at this
  have hhd : (drawn ns).head? = some (1001, .s APP) := by
    have := hbl.hd
    cases e : drawn ns with
    | nil => exact absurd e hne
    | cons r rs => rw [e] at this; exact congrArg some this
  have hcod := codes_all hbl
  have ok2 : rowOk (1001, .s APP) = true := by decide +kernel
  have ok3 : rowOk (1001, .s REST) = true := by decide +kernel
  have hro : outRows (drawn ns) APP = drawn ns := by unfold outRows; rw [if_pos hhd]
  refine stop_go (add_key (app := APP) (R := (Dc, listOf rvs.toArray cc) :: (Dt, ({ cls := .type "tuple", data := .seq #[Value.ref xo, Value.ref xo2] } : Obj)) :: (dd2, od2) :: (xo2, instObj 525 xd2) :: (xd2, xAttrs w tkx2 dd2 nx2) :: (xo, instObj 525 xd) :: (xd, xAttrs w tkx d nx) :: R3) (xd := xd) (tkx := tkx) (nx := nx) (o1 := p1) (o2 := p2) (o3 := o3) (o4 := o4) (o5 := o5) (ps1 := #[]) (ps := #[]) (ps2 := #[]) (rows := drawn ns)
    hb cx F9 (news_sub N9 (by (try unfold key8); (repeat' (first | with_reducible exact sbs_nil | with_reducible refine sbs_cons ?_ ?_ | with_reducible refine sbs_app ?_ ?_)); all_goals (repeat' (first | with_reducible exact List.Mem.head _ | with_reducible exact sbs_refl | with_reducible refine List.Mem.tail _ ?_ | with_reducible refine sbs_tail ?_ | with_reducible exact sbs_right | with_reducible refine sbs_left ?_ | with_reducible refine mem_right9 ?_)))) (by k_room) (by k_units) trivial trivial l468 hd5 ?A1 ?z1 (by k_mem) (by k_mem) dE (by simp) (List.Mem.head _) ⟨cc, .inl rfl⟩ (srcIn_rows (q3.mono ?q3)) (by omega) hne hcod hbl.ok ok2 fun ps1a psa oda la dla vsa nna add1 h10 tk10 gn10 F10 N10 a1 a2 a3 a4 a5 a6 a7 a8 a9 a10 a11 hba => ?_)
  case A1 => exact .cons (by omega) (.cons (by omega) (.cons (by omega) (.cons (by omega) (.cons (by omega) (.cons (by omega) (.cons (by omega) q1))))))
  case z1 =>
    simp only [List.forall_mem_cons]
    refine ⟨?_, ?_, ?_, ?_, ?_, ?_, ?_, zd⟩ <;> (show @Ne Nat _ _) <;> omega
  case q3 => exact fun p hp => .tail _ (.tail _ (.tail _ (.tail _ (.tail _ (.tail _ (.tail _ hp))))))
  rw [hro] at a4
  replace N10 : News H L h10 (key8 L o5 o4 o3 p2 p1 ps1a psa #[] ((d, oda) :: (la, tagsObj dla vsa nna) :: (Dc, listOf rvs.toArray cc) :: (Dt, ({ cls := .type "tuple", data := .seq #[Value.ref xo, Value.ref xo2] } : Obj)) :: (dd2, od2) :: (xo2, instObj 525 xd2) :: (xd2, xAttrs w tkx2 dd2 nx2) :: (xo, instObj 525 xd) :: (xd, xAttrs w tkx d nx) :: (add1 ++ R3))) := news_sub N10 (by (try unfold key8); (repeat' (first | with_reducible exact sbs_nil | with_reducible refine sbs_cons ?_ ?_ | with_reducible refine sbs_app ?_ ?_)); all_goals (repeat' (first | with_reducible exact List.Mem.head _ | with_reducible exact sbs_refl | with_reducible refine List.Mem.tail _ ?_ | with_reducible refine sbs_tail ?_ | with_reducible exact sbs_right | with_reducible refine sbs_left ?_ | with_reducible refine mem_right9 ?_)))
  have A1 := a5.app q1
  replace a4 := a4.mono (l' := add1 ++ R3) fun p hp => List.mem_append_left _ hp
  replace zd := all_app a7 zd
  have zdd1 : ∀ p ∈ add1, p.1 ≠ dd2 := fun p hp => a11 p hp _ (List.Mem.tail _ (.tail _ (.head _)))
  replace zdd := all_app zdd1 zdd
  replace q2 := List.mem_append_right add1 q2
  replace q3 := q3.mono (news' := add1 ++ R3) (fun p hp => List.mem_append_right _ hp)
  replace q6 := List.mem_append_right add1 q6
  replace q7 := List.mem_append_right add1 q7
  replace q8 := q8.mono (news' := add1 ++ R3) (fun p hp => List.mem_append_right _ hp)
  replace q9 := q9.mono (news' := add1 ++ R3) (fun p hp => List.mem_append_right _ hp)
  replace q10 := List.mem_append_right add1 q10
  have hla : ∀ p ∈ R3, p.1 ≠ la := fun p hp => a9 p (.tail _ (.tail _ (.tail _ (.tail _ (.tail _ (.tail _ (.tail _ hp)))))))
  have zla := all_app a8 hla
  clear ltR3 hla a7 a8 a5 q1 zdd1 a11
  generalize add1 ++ R3 = R4 at *
  unfold key8 at N10
  clear F9 N9 FD ND
  have hrz : rvs.length ≤ 200 := by have := q3.length; omega
  k_steps
  rename_i Ds h11 F11 N11 l11 hl11
  have hge := drawn_ge ns
  have hrt : RowsIn R4 (kms_pick rvs.toArray.toList (some 1) none) (drawn ns).tail := by
    have z := q3
    have hl := q3.length
    cases er : rvs with
    | nil => rw [er] at hl; simp at hl; omega
    | cons v us =>
      cases ed : drawn ns with
      | nil => exact absurd ed hne
      | cons r rs =>
        rw [er, ed] at z
        show RowsIn R4 (kms_pick (v :: us) (some 1) none) rs
        rw [pick_from1]
        unfold RowsIn at z ⊢
        cases z with
        | cons _ k => exact k
  have hDs : @LT.lt Nat _ (c5a L) Ds := l11.head
  have hDl := TopLe.lt l11
  have hDa : @LT.lt Nat _ la Ds := hDl (la, tagsObj dla vsa nna) (.tail _ (.tail _ (.tail _ (.tail _ (.tail _ (.tail _ (.tail _ (.tail _ (.tail _ (.head _))))))))))
  have hDc2 : @LT.lt Nat _ Dc Ds := hDl (Dc, listOf rvs.toArray cc) (.tail _ (.tail _ (.tail _ (.tail _ (.tail _ (.tail _ (.tail _ (.tail _ (.tail _ (.tail _ (.head _)))))))))))
  have htl : (drawn ns).tail ≠ [] := by intro e; have := congrArg List.length e; simp at this; omega
  have hro2 := rest_out hbl (by omega)
  have htm : ∀ r ∈ (drawn ns).tail, r ∈ drawn ns := fun r hr => List.mem_of_mem_tail hr
  refine stop_go (add_key (app := REST) (R := (Ds, listOf (kms_pick rvs.toArray.toList (some 1) none).toArray 0) :: (la, tagsObj dla vsa nna) :: (Dc, listOf rvs.toArray cc) :: (Dt, ({ cls := .type "tuple", data := .seq #[Value.ref xo, Value.ref xo2] } : Obj)) :: (dd2, od2) :: (xo2, instObj 525 xd2) :: (xd2, xAttrs w tkx2 dd2 nx2) :: (xo, instObj 525 xd) :: (xd, xAttrs w tkx d nx) :: R4) (xd := xd) (tkx := tkx) (nx := nx) (o1 := p1) (o2 := p2) (o3 := o3) (o4 := o4) (o5 := o5) (ps1 := ps1a) (ps := psa) (ps2 := #[]) (rows := (drawn ns).tail)
    hb cx F11 (news_sub N11 (by (try unfold key8); (repeat' (first | with_reducible exact sbs_nil | with_reducible refine sbs_cons ?_ ?_ | with_reducible refine sbs_app ?_ ?_)); all_goals (repeat' (first | with_reducible exact List.Mem.head _ | with_reducible exact sbs_refl | with_reducible refine List.Mem.tail _ ?_ | with_reducible refine sbs_tail ?_ | with_reducible exact sbs_right | with_reducible refine sbs_left ?_ | with_reducible refine mem_right9 ?_)))) (by k_room) (by k_units) a1 a2 l468 hd5 ?A1 ?z1 (by k_mem) (by k_mem) a3 (by simp [stored]) (List.Mem.head _) ⟨0, .inl rfl⟩ (srcIn_rows (hrt.mono ?q3)) (by simp; omega) htl (fun r hr => hcod r (htm r hr)) (fun r hr => hbl.ok r (htm r hr)) ok3 fun ps1b psb odb lb dlb vsb nnb add2 h12 tk12 gn12 F12 N12 b1 b2 b3 b4 b5 b6 b7 b8 b9 b10 b11 hbb => ?_)
  case A1 => exact .cons hDs (.cons a6 (.cons (by omega) (.cons (by omega) (.cons (by omega) (.cons (by omega) (.cons (by omega) (.cons (by omega) (.cons (by omega) A1))))))))
  case z1 =>
    simp only [List.forall_mem_cons]
    refine ⟨?_, a10, ?_, ?_, ?_, ?_, ?_, ?_, ?_, zd⟩ <;> (show @Ne Nat _ _) <;> omega
  case q3 => exact fun p hp => .tail _ (.tail _ (.tail _ (.tail _ (.tail _ (.tail _ (.tail _ (.tail _ (.tail _ hp))))))))
  rw [hro2] at b4
  replace N12 : News H L h12 (key8 L o5 o4 o3 p2 p1 ps1b psb #[] ((d, odb) :: (la, tagsObj dla vsa nna) :: (lb, tagsObj dlb vsb nnb) :: (Dc, listOf rvs.toArray cc) :: (Dt, ({ cls := .type "tuple", data := .seq #[Value.ref xo, Value.ref xo2] } : Obj)) :: (dd2, od2) :: (xo2, instObj 525 xd2) :: (xd2, xAttrs w tkx2 dd2 nx2) :: (xo, instObj 525 xd) :: (xd, xAttrs w tkx d nx) :: (add2 ++ R4))) := news_sub N12 (by (try unfold key8); (repeat' (first | with_reducible exact sbs_nil | with_reducible refine sbs_cons ?_ ?_ | with_reducible refine sbs_app ?_ ?_)); all_goals (repeat' (first | with_reducible exact List.Mem.head _ | with_reducible exact sbs_refl | with_reducible refine List.Mem.tail _ ?_ | with_reducible refine sbs_tail ?_ | with_reducible exact sbs_right | with_reducible refine sbs_left ?_ | with_reducible refine mem_right9 ?_)))
  have A2 := b5.app A1
  replace a4 := a4.mono (l' := add2 ++ R4) (fun p hp => List.mem_append_right _ hp)
  replace b4 := b4.mono (l' := add2 ++ R4) fun p hp => List.mem_append_left _ hp
  replace zd := all_app b7 zd
  have zdd1 : ∀ p ∈ add2, p.1 ≠ dd2 := fun p hp => b11 p hp _ (List.Mem.tail _ (.tail _ (.tail _ (.tail _ (.head _)))))
  replace zdd := all_app zdd1 zdd
  have zla1 : ∀ p ∈ add2, p.1 ≠ la := fun p hp => b11 p hp _ (List.Mem.tail _ (.head _))
  replace zla := all_app zla1 zla
  replace q2 := List.mem_append_right add2 q2
  replace q3 := q3.mono (news' := add2 ++ R4) (fun p hp => List.mem_append_right _ hp)
  replace q6 := List.mem_append_right add2 q6
  replace q7 := List.mem_append_right add2 q7
  replace q8 := q8.mono (news' := add2 ++ R4) (fun p hp => List.mem_append_right _ hp)
  replace q9 := q9.mono (news' := add2 ++ R4) (fun p hp => List.mem_append_right _ hp)
  replace q10 := List.mem_append_right add2 q10
  have hbla := b9 _ (.tail _ (.head _))
  have hbdd := b9 _ (.tail _ (.tail _ (.tail _ (.tail _ (.head _)))))
  clear F11 N11 hrt b5 b7 b8 b9 b11 zdd1 zla1 A1 hDl
  generalize add2 ++ R4 = R5 at *
  unfold key8 at N12
  k_steps
  refine stop_go (list_copyK F12 N12 (News.isList N12 (by k_mem)) (fun De ce h13 F13 N13 l13 => ?_) (by rw [sizeLine_eq]; simp; omega))
  have hDe := l13 _ (List.Mem.head _)
  have hDe2 : @LT.lt Nat _ d De := l13 (d, odb) (.tail _ (.tail _ (.tail _ (.tail _ (.tail _ (.tail _ (.tail _ (.tail _ (.head _)))))))))
  have hDe3 : @LT.lt Nat _ la De := l13 (la, tagsObj dla vsa nna) (.tail _ (.tail _ (.tail _ (.tail _ (.tail _ (.tail _ (.tail _ (.tail _ (.tail _ (.head _))))))))))
  have hDe4 : @LT.lt Nat _ Dc De := l13 (Dc, listOf rvs.toArray cc) (.tail _ (.tail _ (.tail _ (.tail _ (.tail _ (.tail _ (.tail _ (.tail _ (.tail _ (.tail _ (.tail _ (.head _))))))))))))
  have hladd : la ≠ dd2 := fun e => a9 (dd2, od2) (.tail _ (.tail _ (.head _))) e.symm
  have hlbdd : lb ≠ dd2 := fun e => hbdd e.symm
  have hDe5 : @LT.lt Nat _ dd2 De := by omega
  k_steps
  refine stop_go (add_key (app := APP) (R := (De, listOf rvs.toArray ce) :: (d, odb) :: (la, tagsObj dla vsa nna) :: (lb, tagsObj dlb vsb nnb) :: (Dc, listOf rvs.toArray cc) :: (Dt, ({ cls := .type "tuple", data := .seq #[Value.ref xo, Value.ref xo2] } : Obj)) :: (xo2, instObj 525 xd2) :: (xd2, xAttrs w tkx2 dd2 nx2) :: (xo, instObj 525 xd) :: (xd, xAttrs w tkx d nx) :: R5) (xd := xd2) (tkx := tkx2) (nx := nx2) (o1 := p1) (o2 := p2) (o3 := o3) (o4 := o4) (o5 := o5) (ps1 := ps1b) (ps := psb) (ps2 := #[]) (rows := drawn ns)
    hb cx F13 (news_sub N13 (by (try unfold key8); (repeat' (first | with_reducible exact sbs_nil | with_reducible refine sbs_cons ?_ ?_ | with_reducible refine sbs_app ?_ ?_)); all_goals (repeat' (first | with_reducible exact List.Mem.head _ | with_reducible exact sbs_refl | with_reducible refine List.Mem.tail _ ?_ | with_reducible refine sbs_tail ?_ | with_reducible exact sbs_right | with_reducible refine sbs_left ?_ | with_reducible refine mem_right9 ?_)))) (by k_room) (by k_units) b1 b2 l468 (by omega) ?A1 ?z1 (by k_mem) (by k_mem) dE2 (by simp) (List.Mem.head _) ⟨ce, .inl rfl⟩ (srcIn_rows (q3.mono ?q3)) (by omega) hne hcod hbl.ok ok2 fun ps1c psc odc lc dlc vsc nnc add3 h14 tk14 gn14 F14 N14 g1 g2 g3 g4 g5 g6 g7 g8 g9 g10 g11 hbc => ?_)
  case A1 => exact .cons (by omega) (.cons hd5 (.cons a6 (.cons b6 (.cons (by omega) (.cons (by omega) (.cons (by omega) (.cons (by omega) (.cons (by omega) (.cons (by omega) A2)))))))))
  case z1 =>
    simp only [List.forall_mem_cons]
    refine ⟨?_, ?_, hladd, hlbdd, ?_, ?_, ?_, ?_, ?_, ?_, zdd⟩ <;> (show @Ne Nat _ _) <;> omega
  case q3 => exact fun p hp => .tail _ (.tail _ (.tail _ (.tail _ (.tail _ (.tail _ (.tail _ (.tail _ (.tail _ (.tail _ hp)))))))))
  rw [hro] at g4
  obtain ⟨R6, hR6⟩ : ∃ R, R = (dd2, odc) :: (lc, tagsObj dlc vsc nnc) :: (lb, tagsObj dlb vsb nnb) :: (De, listOf rvs.toArray ce) :: (Dc, listOf rvs.toArray cc) :: (Dt, ({ cls := .type "tuple", data := .seq #[Value.ref xo, Value.ref xo2] } : Obj)) :: (xo2, instObj 525 xd2) :: (xd2, xAttrs w tkx2 dd2 nx2) :: (xo, instObj 525 xd) :: (xd, xAttrs w tkx d nx) :: (add3 ++ R5) := ⟨_, rfl⟩
  replace N14 : News H L h14 (key8 L o5 o4 o3 p2 p1 ps1c psc #[] ((d, odb) :: (la, tagsObj dla vsa nna) :: R6)) := by subst hR6; exact news_sub N14 (by (try unfold key8); (repeat' (first | with_reducible exact sbs_nil | with_reducible refine sbs_cons ?_ ?_ | with_reducible refine sbs_app ?_ ?_)); all_goals (repeat' (first | with_reducible exact List.Mem.head _ | with_reducible exact sbs_refl | with_reducible refine List.Mem.tail _ ?_ | with_reducible refine sbs_tail ?_ | with_reducible exact sbs_right | with_reducible refine sbs_left ?_ | with_reducible refine mem_right9 ?_)))
  have s6 : ∀ p ∈ R5, p ∈ R6 := by subst hR6; exact (by (try unfold key8); (repeat' (first | with_reducible exact sbs_nil | with_reducible refine sbs_cons ?_ ?_ | with_reducible refine sbs_app ?_ ?_)); all_goals (repeat' (first | with_reducible exact List.Mem.head _ | with_reducible exact sbs_refl | with_reducible refine List.Mem.tail _ ?_ | with_reducible refine sbs_tail ?_ | with_reducible exact sbs_right | with_reducible refine sbs_left ?_ | with_reducible refine mem_right9 ?_)))
  have s7 : ∀ p ∈ add3, p ∈ R6 := by subst hR6; exact (by (try unfold key8); (repeat' (first | with_reducible exact sbs_nil | with_reducible refine sbs_cons ?_ ?_ | with_reducible refine sbs_app ?_ ?_)); all_goals (repeat' (first | with_reducible exact List.Mem.head _ | with_reducible exact sbs_refl | with_reducible refine List.Mem.tail _ ?_ | with_reducible refine sbs_tail ?_ | with_reducible exact sbs_right | with_reducible refine sbs_left ?_ | with_reducible refine mem_right9 ?_)))
  have hlcd : lc ≠ d := g9 (d, odb) (.tail _ (.head _)) |>.symm
  have hlcla : lc ≠ la := g9 (la, tagsObj dla vsa nna) (.tail _ (.tail _ (.head _))) |>.symm
  have hzd : ∀ p ∈ add3, p.1 ≠ d := fun p hp => g11 p hp (d, odb) (.tail _ (.head _))
  have hzla : ∀ p ∈ add3, p.1 ≠ la := fun p hp => g11 p hp (la, tagsObj dla vsa nna) (.tail _ (.tail _ (.head _)))
  have A6 : Above (c5a L) R6 := by
    subst hR6
    exact .cons (by omega) (.cons g6 (.cons b6 (.cons (by omega) (.cons (by omega) (.cons (by omega) (.cons (by omega) (.cons (by omega) (.cons (by omega) (.cons (by omega) (g5.app A2))))))))))
  have zd6 : ∀ p ∈ R6, p.1 ≠ d := by
    subst hR6
    simp only [List.forall_mem_cons]
    refine ⟨?_, hlcd, b10, ?_, ?_, ?_, ?_, ?_, ?_, ?_, all_app hzd zd⟩ <;> (show @Ne Nat _ _) <;> omega
  have zla6 : ∀ p ∈ R6, p.1 ≠ la := by
    subst hR6
    simp only [List.forall_mem_cons]
    refine ⟨hladd.symm, hlcla, hbla.symm, ?_, a9 _ (.head _), a9 _ (.tail _ (.head _)), a9 _ (.tail _ (.tail _ (.tail _ (.head _)))), a9 _ (.tail _ (.tail _ (.tail _ (.tail _ (.head _))))), a9 _ (.tail _ (.tail _ (.tail _ (.tail _ (.tail _ (.head _)))))), a9 _ (.tail _ (.tail _ (.tail _ (.tail _ (.tail _ (.tail _ (.head _))))))), all_app hzla zla⟩
    show @Ne Nat _ _
    omega
  have FX : Fixed w L (drawn ns) ⟨rl, rvs, nr, d1, odp1, d2, odp2, al, avs, na, xo, xd, d, tkx, nx, xo2, xd2, dd2, odc, tkx2, nx2, lb, dlb, vsb, nnb, lc, dlc, vsc, nnc, p1, p2⟩ R6 := {
    rl_in := s6 _ q2
    rl_is := q3.mono s6
    d1_in := s6 _ q6
    d1_is := q8.mono s6
    d2_in := s6 _ q7
    d1_100 := by have z : @LT.lt Nat _ (c5a L) d1 := A6 _ (s6 _ q6); show @LT.lt Nat _ 100 d1; omega
    d2_100 := by have z : @LT.lt Nat _ (c5a L) d2 := A6 _ (s6 _ q7); show @LT.lt Nat _ 100 d2; omega
    d2_is := q9.mono s6
    al_in := s6 _ q10
    al_is := q11
    xo_in := by rw [hR6]; k_mem
    xd_in := by rw [hR6]; k_mem
    xo2_in := by rw [hR6]; k_mem
    xd2_in := by rw [hR6]; k_mem
    dd2_in := by rw [hR6]; k_mem
    dd2_is := g3
    dd2_100 := by show @LT.lt Nat _ 100 dd2; omega
    l3_in := by rw [hR6]; k_mem
    l3_is := g4.mono s7
    l2_in := by rw [hR6]; k_mem
    l2_is := b4.mono s6
    c1 := e1
    c2 := e2
    d5 := hd5 }
  have tg6 : TagsIn R6 vsa (drawn ns) := a4.mono s6
  have mrl := FX.rl_in
  clear hR6 F13 N13 g11 g9 a9 hbla hbdd
  dsimp only at mrl
  unfold key8 at N14
  k_steps
  rename_i r9 t9 u9 v9 tk15 h15 F15 N15 l15 hl15
  refine stop_go (kll_range rfl F15 N15 (N15 _ (List.Mem.head _)).1 (small_upto (by omega)) (size_upto _) (by omega) fun lf lvs lc9 h16 tk16 F16 N16 l16 hI16 => ?_)
  k_steps
  have hlk : List.lookup 537 (hd.heap_39 w.params) = some { cls := .type "tuple", data := .seq [Value.str (Str.ofString "LA") 915, Value.str (Str.ofString "LB") 916, Value.str (Str.ofString "LC") 917, Value.str (Str.ofString "LD") 918].toArray } := by with_unfolding_all rfl
  refine stop_go (list_copyKT F16 N16 ⟨_, X1.keeps F16.keep _ _ hlk, rfl, _, rfl⟩ (fun rs rc h17 F17 N17 l17 => ?_) (by rw [sizeLine_eq]; simp))
  k_steps
  rename_i Du h18 l18 hl18 h19 h20 h21 tk18 r20 t20 u20 v20 tk20 h22 F22 N22 l22 hl22
  have hlfR : ∀ p ∈ (L + 1 + 1 + 1 + 1 + 1, o5) :: (L + 1 + 1 + 1 + 1, o4) :: (L + 1 + 1 + 1, o3) :: (L + 1 + 1, p2) :: (L + 1, p1) :: (468, tabObj ps1c) :: (408, tabObj psc) :: (201, tabObj #[]) :: (d, odb) :: (la, tagsObj dla vsa nna) :: R6, @LT.lt Nat _ p.1 lf := fun p hp => l16 p (.tail _ hp)
  have hlfrs : @LT.lt Nat _ lf rs := l17 _ (.head _)
  have hlf5 : @LT.lt Nat _ (c5a L) lf := hlfR _ (.head _)
  have hlfd : @LT.lt Nat _ d lf := hlfR (d, odb) (.tail _ (.tail _ (.tail _ (.tail _ (.tail _ (.tail _ (.tail _ (.tail _ (.head _)))))))))
  have hlfla : @LT.lt Nat _ la lf := hlfR (la, tagsObj dla vsa nna) (.tail _ (.tail _ (.tail _ (.tail _ (.tail _ (.tail _ (.tail _ (.tail _ (.tail _ (.head _))))))))))
  have A7 : Above (c5a L) ((rs, W.listOf #[Value.str (Str.ofString "LA") 915, Value.str (Str.ofString "LB") 916, Value.str (Str.ofString "LC") 917, Value.str (Str.ofString "LD") 918] rc) :: (lf, W.listOf lvs.toArray lc9) :: R6) := .cons (by omega) (.cons hlf5 A6)
  refine h ⟨rl, rvs, nr, d1, odp1, d2, odp2, al, avs, na, xo, xd, d, tkx, nx, xo2, xd2, dd2, odc, tkx2, nx2, lb, dlb, vsb, nnb, lc, dlc, vsc, nnc, p1, p2⟩ _ (led L ⟨rl, rvs, nr, d1, odp1, d2, odp2, al, avs, na, xo, xd, d, tkx, nx, xo2, xd2, dd2, odc, tkx2, nx2, lb, dlb, vsb, nnb, lc, dlc, vsc, nnc, p1, p2⟩ ⟨o5, o4, o3, ps1c, psc, #[], odb, la, dla, vsa, nna, lf, lvs, lc9, rs, [Value.str (Str.ofString "LA") 915, Value.str (Str.ofString "LB") 916, Value.str (Str.ofString "LC") 917, Value.str (Str.ofString "LD") 918], rc⟩ ((rs, W.listOf #[Value.str (Str.ofString "LA") 915, Value.str (Str.ofString "LB") 916, Value.str (Str.ofString "LC") 917, Value.str (Str.ofString "LD") 918] rc) :: (lf, W.listOf lvs.toArray lc9) :: R6)) gn14 h22 tk20 r20 t20 u20 v20 _ ?J F22 (by unfold led; exact news_sub N22 (by (try unfold key8); (repeat' (first | with_reducible exact sbs_nil | with_reducible refine sbs_cons ?_ ?_ | with_reducible refine sbs_app ?_ ?_)); all_goals (repeat' (first | with_reducible exact List.Mem.head _ | with_reducible exact sbs_refl | with_reducible refine List.Mem.tail _ ?_ | with_reducible refine sbs_tail ?_ | with_reducible exact sbs_right | with_reducible refine sbs_left ?_ | with_reducible refine mem_right9 ?_)))) (N22 _ (.head _)).1 (fun z => hbc (hbb (hba z))) (fun s' z => z)
  case J =>
    refine ⟨_, ⟨o5, o4, o3, ps1c, psc, #[], odb, la, dla, vsa, nna, lf, lvs, lc9, rs, [Value.str (Str.ofString "LA") 915, Value.str (Str.ofString "LB") 916, Value.str (Str.ofString "LC") 917, Value.str (Str.ofString "LD") 918], rc⟩, [], [nm 0, nm 1, nm 2, nm 3], (rs, W.listOf #[Value.str (Str.ofString "LA") 915, Value.str (Str.ofString "LB") 916, Value.str (Str.ofString "LC") 917, Value.str (Str.ofString "LD") 918] rc) :: (lf, W.listOf lvs.toArray lc9) :: R6, upds_self ?m, FX.mono (fun p hp => .tail _ (.tail _ hp)), ?now, fun q hq => hq⟩
    case m =>
      intro p hp
      simp only [frame, List.mem_cons, List.not_mem_nil, or_false] at hp
      rcases hp with rfl | rfl | rfl | rfl | rfl | rfl | rfl <;> (simp only [upds, ofString_eq, String.reduceEq, reduceIte] <;> exact rfl)
    case now =>
      exact {
        c5 := ⟨_, c5⟩
        c4 := ⟨_, c4⟩
        c3 := ⟨_, c3⟩
        p1 := g1
        p := g2
        p2 := trivial
        od_is := b3
        l5 := a6
        ld := a10
        off := ⟨A7.ne (Nat.le_refl _), A7.ne (by omega), A7.ne (by omega), A7.ne (by omega), A7.ne (by omega), A7.ne (by omega), by
            simp only [List.forall_mem_cons]
            exact ⟨by show @Ne Nat rs d; omega, by show @Ne Nat lf d; omega, zd6⟩, by
            simp only [List.forall_mem_cons]
            exact ⟨by show @Ne Nat rs la; omega, by show @Ne Nat lf la; omega, zla6⟩⟩
        tags := by rw [left_all]; exact tg6.mono fun p hp => .tail _ (.tail _ hp)
        lf_in := .tail _ (.head _)
        lf_is := by
          have e : natDat (kix (remain (drawn ns) []) (drawn ns).length) = rangeKs 0 rvs.length := by rw [kix_nil, q3.length]; simp [natDat, rangeKs]
          rw [e]
          exact hI16
        rs_in := .head _
        rs_is := .cons (.cons (.cons (.cons .nil)))
        rem_nd := by simp [nm, ofString_eq]
        rem_len := rfl
        rem_nm := by
          intro s hs
          simp only [List.mem_cons, List.not_mem_nil, or_false] at hs
          rcases hs with rfl | rfl | rfl | rfl
          · exact ⟨0, by omega, rfl⟩
          · exact ⟨1, by omega, rfl⟩
          · exact ⟨2, by omega, rfl⟩
          · exact ⟨3, by omega, rfl⟩
        all_nm := by
          intro k hk
          right
          rcases k with _ | _ | _ | _ | k
          · exact .head _
          · exact .tail _ (.head _)
          · exact .tail _ (.tail _ (.head _))
          · exact .tail _ (.tail _ (.tail _ (.head _)))
          · omega }
end

/- part MT1 -/
end
theorem fresh_MT1 : True ∧ True := by
  w_top off
  first
    | (walk1; done)
    | exact ⟨True.intro, True.intro⟩
section
open PyProof.Rows.LCg PyProof.Rows.LCt
/-! One turn of the law's loop: number, name, rest. -/
def StopS (prog : Program) (w : World) (A : Around) (st : Stmt) (env : Env) (Q : Flow → Shared → Prop) (E : Value → Shared → Prop) (s : Shared) : Prop := wpAny (model prog w) A (exec st env) Q E s
theorem stop_s {prog : Program} {w : World} {A : Around} {st : Stmt} {env : Env} {Q : Flow → Shared → Prop} {E : Value → Shared → Prop} {s : Shared} (h : StopS prog w A st env Q E s) : wpAny (model prog w) A (exec st env) Q E s := h
theorem s_go {prog : Program} {w : World} {A : Around} {st : Stmt} {env : Env} {Q : Flow → Shared → Prop} {E : Value → Shared → Prop} {s : Shared} (h : wpAny (model prog w) A (exec st env) Q E s) : StopS prog w A st env Q E s := h
set_option maxHeartbeats 1000000 in
theorem comp_rest {w : World} {H : Heap} {L fa : Addr} {cd : Value} {loose : List Str} {mean : ExcName → Option Value} {mg mb : Str → Option Value} {s : Shared} {E : Value → Shared → Prop} {Qf : Flow → Shared → Prop} {m : Str → Option Value} {lg : List (Addr × Obj)}
    {rs : Addr} {svs : List Value} {rem : List Str} {n : Nat} {o3 : Obj} {xn : Str} {tx : Tok} {p1 p2 p3 p4 p5 p6 p7 p8 p9 : Pos} (hsw : swapsWith (.ListComp (.Name (Str.ofString "other") p2) [⟨.Name (Str.ofString "other") p3, .Name (Str.ofString "rest") p4, [.Compare (.Name (Str.ofString "other") p5) [.NotEq] [.Name (Str.ofString "name") p6] p7], 0⟩] othScope p8) (some (.Name (Str.ofString "rest") p1)) p9.line (LEnv L fa cd) = pure true)
    (lc : LC w H L loose mean mg mb) (F : Fr H L s.heap m) (N : News H L s.heap lg) (hm : m (Str.ofString "rest") = some (.ref rs))
    (ho3 : (L + 1 + 1 + 1, o3) ∈ lg) (c3 : o3.data = .cell (some (.str xn tx))) (hrs : (rs, listOf svs.toArray n) ∈ lg) (hs : StrsIn svs rem) (hz : rem.length ≤ 100)
    (h : ∀ (D : Nat) ys nn h' tk', Fr H L h' (fun y => if y = Str.ofString "rest" then some (.ref D) else m y) → News H L h' ((D, listOf ys.toArray nn) :: lg) → StrsIn ys (rem.filter fun o => decide (o ≠ xn)) → (∀ q ∈ lg, q.1 ≠ D) → Qf .next { s with heap := h', toks := tk' }) :
    wpAny (model Challenge.rw_fy0015_01.row.toRowW.1 w) (callerA.deeper (LEnv L fa cd)) (exec (.Assign [.Name (Str.ofString "rest") p1] (.ListComp (.Name (Str.ofString "other") p2) [⟨.Name (Str.ofString "other") p3, .Name (Str.ofString "rest") p4, [.Compare (.Name (Str.ofString "other") p5) [.NotEq] [.Name (Str.ofString "name") p6] p7], 0⟩] othScope p8) p9) (LEnv L fa cd)) Qf E s := by
  obtain ⟨B1, X1, TT1, hb, l468⟩ := lc
  revert X1
  k_fill
  intro X1
  have T1 : TopRead topProg loose mg mb H := topRead_of TT1
  unfold LEnv lawParts othScope
  dsimp only
  have hll := hs.length
  refine LCt.Assign_ListComp_T F (by rfl) hsw (by with_unfolding_all rfl) (by decide) (by rfl) (by decide) (by rfl) (by rfl) (by rfl) ?_
  refine nameX_L F hm ?_
  refine LCt.CompSrcT.ledger rfl F N hrs (by rw [sizeLine_eq]; simp; omega) fun g => ?_
  refine restT_two (n := svs.length) (fun i ys nw => nw = lg ∧ StrsIn ys ((rem.take i).filter fun o => decide (o ≠ xn))) ?step ?fin svs.length 0 [] lg (by omega) ⟨rfl, .nil⟩
  case fin =>
    rintro ys nw ⟨rfl, hR2⟩
    intro D h' tk F' N' o1
    rw [hll, List.take_length] at hR2
    exact h D ys ys.length h' tk F' N' hR2 (off1_mem o1)
  case step =>
    rintro i ys nw hi ⟨rfl, hR2⟩ v I oI C oC D m₂ h' tk E' hv hoC hmx F' N' o3 ne3
    have hik : i < rem.length := by omega
    obtain ⟨tj, htj⟩ := hs.get (List.getElem?_eq_getElem hik)
    obtain rfl : v = .str rem[i] tj := Option.some.inj ((by simpa using hv : svs[i]? = some v).symm.trans htj)
    have htk : rem.take (i + 1) = rem.take i ++ [rem[i]] := by rw [List.take_succ_eq_append_getElem hik]
    rw [htk, List.filter_append]
    clear htk
    generalize hjj : rem[i] = j at *
    by_cases e1 : j = xn
    · have ef : [j].filter (fun o => decide (o ≠ xn)) = [] := by simp [e1]
      rw [ef, List.append_nil]
      right
      k_steps
      refine ⟨by simp [e1], CompEnd.intro F' N' nw (fun q hq => hq) o3 (.inr ⟨_, hrs, rfl, _, rfl⟩) ⟨rfl, hR2⟩⟩
    · have ef : [j].filter (fun o => decide (o ≠ xn)) = [j] := by simp [e1]
      rw [ef]
      left
      k_steps
      refine ⟨by simp [e1], ?_⟩
      k_steps
      refine CompEnd.intro F' N' nw (fun q hq => hq) o3 (.inr ⟨_, hrs, rfl, _, rfl⟩) ⟨rfl, ?_⟩
      exact hR2.snoc
theorem rest_item {prog : Program} {w : World} {A : Around} {E : Value → Shared → Prop} {s : Shared} {L : Addr} {h₀ : Heap} {news : List (Addr × Obj)} {value slice : PySem.Expr} {l : Addr} {vs : List Value} {xs : List Str} {n : Nat} {k : Int} {u : Tok} {Q : Value → Shared → Prop} (N : News h₀ L s.heap news) (hm : (l, listOf vs.toArray n) ∈ news)
    (hs : StrsIn vs xs) (h0 : 0 ≤ k) (h1 : k < (vs.length : Int)) (hz : vs.length ≤ 100) (h : ∀ x t, x ∈ xs → Q (.str x t) s)
    (ht : subscripted slice false (.ref l) (.int k u) = operate [.ref l, .int k u] (getItem (.ref l) (.int k u)) := by with_unfolding_all rfl) :
    wpAny (model prog w) A (subscriptTail value slice (.ref l) (.int k u)) Q E s := by
  have hk : k.toNat < xs.length := by rw [← hs.length]; omega
  obtain ⟨t, ht2⟩ := hs.get (List.getElem?_eq_getElem hk)
  exact item_at N hm h0 (by omega) ht2 (h _ t (List.getElem_mem hk)) ht
local macro_rules | `(tactic| walk_at "exec Assign cons ListComp") => `(tactic| (k_here; (with_reducible show wpAny _ _ (exec _ _) _ _ _); refine stop_s ?_))
local macro_rules | `(tactic| walk_at "subscriptTail Name Name ref int") => `(tactic| (k_here; (with_reducible show wpAny _ _ (subscriptTail _ _ (Value.ref _) (Value.int (Int.fmod _ _) _)) _ _ _); k_dflt (refine' rest_item ?N ?a ?s ?b ?c ?z ?_; (case N => k_asm); (case a => k_mem); (case s => with_reducible assumption); (case b => exact Int.fmod_nonneg_of_pos _ (by omega)); (case c => exact Int.fmod_lt_of_pos _ (by omega)); (case z => omega); k_whole); intro xN tN hN))
local macro_rules | `(tactic| walk_at "subscriptTail Name BinOp ref int") => `(tactic| (k_here; (with_reducible show wpAny _ _ (subscriptTail _ _ (Value.ref _) (Value.int (Int.fmod _ _) _)) _ _ _); k_dflt (refine' rest_item ?N ?a ?s ?b ?c ?z ?_; (case N => k_asm); (case a => k_mem); (case s => with_reducible assumption); (case b => exact Int.fmod_nonneg_of_pos _ (by omega)); (case c => exact Int.fmod_lt_of_pos _ (by omega)); (case z => omega); k_whole); intro xN tN hN))
local macro_rules | `(tactic| walk_at "subscriptTail Name Constant ref int") => `(tactic| (k_here; (with_reducible show wpAny _ _ (subscriptTail _ _ (Value.ref _) (Value.int (Int.fmod _ _) _)) _ _ _); k_dflt (refine' rest_item ?N ?a ?s ?b ?c ?z ?_; (case N => k_asm); (case a => k_mem); (case s => with_reducible assumption); (case b => exact Int.fmod_nonneg_of_pos _ (by omega)); (case c => exact Int.fmod_lt_of_pos _ (by omega)); (case z => omega); k_whole); intro xN tN hN))
local macro_rules | `(tactic| walk_at "subscriptTail Name UnaryOp ref int") => `(tactic| (k_here; (with_reducible show wpAny _ _ (subscriptTail _ _ (Value.ref _) (Value.int (Int.fmod _ _) _)) _ _ _); k_dflt (refine' rest_item ?N ?a ?s ?b ?c ?z ?_; (case N => k_asm); (case a => k_mem); (case s => with_reducible assumption); (case b => exact Int.fmod_nonneg_of_pos _ (by omega)); (case c => exact Int.fmod_lt_of_pos _ (by omega)); (case z => omega); k_whole); intro xN tN hN))
local macro_rules | `(tactic| walk_at "subscriptTail Subscript Name ref int") => `(tactic| (k_here; (with_reducible show wpAny _ _ (subscriptTail _ _ (Value.ref _) (Value.int (Int.fmod _ _) _)) _ _ _); k_dflt (refine' rest_item ?N ?a ?s ?b ?c ?z ?_; (case N => k_asm); (case a => k_mem); (case s => with_reducible assumption); (case b => exact Int.fmod_nonneg_of_pos _ (by omega)); (case c => exact Int.fmod_lt_of_pos _ (by omega)); (case z => omega); k_whole); intro xN tN hN))
local macro_rules | `(tactic| walk_at "subscriptTail Subscript BinOp ref int") => `(tactic| (k_here; (with_reducible show wpAny _ _ (subscriptTail _ _ (Value.ref _) (Value.int (Int.fmod _ _) _)) _ _ _); k_dflt (refine' rest_item ?N ?a ?s ?b ?c ?z ?_; (case N => k_asm); (case a => k_mem); (case s => with_reducible assumption); (case b => exact Int.fmod_nonneg_of_pos _ (by omega)); (case c => exact Int.fmod_lt_of_pos _ (by omega)); (case z => omega); k_whole); intro xN tN hN))
local macro_rules | `(tactic| walk_at "subscriptTail Subscript Constant ref int") => `(tactic| (k_here; (with_reducible show wpAny _ _ (subscriptTail _ _ (Value.ref _) (Value.int (Int.fmod _ _) _)) _ _ _); k_dflt (refine' rest_item ?N ?a ?s ?b ?c ?z ?_; (case N => k_asm); (case a => k_mem); (case s => with_reducible assumption); (case b => exact Int.fmod_nonneg_of_pos _ (by omega)); (case c => exact Int.fmod_lt_of_pos _ (by omega)); (case z => omega); k_whole); intro xN tN hN))
local macro_rules | `(tactic| walk_at "subscriptTail Subscript UnaryOp ref int") => `(tactic| (k_here; (with_reducible show wpAny _ _ (subscriptTail _ _ (Value.ref _) (Value.int (Int.fmod _ _) _)) _ _ _); k_dflt (refine' rest_item ?N ?a ?s ?b ?c ?z ?_; (case N => k_asm); (case a => k_mem); (case s => with_reducible assumption); (case b => exact Int.fmod_nonneg_of_pos _ (by omega)); (case c => exact Int.fmod_lt_of_pos _ (by omega)); (case z => omega); k_whole); intro xN tN hN))
set_option maxHeartbeats 1000000 in
theorem seg1 {w : World} {H : Heap} {L fa : Addr} {cd : Value} {loose : List Str} {mean : ExcName → Option Value} {mg mb : Str → Option Value} {s : Shared} {E : Value → Shared → Prop} {Q : Flow → Shared → Prop} {scr : Addr} {vs : List Value} {ns : List Int} {u : Str → Option Value} {kt : Tok}
    {rows : List Row} {x : Fx} {y : St} {xs rem : List Str} {R : List (Addr × Obj)} {I : Addr} {oI : Obj} {i : Nat} {rest : List Stmt} (lc : LC w H L loose mean mg mb) (FX : Fixed w L rows x R) (NW : Now w L rows x i xs rem y R)
    (F : Fr H L s.heap (upds ((Str.ofString "k", .int (i : Int) kt) :: frame scr x y) u)) (N : News H L s.heap (led L x y ((I, oI) :: R)))
    (hi : i < 4) (hS : H.IsList scr vs.toArray) (hIn : IntsAre vs ns) (hlen : ns.length ≤ 63) (OI : Off L x.d y.l [(I, oI)])
    (h : ∀ (xn : Str) (tx : Tok) (o3' : Obj) (rs' : Addr) svs' ns' m' h' tk', xn ∈ rem → o3'.data = .cell (some (.str xn tx)) → (∃ nz tz, m' (Str.ofString "number") = some (.int nz tz)) → (∀ q ∈ (Str.ofString "k", .int (i : Int) kt) :: frame scr x { y with rs := rs' }, m' q.1 = some q.2) →
      Fr H L h' m' → News H L h' ((rs', listOf svs'.toArray ns') :: led L x { y with o3 := o3' } ((I, oI) :: R)) → StrsIn svs' (rem.filter fun o => decide (o ≠ xn)) → (∀ q ∈ led L x { y with o3 := o3' } ((I, oI) :: R), q.1 ≠ rs') →
      wpAny (model Challenge.rw_fy0015_01.row.toRowW.1 w) (callerA.deeper (LEnv L fa cd)) (execs rest (LEnv L fa cd)) Q E { s with heap := h', toks := tk' }) :
    wpAny (model Challenge.rw_fy0015_01.row.toRowW.1 w) (callerA.deeper (LEnv L fa cd)) (execs (tS1.1 :: tS2.1 :: tS3.1 :: rest) (LEnv L fa cd)) Q E s := by
  have lc0 := lc
  obtain ⟨B1, X1, TT1, hb, l468⟩ := lc
  revert X1
  k_fill
  intro X1
  have T1 : TopRead topProg loose mg mb H := topRead_of TT1
  unfold LEnv lawParts tS1 tS2 tS3
  unfold led key8 at N
  unfold frame at F
  dsimp only
  (try k_fold)
  have hvl := hIn.length
  have hsv := NW.rs_is
  have hsl := hsv.length
  have hrl := NW.rem_len
  have hrs := NW.rs_in
  obtain ⟨v3, c3⟩ := NW.c3
  have z3 := NW.off.c3
  have z3I := OI.c3
  have zI : I ≠ L + 1 + 1 + 1 := OI.c3 _ (.head _)
  have zl : y.l ≠ L + 1 + 1 + 1 := by have := NW.l5; show @Ne Nat _ _; simp only [c5a] at this; omega
  have zd : x.d ≠ L + 1 + 1 + 1 := by have := FX.d5; show @Ne Nat _ _; simp only [c5a] at this; omega
  k_steps
  all_goals (
    refine s_go (comp_rest (by rfl) lc0 (by k_asm) (by k_asm) (by (simp only [upds, ofString_eq, String.reduceEq, reduceIte] <;> exact rfl)) (by k_mem) (by assumption) (by k_mem) hsv (by omega) ?_)
    intro D ys nn h9 tk9 F9 N9 hs9 q9
    exact h _ _ _ D ys nn _ h9 _ (by assumption) (by assumption) ⟨_, _, (by (simp only [upds, ofString_eq, String.reduceEq, reduceIte] <;> exact rfl))⟩ (by
      intro q hq
      simp only [frame, List.mem_cons, List.not_mem_nil, or_false] at hq
      rcases hq with rfl | rfl | rfl | rfl | rfl | rfl | rfl | rfl <;> (simp only [upds, ofString_eq, String.reduceEq, reduceIte] <;> exact rfl)) F9 (by unfold led key8; exact N9) hs9 (by unfold led key8; exact q9))
end

/- part MT2 -/
theorem fresh_MT2 : True ∧ True := by
  w_top off
  first
    | (walk1; done)
    | exact ⟨True.intro, True.intro⟩
section
open PyProof.Rows.LCg PyProof.Rows.LCt
/-! One turn of the law's loop: due, behind. -/
structure Safe (L d' l' I : Addr) (R : List (Addr × Obj)) : Prop where
  off : Off L d' l' R
  nI : ∀ p ∈ R, p.1 ≠ I
theorem Safe.cons {L d' l' I a : Addr} {o5 o4 o3 o2 o1 od ol oI o : Obj} {ps1 ps ps2 : Array Value} {pre R R₀ : List (Addr × Obj)} (h : Safe L d' l' I R) (k : ∀ q ∈ pre ++ key8 L o5 o4 o3 o2 o1 ps1 ps ps2 ((d', od) :: (l', ol) :: (I, oI) :: R₀), q.1 ≠ a) : Safe L d' l' I ((a, o) :: R) := by
  have k2 : ∀ q ∈ key8 L o5 o4 o3 o2 o1 ps1 ps ps2 ((d', od) :: (l', ol) :: (I, oI) :: R₀), a ≠ q.1 := fun q hq => (k q (List.mem_append_right _ hq)).symm
  unfold key8 at k2
  have one : ∀ b : Addr, a ≠ b → ∀ p ∈ [(a, o)], p.1 ≠ b := fun b e p hp => by
    rcases List.mem_cons.mp hp with rfl | hp
    · exact e
    · cases hp
  have z : Off L d' l' [(a, o)] := ⟨one _ (k2 _ (.head _)), one _ (k2 _ (.tail _ (.head _))), one _ (k2 _ (.tail _ (.tail _ (.head _)))), one _ (k2 _ (.tail _ (.tail _ (.tail _ (.tail _ (.tail _ (.head _))))))), one _ (k2 _ (.tail _ (.tail _ (.tail _ (.tail _ (.tail _ (.tail _ (.head _)))))))),
    one _ (k2 _ (.tail _ (.tail _ (.tail _ (.tail _ (.tail _ (.tail _ (.tail _ (.head _))))))))), one _ (k2 _ (.tail _ (.tail _ (.tail _ (.tail _ (.tail _ (.tail _ (.tail _ (.tail _ (.head _)))))))))), one _ (k2 _ (.tail _ (.tail _ (.tail _ (.tail _ (.tail _ (.tail _ (.tail _ (.tail _ (.tail _ (.head _)))))))))))⟩
  refine ⟨z.app h.off, fun p hp => ?_⟩
  rcases List.mem_cons.mp hp with rfl | hp
  · exact k2 _ (.tail _ (.tail _ (.tail _ (.tail _ (.tail _ (.tail _ (.tail _ (.tail _ (.tail _ (.tail _ (.head _)))))))))))
  · exact h.nI p hp
theorem kv_none {news : List (Addr × Obj)} {kvs : List (Str × Value)} {D : List (Str × Dat)} (h : KvIn news kvs D) {x : Str} (e : getD D x = none) : valueAt kvs x = none := by
  induction h with
  | nil => rfl
  | cons hd _ ih =>
    rename_i z v d kvs D hk
    unfold getD at e ih
    unfold valueAt at ih ⊢
    rw [List.find?_cons] at e ⊢
    by_cases hz : z = x
    · simp [hz] at e
    · simp only [hz, decide_false] at e ⊢
      exact ih e
theorem kv_some {news : List (Addr × Obj)} {kvs : List (Str × Value)} {D : List (Str × Dat)} (h : KvIn news kvs D) {x : Str} {d : Dat} (e : getD D x = some d) : ∃ v, valueAt kvs x = some v ∧ DatIn news v d := by
  induction h with
  | nil => cases e
  | cons hd _ ih =>
    rename_i z v d2 kvs D hk
    unfold getD at e ih
    unfold valueAt at ih ⊢
    rw [List.find?_cons] at e ⊢
    by_cases hz : z = x
    · simp only [hz, decide_true, Option.map_some, Option.some.injEq] at e ⊢
      exact ⟨v, rfl, e ▸ hd⟩
    · simp only [hz, decide_false] at e ⊢
      exact ih e
theorem ask_gone {T : List Row} {x : Str} {a : Int} {b : Option Nat} (h : scan T x T.length = ⟨none, a, b⟩) : askDat T x = .list [.str (Str.ofString "gone")] := by unfold askDat; rw [h]
theorem ask_told {T : List Row} {x : Str} {a : Int} {b e : Nat} (h : scan T x T.length = ⟨some b, a, some e⟩) : askDat T x = .list [.str (Str.ofString "told"), .list (((T.drop b).take (e + 1 - b)).map rowDat)] := by unfold askDat; rw [h]
theorem ask_never {T : List Row} {x : Str} {a : Int} {b : Nat} (h : scan T x T.length = ⟨some b, a, none⟩) : askDat T x = .list [.str (Str.ofString "never ended")] := by unfold askDat; rw [h]
section
variable {prog : Program} {w : World} {A : Around} {E : Value → Shared → Prop} {s : Shared} {h₀ : Heap} {L d : Addr} {news : List (Addr × Obj)} {od : Obj} {kvs : List (Str × Value)} {b : Bool}
theorem dnotin2 {x : Str} {t : Tok} {Q : Value → Shared → Prop} (N : News h₀ L s.heap news) (hm : (d, od) ∈ news) (hod : od.IsDictOf (strKind prog w) kvs) (hd : @LT.lt Nat _ 100 d) (hb : (valueAt kvs x).isSome = b) (h : Q (.bool (!b)) { s with toks := s.toks + 1 }) :
    wpAny (model prog w) A (compareOp .NotIn (.str x t) (.ref d)) Q E s := dnotin N hm hod hd (by rw [hb]; exact h)
theorem din2 {x : Str} {t : Tok} {Q : Value → Shared → Prop} (N : News h₀ L s.heap news) (hm : (d, od) ∈ news) (hod : od.IsDictOf (strKind prog w) kvs) (hd : @LT.lt Nat _ 100 d) (hb : (valueAt kvs x).isSome = b) (h : Q (.bool b) { s with toks := s.toks + 1 }) :
    wpAny (model prog w) A (compareOp .In (.str x t) (.ref d)) Q E s := din N hm hod hd (by rw [hb]; exact h)
theorem inotin2 {l : Addr} {vs : List Value} {n : Nat} {ns : List Nat} {k : Nat} {t : Tok} {Q : Value → Shared → Prop} (N : News h₀ L s.heap news) (hm : (l, listOf vs.toArray n) ∈ news) (hi : IntsAre vs (natDat ns)) (hb : decide (k ∈ ns) = b) (h : Q (.bool (!b)) s) :
    wpAny (model prog w) A (compareOp .NotIn (.int (k : Int) t) (.ref l)) Q E s := by
  refine notin_list_ints (N.isList hm) hi ?_
  have e : (natDat ns).any (fun x => x == (k : Int)) = b := by
    rw [← hb]
    unfold natDat
    rw [List.any_map, Bool.eq_iff_iff]
    simp only [List.any_eq_true, Function.comp, beq_iff_eq, decide_eq_true_eq]
    constructor
    · rintro ⟨a, h1, h2⟩
      have : a = k := Int.ofNat.inj h2
      exact this ▸ h1
    · exact fun h => ⟨k, h, rfl⟩
  rw [e]
  exact h
end
local macro_rules | `(tactic| walk_at "compareOp NotIn str ref") => `(tactic| (k_here; k_dflt (refine' dnotin2 ?N ?a ?b ?c ?z ?_; (case N => k_asm); (case a => k_mem); (case b => with_reducible assumption); (case c => with_reducible assumption); (case z => with_reducible assumption); k_whole)))
local macro_rules | `(tactic| walk_at "compareOp In str ref") => `(tactic| (k_here; k_dflt (refine' din2 ?N ?a ?b ?c ?z ?_; (case N => k_asm); (case a => k_mem); (case b => with_reducible assumption); (case c => with_reducible assumption); (case z => with_reducible assumption); k_whole)))
local macro_rules | `(tactic| walk_at "compareOp NotIn int ref") => `(tactic| (k_here; k_dflt (refine' inotin2 ?N ?a ?b ?z ?_; (case N => k_asm); (case a => k_mem); (case b => with_reducible assumption); (case z => with_reducible assumption); k_whole)))
local macro_rules | `(tactic| walk_at "subscriptTail Name Name ref str") => `(tactic| (k_here; (with_reducible show wpAny _ _ (subscriptTail _ _ (Value.ref _) (Value.str _ _)) _ _ _); k_dflt (refine' dsub ?N ?a ?b ?z ?_; (case N => k_asm); (case a => k_mem); (case b => with_reducible assumption); (case z => with_reducible assumption); k_whole)))
local macro_rules | `(tactic| walk_at "exec Assign cons ListComp") => `(tactic| (k_here; (with_reducible show wpAny _ _ (exec _ _) _ _ _); refine stop_s ?_))
local macro_rules | `(tactic| walk_at "eval ListComp") => `(tactic| (k_here; (with_reducible show wpAny _ _ (eval (PySem.Expr.ListComp _ _ _ _) _) _ _ _); refine stop_e ?_))
set_option maxHeartbeats 1000000 in
theorem seg2 {w : World} {H : Heap} {L fa : Addr} {cd : Value} {loose : List Str} {mean : ExcName → Option Value} {mg mb : Str → Option Value} {s : Shared} {E : Value → Shared → Prop} {Q : Flow → Shared → Prop} {scr : Addr} {u : Str → Option Value} {kt tz tx : Tok} {nz : Int}
    {rows : List Row} {bm : Nat} {x : Fx} {y : St} {xs rem : List Str} {xn : Str} {R : List (Addr × Obj)} {I : Addr} {oI : Obj} {i : Nat} {rest : List Stmt} (lc : LC w H L loose mean mg mb) (hbl : BlF rows bm) (hz : rows.length ≤ 200) (FX : Fixed w L rows x R) (SF : Safe L x.d y.l I R)
    (c3 : y.o3.data = .cell (some (.str xn tx))) (c4 : ∃ v, y.o4.data = .cell v) (c5 : ∃ v, y.o5.data = .cell v) (l5 : @LT.lt Nat _ (c5a L) y.l) (hlf : (y.lf, listOf y.lvs.toArray y.nl) ∈ R) (hli : IntsAre y.lvs (natDat (kix (remain rows xs) rows.length)))
    (F : Fr H L s.heap (upds ((Str.ofString "number", .int nz tz) :: (Str.ofString "k", .int (i : Int) kt) :: frame scr x y) u)) (N : News H L s.heap (led L x y ((I, oI) :: R)))
    (OI : Off L x.d y.l [(I, oI)])
    (h : ∀ (du bh : Addr) bvs nb o5' o4' R' m' h' tk', (∀ q ∈ (Str.ofString "due", .ref du) :: (Str.ofString "behind", .ref bh) :: (Str.ofString "number", .int nz tz) :: (Str.ofString "k", .int (i : Int) kt) :: frame scr x y, m' q.1 = some q.2) →
      Fr H L h' m' → News H L h' (led L x { y with o5 := o5', o4 := o4' } ((I, oI) :: R')) → (∃ v, o5'.data = .cell v) → (∃ v, o4'.data = .cell v) → (∀ q ∈ R, q ∈ R') → Safe L x.d y.l I R' → DatIn R' (.ref du) (askDat (left rows (remain rows xs)) xn) → (bh, listOf bvs.toArray nb) ∈ R' → IntsAre bvs (natDat (kix (remain rows (xn :: xs)) rows.length)) →
      wpAny (model Challenge.rw_fy0015_01.row.toRowW.1 w) (callerA.deeper (LEnv L fa cd)) (execs rest (LEnv L fa cd)) Q E { s with heap := h', toks := tk' }) :
    wpAny (model Challenge.rw_fy0015_01.row.toRowW.1 w) (callerA.deeper (LEnv L fa cd)) (execs (tS4.1 :: tS5.1 :: rest) (LEnv L fa cd)) Q E s := by
  have lc0 := lc
  obtain ⟨B1, X1, TT1, hb, l468⟩ := lc
  revert X1
  k_fill
  intro X1
  have T1 : TopRead topProg loose mg mb H := topRead_of TT1
  unfold LEnv lawParts tS4 tS5
  unfold led key8 at N
  unfold frame at F
  dsimp only
  (try k_fold)
  obtain ⟨v4, c4⟩ := c4
  obtain ⟨v5, c5⟩ := c5
  have z4 := SF.off.c4
  have z5 := SF.off.c5
  have l6 : @LT.lt Nat _ (L + 5) y.l := l5
  have d6 : @LT.lt Nat _ (L + 5) x.d := FX.d5
  have zI4 : I ≠ L + 1 + 1 + 1 + 1 := OI.c4 _ (.head _)
  have zl4 : y.l ≠ L + 1 + 1 + 1 + 1 := by show @Ne Nat _ _; omega
  have zd4 : x.d ≠ L + 1 + 1 + 1 + 1 := by show @Ne Nat _ _; omega
  have zI5 : I ≠ L + 1 + 1 + 1 + 1 + 1 := OI.c5 _ (.head _)
  have zl5 : y.l ≠ L + 1 + 1 + 1 + 1 + 1 := by show @Ne Nat _ _; omega
  have zd5 : x.d ≠ L + 1 + 1 + 1 + 1 + 1 := by show @Ne Nat _ _; omega
  have c1 := FX.c1
  have c2 := FX.c2
  have fd1 := FX.d1_in
  have fd2 := FX.d2_in
  have f1 := FX.d1_100
  have f2 := FX.d2_100
  obtain ⟨kv1, hk1, hv1⟩ := FX.d1_is
  obtain ⟨kv2, hk2, hv2⟩ := FX.d2_is
  rcases turn hbl xs xn with ⟨eo | ⟨l, eo, hnl⟩, hsc, hkp⟩ | ⟨l, k, eo, hl, ep, hlk, hkn, hsc, hrk, hkp⟩ | ⟨l, v, eo, hl, ep, hsc, hkp⟩
  · have vo : (valueAt kv1 xn).isSome = false := by rw [kv_none hv1 eo]; rfl
    k_steps
    rename_i Du h6a l6 hl6 h6 F6 N6
    refine h Du y.lf y.lvs y.nl _ _ ((Du, _) :: R) _ h6 _ (by
      intro q hq
      simp only [frame, List.mem_cons, List.not_mem_nil, or_false] at hq
      rcases hq with rfl | rfl | rfl | rfl | rfl | rfl | rfl | rfl | rfl | rfl | rfl <;> (simp only [upds, ofString_eq, String.reduceEq, reduceIte] <;> exact rfl)) F6 (by unfold led; exact news_sub N6 (by (try unfold key8); (repeat' (first | with_reducible exact sbs_nil | with_reducible refine sbs_cons ?_ ?_ | with_reducible refine sbs_app ?_ ?_)); all_goals (repeat' (first | with_reducible exact List.Mem.head _ | with_reducible exact sbs_refl | with_reducible refine List.Mem.tail _ ?_ | with_reducible refine sbs_tail ?_ | with_reducible exact sbs_right | with_reducible refine sbs_left ?_ | with_reducible refine mem_right9 ?_)))) ⟨_, c5⟩ ⟨_, c4⟩ (by (try unfold key8); (repeat' (first | with_reducible exact sbs_nil | with_reducible refine sbs_cons ?_ ?_ | with_reducible refine sbs_app ?_ ?_)); all_goals (repeat' (first | with_reducible exact List.Mem.head _ | with_reducible exact sbs_refl | with_reducible refine List.Mem.tail _ ?_ | with_reducible refine sbs_tail ?_ | with_reducible exact sbs_right | with_reducible refine sbs_left ?_ | with_reducible refine mem_right9 ?_))) (SF.cons (pre := [_, _]) l6.ne) ?_ (.tail _ hlf) ?_
    · rw [ask_gone (T := left rows (remain rows xs)) (by rw [left_len]; exact hsc)]
      exact DatIn.list (vs := [Value.str (Str.ofString "gone") _]) (.head _) (DatAll.cons (DatIn.str _ _) DatAll.nil)
    · rw [show remain rows (xn :: xs) = _ from hkp]
      exact hli
  · obtain ⟨vl, vo1, vd⟩ := kv_some hv1 eo
    cases vd with
    | int _ tl =>
      have vo : (valueAt kv1 xn).isSome = true := by rw [vo1]; rfl
      have vn : decide (l ∈ kix (remain rows xs) rows.length) = false := decide_eq_false hnl
      k_steps
      rename_i Du h6a l6 hl6 h6 F6 N6
      refine h Du y.lf y.lvs y.nl _ _ ((Du, _) :: R) _ h6 _ (by
        intro q hq
        simp only [frame, List.mem_cons, List.not_mem_nil, or_false] at hq
        rcases hq with rfl | rfl | rfl | rfl | rfl | rfl | rfl | rfl | rfl | rfl | rfl <;> (simp only [upds, ofString_eq, String.reduceEq, reduceIte] <;> exact rfl)) F6 (by unfold led; exact news_sub N6 (by (try unfold key8); (repeat' (first | with_reducible exact sbs_nil | with_reducible refine sbs_cons ?_ ?_ | with_reducible refine sbs_app ?_ ?_)); all_goals (repeat' (first | with_reducible exact List.Mem.head _ | with_reducible exact sbs_refl | with_reducible refine List.Mem.tail _ ?_ | with_reducible refine sbs_tail ?_ | with_reducible exact sbs_right | with_reducible refine sbs_left ?_ | with_reducible refine mem_right9 ?_)))) ⟨_, c5⟩ ⟨_, c4⟩ (by (try unfold key8); (repeat' (first | with_reducible exact sbs_nil | with_reducible refine sbs_cons ?_ ?_ | with_reducible refine sbs_app ?_ ?_)); all_goals (repeat' (first | with_reducible exact List.Mem.head _ | with_reducible exact sbs_refl | with_reducible refine List.Mem.tail _ ?_ | with_reducible refine sbs_tail ?_ | with_reducible exact sbs_right | with_reducible refine sbs_left ?_ | with_reducible refine mem_right9 ?_))) (SF.cons (pre := [_, _]) l6.ne) ?_ (.tail _ hlf) ?_
      · rw [ask_gone (T := left rows (remain rows xs)) (by rw [left_len]; exact hsc)]
        exact DatIn.list (vs := [Value.str (Str.ofString "gone") _]) (.head _) (DatAll.cons (DatIn.str _ _) DatAll.nil)
      · rw [show remain rows (xn :: xs) = _ from hkp]
        exact hli
  · obtain ⟨vl, vo1, vd⟩ := kv_some hv1 eo
    obtain ⟨vp, vp1, vpd⟩ := kv_some hv2 ep
    cases vd with
    | int _ tl =>
      have vo : (valueAt kv1 xn).isSome = true := by rw [vo1]; rfl
      have vn : decide (l ∈ kix (remain rows xs) rows.length) = true := decide_eq_true hl
      have vq : (valueAt kv2 xn).isSome = true := by rw [vp1]; rfl
      cases vpd with
      | tuple htp hall =>
        cases hall with
        | cons h1 h2 =>
          cases h2 with
          | cons h3 h4 =>
            cases h4
            cases h1
            cases h3
            k_steps
            refine e_go (comp_told (l := l) (k := k) (R := R) lc0 (by k_asm) (by k_asm) (by (simp only [upds, ofString_eq, String.reduceEq, reduceIte] <;> exact rfl)) (by (try unfold key8); (repeat' (first | with_reducible exact sbs_nil | with_reducible refine sbs_cons ?_ ?_ | with_reducible refine sbs_app ?_ ?_)); all_goals (repeat' (first | with_reducible exact List.Mem.head _ | with_reducible exact sbs_refl | with_reducible refine List.Mem.tail _ ?_ | with_reducible refine sbs_tail ?_ | with_reducible exact sbs_right | with_reducible refine sbs_left ?_ | with_reducible refine mem_right9 ?_))) (by k_mem) c1 (by k_mem) (by assumption) (by k_mem) (by assumption) FX.rl_in FX.rl_is hlf hli hz fun D ys nn h5 tk5 F5 N5 hR5 q5 => ?_)
            k_steps
            rename_i Du h6a l6 hl6 h6 F6 N6
            refine s_go (comp_behind (l := l) (k := k) (R := R) (by rfl) lc0 F6 N6 (by (simp only [upds, ofString_eq, String.reduceEq, reduceIte] <;> exact rfl)) (by (try unfold key8); (repeat' (first | with_reducible exact sbs_nil | with_reducible refine sbs_cons ?_ ?_ | with_reducible refine sbs_app ?_ ?_)); all_goals (repeat' (first | with_reducible exact List.Mem.head _ | with_reducible exact sbs_refl | with_reducible refine List.Mem.tail _ ?_ | with_reducible refine sbs_tail ?_ | with_reducible exact sbs_right | with_reducible refine sbs_left ?_ | with_reducible refine mem_right9 ?_))) (by k_mem) (by assumption) (by k_mem) (by assumption) hlf hli hz fun B bvs bn h7 tk7 F7 N7 hI7 q7 => ?_)
            k_steps
            refine h Du B bvs bn _ _ ((B, _) :: (Du, _) :: (D, _) :: R) _ h7 tk7 (by
              intro q hq
              simp only [frame, List.mem_cons, List.not_mem_nil, or_false] at hq
              rcases hq with rfl | rfl | rfl | rfl | rfl | rfl | rfl | rfl | rfl | rfl | rfl <;> (simp only [upds, ofString_eq, String.reduceEq, reduceIte] <;> exact rfl)) F7 (by unfold led; exact news_sub N7 (by (try unfold key8); (repeat' (first | with_reducible exact sbs_nil | with_reducible refine sbs_cons ?_ ?_ | with_reducible refine sbs_app ?_ ?_)); all_goals (repeat' (first | with_reducible exact List.Mem.head _ | with_reducible exact sbs_refl | with_reducible refine List.Mem.tail _ ?_ | with_reducible refine sbs_tail ?_ | with_reducible exact sbs_right | with_reducible refine sbs_left ?_ | with_reducible refine mem_right9 ?_)))) ⟨_, by assumption⟩ ⟨_, by assumption⟩ (by (try unfold key8); (repeat' (first | with_reducible exact sbs_nil | with_reducible refine sbs_cons ?_ ?_ | with_reducible refine sbs_app ?_ ?_)); all_goals (repeat' (first | with_reducible exact List.Mem.head _ | with_reducible exact sbs_refl | with_reducible refine List.Mem.tail _ ?_ | with_reducible refine sbs_tail ?_ | with_reducible exact sbs_right | with_reducible refine sbs_left ?_ | with_reducible refine mem_right9 ?_))) (((SF.cons (pre := [_, _]) q5).cons (pre := [_, _, _]) l6.ne).cons (pre := [_, _, _, _]) q7) ?_ (.head _) ?_
            · rw [ask_told (T := left rows (remain rows xs)) (by rw [left_len]; exact hsc)]
              refine DatIn.list (vs := [Value.str (Str.ofString "told") _, Value.ref D]) (.tail _ (.head _)) (DatAll.cons (DatIn.str _ _) (DatAll.cons (DatIn.list (vs := ys) (.tail _ (.tail _ (.head _))) ?_) DatAll.nil))
              rw [left_told (rows := rows) hlk hkn rfl hrk]
              exact DatAll.mono (fun p hp => .tail _ (.tail _ (.tail _ hp))) hR5
            · rw [show remain rows (xn :: xs) = _ from hkp]
              have e9 : kix (fun j => kept (Dof (prOf rows) xs) j && !(decide (l ≤ j) && decide (j < k))) rows.length = (kix (remain rows xs) rows.length).filter fun j => !(decide (l ≤ j) && decide (j < k)) := by
                unfold kix; rw [List.filter_filter]; congr 1; funext j; rw [Bool.and_comm]
              rw [e9]
              exact hI7
  · obtain ⟨vl, vo1, vd⟩ := kv_some hv1 eo
    cases vd with
    | int _ tl =>
      have vo : (valueAt kv1 xn).isSome = true := by rw [vo1]; rfl
      have vn : decide (l ∈ kix (remain rows xs) rows.length) = true := decide_eq_true hl
      have vq : (valueAt kv2 xn).isSome = false := by rw [kv_none hv2 ep]; rfl
      k_steps
      rename_i D0 h0a l0 hl0 T0 h0b l0b hl0b h0c h0d h6 F6 N6 tk0a tk0b
      refine h D0 y.lf y.lvs y.nl _ _ ((D0, _) :: R) _ h6 _ (by
        intro q hq
        simp only [frame, List.mem_cons, List.not_mem_nil, or_false] at hq
        rcases hq with rfl | rfl | rfl | rfl | rfl | rfl | rfl | rfl | rfl | rfl | rfl <;> (simp only [upds, ofString_eq, String.reduceEq, reduceIte] <;> exact rfl)) F6 (by unfold led; exact news_sub N6 (by (try unfold key8); (repeat' (first | with_reducible exact sbs_nil | with_reducible refine sbs_cons ?_ ?_ | with_reducible refine sbs_app ?_ ?_)); all_goals (repeat' (first | with_reducible exact List.Mem.head _ | with_reducible exact sbs_refl | with_reducible refine List.Mem.tail _ ?_ | with_reducible refine sbs_tail ?_ | with_reducible exact sbs_right | with_reducible refine sbs_left ?_ | with_reducible refine mem_right9 ?_)))) ⟨_, c5⟩ ⟨_, c4⟩ (by (try unfold key8); (repeat' (first | with_reducible exact sbs_nil | with_reducible refine sbs_cons ?_ ?_ | with_reducible refine sbs_app ?_ ?_)); all_goals (repeat' (first | with_reducible exact List.Mem.head _ | with_reducible exact sbs_refl | with_reducible refine List.Mem.tail _ ?_ | with_reducible refine sbs_tail ?_ | with_reducible exact sbs_right | with_reducible refine sbs_left ?_ | with_reducible refine mem_right9 ?_))) (SF.cons (pre := []) l0.ne) ?_ (.tail _ hlf) ?_
      · rw [ask_never (T := left rows (remain rows xs)) (by rw [left_len]; exact hsc)]
        exact DatIn.list (vs := [Value.str (Str.ofString "never ended") _]) (.head _) (DatAll.cons (DatIn.str _ _) DatAll.nil)
      · rw [show remain rows (xn :: xs) = _ from hkp]
        exact hli
end

/- part MT3 -/
theorem fresh_MT3 : True ∧ True := by
  w_top off
  first
    | (walk1; done)
    | exact ⟨True.intro, True.intro⟩
section
local macro_rules | `(tactic| walk_at "compareOp NotEq ref ref") => `(tactic| (k_here; (with_reducible show wpAny _ _ (compareOp CmpOp.NotEq (Value.ref _) (Value.ref _)) _ _ _); refine stop_cmp ?_))
local macro_rules | `(tactic| walk_at "compareOp Eq ref ref") => `(tactic| (k_here; (with_reducible show wpAny _ _ (compareOp CmpOp.Eq (Value.ref _) (Value.ref _)) _ _ _); refine stop_cmp ?_))
section
open PyProof.Rows.LCg PyProof.Rows.LCt
/-! One turn of the law's loop: what get_xlist tells. -/
theorem row_ok2 {r : Row} (h : rowOk r = true) (n : Nat) : kqdOk (n + 2) (rowDat r) = true := by
  obtain ⟨c, v⟩ := r
  cases v with
  | s x => simpa [rowOk, rowDat, Cell.dat, kqdOk] using h
  | i x => simp [rowDat, Cell.dat, kqdOk]
theorem rows_ok3 {rs : List Row} (h : ∀ r ∈ rs, rowOk r = true) (n : Nat) : kqdOk (n + 3) (.list (rs.map rowDat)) = true := by
  simp only [kqdOk, List.all_map, List.all_eq_true, Function.comp]
  exact fun r hr => row_ok2 (h r hr) n
theorem str_ok {n : Nat} {x : Str} (h : PyData.strOk x = true) : kqdOk n (.str x) = true := by cases n <;> simpa [kqdOk] using h
theorem ask_ok {T : List Row} (h : ∀ r ∈ T, rowOk r = true) (x : Str) : kqdOk 8 (askDat T x) = true := by
  have s1 : PyData.strOk (Str.ofString "gone") = true := by decide +kernel
  have s2 : PyData.strOk (Str.ofString "told") = true := by decide +kernel
  have s3 : PyData.strOk (Str.ofString "never ended") = true := by decide +kernel
  unfold askDat
  split
  · simp only [kqdOk, List.all_cons, List.all_nil, Bool.and_true]; exact s1
  · simp only [kqdOk, List.all_cons, List.all_nil, Bool.and_true, s2, Bool.true_and, List.all_map, List.all_eq_true, Function.comp]
    exact fun r hr => row_ok2 (h r (List.mem_of_mem_drop (List.mem_of_mem_take hr))) 4
  · simp only [kqdOk, List.all_cons, List.all_nil, Bool.and_true]; exact s3
section
variable {prog : Program} {w : World} {A : Around} {E : Value → Shared → Prop} {s : Shared} {L : Addr} {h₀ : Heap} {news : List (Addr × Obj)} {Q : Value → Shared → Prop} {a b : Value} {d e : Dat}
theorem ne_same (N : News h₀ L s.heap news) (Da : DatIn news a d) (Db : DatIn news b d) (hd : kqdOk 8 d = true) (hu : A.units + 64 < cLine) (h : Q (.bool false) s) : wpAny (model prog w) A (compareOp .NotEq a b) Q E s :=
  dat_ne N Da Db hd hd hu (by rw [(dat_eqv hd hd).1 rfl]; exact h)
theorem ne_diff (N : News h₀ L s.heap news) (Da : DatIn news a d) (Db : DatIn news b e) (hd : kqdOk 8 d = true) (he : kqdOk 8 e = true) (hne : d ≠ e) (hu : A.units + 64 < cLine) (h : Q (.bool true) s) : wpAny (model prog w) A (compareOp .NotEq a b) Q E s :=
  dat_ne N Da Db hd he hu (by rw [(dat_eqv hd he).2 hne]; exact h)
theorem eq_same (N : News h₀ L s.heap news) (Da : DatIn news a d) (Db : DatIn news b d) (hd : kqdOk 8 d = true) (hu : A.units + 64 < cLine) (h : Q (.bool true) s) : wpAny (model prog w) A (compareOp .Eq a b) Q E s :=
  dat_eq N Da Db hd hd hu (by rw [(dat_eqv hd hd).1 rfl]; exact h)
end
theorem nm_short (k : Nat) : (nm k).length ≤ 100 := by
  unfold nm
  split <;> decide +kernel
theorem led_subR {L : Addr} {x : Fx} {y : St} {a R : List (Addr × Obj)} : ∀ p ∈ led L x y R, p ∈ a ++ led L x y R := fun _ hp => List.mem_append_right _ hp
local macro_rules | `(tactic| walk_at "eval ListComp") => `(tactic| (k_here; (with_reducible show wpAny _ _ (eval (PySem.Expr.ListComp _ _ _ _) _) _ _ _); refine stop_e ?_))
set_option maxHeartbeats 2000000 in
theorem seg3 {w : World} {H : Heap} {L fa : Addr} {cd : Value} {loose : List Str} {mean : ExcName → Option Value} {mg mb : Str → Option Value} {s : Shared} {E : Value → Shared → Prop} {Q : Flow → Shared → Prop} {scr du bh : Addr} {u : Str → Option Value} {kt tz tx : Tok} {nz : Int}
    {rows : List Row} {bm : Nat} {x : Fx} {y : St} {xs : List Str} {xn : Str} {R : List (Addr × Obj)} {I : Addr} {oI : Obj} {i : Nat} {rest : List Stmt} (lc : LC w H L loose mean mg mb) (hbl : BlF rows bm) (hz : rows.length ≤ 200) (FX : Fixed w L rows x R)
    (c3 : y.o3.data = .cell (some (.str xn tx))) (hx4 : ∃ k, k < 4 ∧ xn = nm k) (od_is : y.od.IsDictOf (strKind Challenge.rw_fy0015_01.row.toRowW.1 w) [(APP, .ref y.l), (REST, .ref x.l2)]) (tags : TagsIn R y.vs (left rows (remain rows xs)))
    (hlf : (y.lf, listOf y.lvs.toArray y.nl) ∈ R) (hli : IntsAre y.lvs (natDat (kix (remain rows xs) rows.length))) (hdu : DatIn R (.ref du) (askDat (left rows (remain rows xs)) xn))
    (F : Fr H L s.heap (upds ((Str.ofString "due", .ref du) :: (Str.ofString "behind", .ref bh) :: (Str.ofString "number", .int nz tz) :: (Str.ofString "k", .int (i : Int) kt) :: frame scr x y) u)) (N : News H L s.heap (led L x y ((I, oI) :: R)))
    (h : ∀ m' h' tk', (∀ q ∈ (Str.ofString "told", .bool true) :: (Str.ofString "due", .ref du) :: (Str.ofString "behind", .ref bh) :: (Str.ofString "number", .int nz tz) :: (Str.ofString "k", .int (i : Int) kt) :: frame scr x y, m' q.1 = some q.2) →
      Fr H L h' m' → News H L h' (led L x y ((I, oI) :: R)) → wpAny (model Challenge.rw_fy0015_01.row.toRowW.1 w) (callerA.deeper (LEnv L fa cd)) (execs rest (LEnv L fa cd)) Q E { s with heap := h', toks := tk' }) :
    wpAny (model Challenge.rw_fy0015_01.row.toRowW.1 w) (callerA.deeper (LEnv L fa cd)) (execs (tS6.1 :: tS7.1 :: rest) (LEnv L fa cd)) Q E s := by
  have lc0 := lc
  have cx := lc.cx (fa := fa) (cd := cd)
  obtain ⟨B1, X1, TT1, hb, l468⟩ := lc
  revert X1
  k_fill
  intro X1
  have T1 : TopRead topProg loose mg mb H := topRead_of TT1
  unfold LEnv lawParts tS6 tS7
  unfold LEnv lawParts at cx
  have N0 := N
  unfold led key8 at N
  unfold frame at F
  dsimp only at cx ⊢
  (try k_fold)
  have c1 := FX.c1
  have hxo := FX.xo_in
  obtain ⟨kx, hk4, rfl⟩ := hx4
  clear N0
  have hD := Dof_isP hbl xs
  have okT : ∀ r ∈ left rows (remain rows xs), rowOk r = true := left_ok hbl
  have hlz : (left rows (remain rows xs)).length ≤ 900 := by have := left_le rows (remain rows xs); omega
  have d100 : @LT.lt Nat _ 100 x.d := by have := FX.d5; simp only [c5a] at this; omega
  have hva : valueAt [(APP, Value.ref y.l), (REST, Value.ref x.l2)] (Str.ofString "APP") = some (.ref y.l) := by unfold valueAt APP; simp
  have hxd := FX.xd_in
  k_steps
  · refine stop_go (asked_spec (od := y.od) (d := x.d) (kvs := [(APP, .ref y.l), (REST, .ref x.l2)]) (tkx := x.tkx) (nx := x.nx) (xd := x.xd) (rs := left rows (remain rows xs)) (n := y.n) (dl := y.dl) (vs := y.vs) (l := y.l) TT1 rfl cx (by k_asm) (by k_asm) (by k_room) (by k_units) (nm_short kx) (by k_mem) (by k_mem) (by k_mem) od_is d100 hva (by k_mem) (tags.mono (by (try unfold key8); (repeat' (first | with_reducible exact sbs_nil | with_reducible refine sbs_cons ?_ ?_ | with_reducible refine sbs_app ?_ ?_)); all_goals (repeat' (first | with_reducible exact List.Mem.head _ | with_reducible exact sbs_refl | with_reducible refine List.Mem.tail _ ?_ | with_reducible refine sbs_tail ?_ | with_reducible exact sbs_right | with_reducible refine sbs_left ?_ | with_reducible refine mem_right9 ?_)))) hlz okT (ok_name kx) (fun j hj e => left_next hbl hD j hj e) fun D add h5 tk5 F5 N5 hD5 hap => ?_)
    k_steps
    refine cmp_go (ne_same N5 hD5 (hdu.mono fun p hp => List.mem_append_right _ (show p ∈ led L x y ((I, oI) :: R) from led_R _ (.tail _ hp))) (ask_ok okT _) (by k_units) ?_)
    replace N5 := news_sub N5 (fun p hp => List.mem_append_right _ hp)
    k_steps
    refine stop_go (get_spec (od := y.od) (d := x.d) (kvs := [(APP, .ref y.l), (REST, .ref x.l2)]) (tkx := x.tkx) (nx := x.nx) (xd := x.xd) cx (by k_asm) N5 (by k_room) (by k_units) (by k_mem) (by k_mem) (by k_mem) od_is d100 hva fun h6 tk6 F6 N6 => ?_)
    k_steps
    refine stop_go (pl_spec (rs := left rows (remain rows xs)) (l := y.l) (n := y.n) (dl := y.dl) cx F6 N6 (by k_room) (by k_units) (by k_mem) (tags.mono (by (try unfold key8); (repeat' (first | with_reducible exact sbs_nil | with_reducible refine sbs_cons ?_ ?_ | with_reducible refine sbs_app ?_ ?_)); all_goals (repeat' (first | with_reducible exact List.Mem.head _ | with_reducible exact sbs_refl | with_reducible refine List.Mem.tail _ ?_ | with_reducible refine sbs_tail ?_ | with_reducible exact sbs_right | with_reducible refine sbs_left ?_ | with_reducible refine mem_right9 ?_)))) hlz fun D7 ys7 nn7 add7 h7 tk7 F7 N7 hR7 q7 q7b => ?_)
    k_steps
    refine e_go (comp_left (R := R) lc0 F7 N7 (by (simp only [upds, ofString_eq, String.reduceEq, reduceIte] <;> exact rfl)) (fun p hp => List.Mem.tail _ (List.mem_append_right _ (show p ∈ led L x y ((I, oI) :: R) from led_R _ (.tail _ hp)))) (List.Mem.tail _ (List.mem_append_right _ (by k_mem))) c1 FX.rl_in FX.rl_is hlf hli hz fun D8 ys8 nn8 h8 tk8 F8 N8 hR8 q8 => ?_)
    k_steps
    refine cmp_go (ne_same N8 (DatIn.list (vs := ys7) (.tail _ (.head _)) (DatAll.mono (fun p hp => .tail _ (.tail _ hp)) hR7)) (DatIn.list (vs := ys8) (.head _) (DatAll.mono (fun p hp => .tail _ (.tail _ (List.mem_append_right _ (show p ∈ led L x y ((I, oI) :: R) from led_R _ (.tail _ hp))))) hR8)) (rows_ok3 okT 5) (by k_units) ?_)
    replace N8 := news_sub N8 (fun p hp => List.Mem.tail _ (List.Mem.tail _ (List.mem_append_right _ hp)))
    k_steps
    refine h _ _ _ ?_ (by assumption) (by unfold led key8; assumption)
    intro q hq
    simp only [frame, List.mem_cons, List.not_mem_nil, or_false] at hq
    rcases hq with rfl | rfl | rfl | rfl | rfl | rfl | rfl | rfl | rfl | rfl | rfl | rfl <;> (simp only [upds, ofString_eq, String.reduceEq, reduceIte] <;> exact rfl)
  · refine h _ _ _ ?_ (by assumption) (by unfold led key8; assumption)
    intro q hq
    simp only [frame, List.mem_cons, List.not_mem_nil, or_false] at hq
    rcases hq with rfl | rfl | rfl | rfl | rfl | rfl | rfl | rfl | rfl | rfl | rfl | rfl <;> (simp only [upds, ofString_eq, String.reduceEq, reduceIte] <;> exact rfl)
end

/- part MT4 -/
end
theorem fresh_MT4 : True ∧ True := by
  w_top off
  first
    | (walk1; done)
    | exact ⟨True.intro, True.intro⟩
section
/-! One turn of the law's loop: the taking. -/
theorem law_catch {prog : Program} {w : World} {A : Around} {s' : Shared} {h₀ h : Heap} {L e t C C' : Addr} {m mg mb : Str → Option Value} {vs : List Value} {b₀ : Stmt} {suite : List Stmt} {pos np : Pos} {rest : List ExceptHandler} {Q : Flow → Shared → Prop} {news : List (Addr × Obj)} {KF : Frag}
    {p : Program} {loose : List Str} {x cn : Str} {cs : Scope} {ccd : Value} {cl : List (Str × Addr)} {a : Addr}
    (hfr : A.frames = some [envX cn cs L a ccd cl]) (F : Fr h₀ L h m) (hsm : h.UpToSlots s'.heap) (R : RaisedS h₀ h [envX cn cs L a ccd cl] e (.ref C) t vs news s'.heap)
    (X : KF.In h₀) (T : TopRead p loose mg mb h₀) (ex : nsIn KF mainGlobals x = some (some (.ref C'))) (he : exmOne KF (.ref C) (.ref C') = some true)
    (k : ∀ h', Fr h₀ L h' m → News h₀ L h' news → wpAny (model prog w) (A.mark (some (.ref e))) (execs (b₀ :: suite) (envX cn cs L a ccd cl)) Q (fun _ _ => False) { s' with heap := h' })
    (hk : cs.kind = .function := by rfl) (hx : (envX cn cs L a ccd cl).kindOf x = some .globalImplicit := by rfl) (hd : (x == ("__debug__" : Str)) = false := by decide) :
    wpAny (model prog w) A (noteFrame (.ref e) (envX cn cs L a ccd cl))
      (fun _ s₂ => wpAny (model prog w) A (setFlight (.ref e) none) (fun _ s₃ =>
        wpAny (model prog w) A (handleBy (.ref e) (envX cn cs L a ccd cl) (.ExceptHandler (some (.Name x np)) none (b₀ :: suite) pos :: rest)) Q (fun _ _ => False) s₃) (fun _ _ => False) s₂) (fun _ _ => False) s' := by
  obtain ⟨⟨B, hB, _, hl, hfl, hnew⟩, htup⟩ := R
  have hL : B.get? L = none := by
    obtain ⟨_, ⟨L', _, hf, hn', _⟩, _⟩ := hfl.2.2.1
    obtain rfl : L = L' := Option.some.inj hf
    exact hn'
  refine wpAny_looks_onW hfr rfl hfl fun h1 held1 up1 => wpAny_landsW held1 fun h2 held2 up2 => ?_
  have up := up1.trans up2
  have fl2 := flyingW_base hB held2
  have F2 := F.of_stays fl2.1 (hsm.trans up)
  have X2 := X.keeps F2.keep
  have ty : ∀ M, Looks M h2 (typeOf (.ref e)) (.ref C) := fun M => by
    obtain ⟨ob, hob, hobc⟩ := held2.there
    rw [← hobc]
    exact (Looks.ld hob).andThen .now
  refine wpAny_handleBy_cons (codeAny_handlers_test (nameX_K F2 X T ex ?_ hk hx hd)) (by intro q; cases q)
  refine (exm_one X2 (ty _) he).here ?_
  refine codeAny_handlers_suite (lands_againW held2 fun h3 fl3 up3 => ?_)
  have F3 := F.of_stays (flyingW_base hB fl3).1 ((hsm.trans up).trans up3)
  exact wpAny_passesOwnAt PassesOwnAt.never (k h3 F3 fun q hq => ⟨fl3.1 _ _ (hl q hq).1, (fun z => by have := (hl q hq).1; rw [z, hL] at this; cases this), (hl q hq).2.2⟩)
section
variable {rows : List Row} {m : Nat} {xs : List Str} {x : Str}
theorem turn_cut (F : BlF rows m) {b e : Nat} {lv : Int} (h : scan (left rows (remain rows xs)) x (left rows (remain rows xs)).length = ⟨some b, lv, some e⟩) : cutRows (left rows (remain rows xs)) b e = left rows (remain rows (x :: xs)) := by
  rw [left_len] at h
  rcases turn F xs x with ⟨_, hsc, _⟩ | ⟨l, k, _, _, _, hlk, hkn, hsc, hrk, hkp⟩ | ⟨_, _, _, _, _, hsc, _⟩
  · have := hsc.symm.trans h; cases this
  · have z := hsc.symm.trans h
    cases z
    rw [left_cut (rows := rows) hlk hkn rfl hrk]
    exact congrArg (left rows) hkp.symm
  · have := hsc.symm.trans h; cases this
theorem turn_none (F : BlF rows m) {lv : Int} (h : scan (left rows (remain rows xs)) x (left rows (remain rows xs)).length = ⟨none, lv, none⟩) : remain rows (x :: xs) = remain rows xs := by
  rw [left_len] at h
  rcases turn F xs x with ⟨_, _, hkp⟩ | ⟨l, k, _, _, _, hlk, hkn, hsc, hrk, hkp⟩ | ⟨_, _, _, _, _, hsc, hkp⟩
  · exact hkp
  · have := hsc.symm.trans h; cases this
  · exact hkp
theorem turn_never (F : BlF rows m) {b : Nat} {lv : Int} (h : scan (left rows (remain rows xs)) x (left rows (remain rows xs)).length = ⟨some b, lv, none⟩) : remain rows (x :: xs) = remain rows xs := by
  rw [left_len] at h
  rcases turn F xs x with ⟨_, hsc, _⟩ | ⟨l, k, _, _, _, hlk, hkn, hsc, hrk, hkp⟩ | ⟨_, _, _, _, _, _, hkp⟩
  · have := hsc.symm.trans h; cases this
  · have := hsc.symm.trans h; cases this
  · exact hkp
theorem left_out (F : BlF rows m) (ys : List Str) : outRows (left rows (remain rows ys)) APP = left rows (remain rows ys) := by
  obtain ⟨r, e⟩ := left_head F (Dof_isP F ys)
  unfold outRows
  rw [if_pos]
  show (left rows (kept (Dof (prOf rows) ys))).head? = _
  rw [e]
  rfl
end
theorem rest_ne_app : REST ≠ APP := by unfold REST APP; rw [ne_eq, ofString_eq]; decide
theorem stored_app {a b c : Value} : stored [(APP, a), (REST, b)] APP c = [(APP, c), (REST, b)] := by
  have h : ¬ REST = APP := rest_ne_app
  simp [stored, h]
def Never : Dat := .list [.str (Str.ofString "never ended")]
theorem gone_never : (Dat.list [.str (Str.ofString "gone")]) ≠ Never := by
  unfold Never
  intro h
  simp only [Dat.list.injEq, List.cons.injEq, Dat.str.injEq, and_true, ofString_eq] at h
  exact absurd h (by decide)
theorem told_never {d : Dat} : (Dat.list [.str (Str.ofString "told"), d]) ≠ Never := by
  unfold Never
  intro h
  simp at h
theorem Off.swap {L d' l' y' : Addr} {R : List (Addr × Obj)} (h : Off L d' l' R) (k : ∀ p ∈ R, p.1 ≠ y') : Off L d' y' R := { h with l := k }
local macro_rules | `(tactic| walk_at "exec Try") => `(tactic| ((with_reducible show wpAny _ _ (exec (Stmt.Try _ (_ :: _) _ [] _) _) _ _ _); refine wpAny_Try_except ?_))
set_option maxHeartbeats 2000000 in
theorem seg4 {w : World} {H : Heap} {L fa : Addr} {cd : Value} {loose : List Str} {mean : ExcName → Option Value} {mg mb : Str → Option Value} {s : Shared} {Q : Flow → Shared → Prop} {scr du bh : Addr} {u : Str → Option Value} {kt tz tx : Tok} {nz : Int}
    {rows : List Row} {bm : Nat} {x : Fx} {y : St} {xs : List Str} {xn : Str} {R : List (Addr × Obj)} {I : Addr} {oI : Obj} {i : Nat} {rest : List Stmt} (lc : LC w H L loose mean mg mb) (hbl : BlF rows bm) (hz : rows.length ≤ 200) (FX : Fixed w L rows x R)
    (c3 : y.o3.data = .cell (some (.str xn tx))) (hx4 : ∃ k, k < 4 ∧ xn = nm k) (od_is : y.od.IsDictOf (strKind Challenge.rw_fy0015_01.row.toRowW.1 w) [(APP, .ref y.l), (REST, .ref x.l2)]) (tags : TagsIn R y.vs (left rows (remain rows xs)))
    (p1 : TriplesOk y.ps1.toList) (p2 : TriplesOk y.ps.toList) (l5 : @LT.lt Nat _ (c5a L) y.l) (hld : @Ne Nat y.l x.d) (SF : Safe L x.d y.l I R) (OI : Off L x.d y.l [(I, oI)])
    (h : ∀ ps1' ps' od' l' dl' vs' n' R' m' (tb : Bool) h' tk' gn', TriplesOk (Array.toList ps1') → TriplesOk (Array.toList ps') → od'.IsDictOf (strKind Challenge.rw_fy0015_01.row.toRowW.1 w) [(APP, .ref l'), (REST, .ref x.l2)] → @LT.lt Nat _ (c5a L) l' → @Ne Nat l' x.d → (∀ p ∈ R, p ∈ R') → Safe L x.d l' I R' → Off L x.d l' [(I, oI)] →
      TagsIn R' vs' (left rows (remain rows (xn :: xs))) → ((askDat (left rows (remain rows xs)) xn = Never → tb = false) ∧ (askDat (left rows (remain rows xs)) xn ≠ Never → tb = true)) → (∀ q ∈ (Str.ofString "told", .bool tb) :: (Str.ofString "due", .ref du) :: (Str.ofString "behind", .ref bh) :: (Str.ofString "number", .int nz tz) :: (Str.ofString "k", .int (i : Int) kt) :: frame scr x y, m' q.1 = some q.2) →
      Fr H L h' m' → News H L h' (led L x { y with ps1 := ps1', ps := ps', od := od', l := l', dl := dl', vs := vs', n := n' } ((I, oI) :: R')) → (AllBare s.gens → AllBare gn') → wpAny (model Challenge.rw_fy0015_01.row.toRowW.1 w) (callerA.deeper (LEnv L fa cd)) (execs rest (LEnv L fa cd)) Q (fun _ _ => False) (gSt s h' tk' gn'))
    (F : Fr H L s.heap (upds ((Str.ofString "told", .bool true) :: (Str.ofString "due", .ref du) :: (Str.ofString "behind", .ref bh) :: (Str.ofString "number", .int nz tz) :: (Str.ofString "k", .int (i : Int) kt) :: frame scr x y) u)) (N : News H L s.heap (led L x y ((I, oI) :: R))) :
    wpAny (model Challenge.rw_fy0015_01.row.toRowW.1 w) (callerA.deeper (LEnv L fa cd)) (execs (tS8.1 :: rest) (LEnv L fa cd)) Q (fun _ _ => False) s := by
  have lc0 := lc
  have cx := lc.cx (fa := fa) (cd := cd)
  obtain ⟨B1, X1, TT1, hb, l468⟩ := lc
  revert X1
  k_fill
  intro X1
  have T1 : TopRead topProg loose mg mb H := topRead_of TT1
  unfold LEnv lawParts tS8
  unfold LEnv lawParts at cx
  have N0 := N
  unfold led key8 at N
  unfold frame at F
  dsimp only at cx ⊢
  (try k_fold)
  have hxo := FX.xo_in
  have hxd := FX.xd_in
  obtain ⟨kx, hk4, rfl⟩ := hx4
  clear N0
  have hD := Dof_isP hbl xs
  have okT : ∀ r ∈ left rows (remain rows xs), rowOk r = true := left_ok hbl
  have hlz : (left rows (remain rows xs)).length ≤ 900 := by have := left_le rows (remain rows xs); omega
  have hva : valueAt [(APP, Value.ref y.l), (REST, Value.ref x.l2)] APP = some (.ref y.l) := by unfold valueAt; simp
  k_steps
  refine stop_go (ds_key (L := L) (R := (I, oI) :: R) (o5 := y.o5) (o4 := y.o4) (o3 := y.o3) (o2 := x.o2) (o1 := x.o1) (ps1 := y.ps1) (ps := y.ps) (ps2 := y.ps2) (d := x.d) (od := y.od) (l := y.l) (dl := y.dl) (vs := y.vs) (n := y.n) (app := APP) (kvs := [(APP, .ref y.l), (REST, .ref x.l2)]) (xd := x.xd) (tkx := x.tkx) (nx := x.nx) (rs := left rows (remain rows xs)) (x := nm kx)
    TT1 rfl hb cx (by k_asm) N (by k_room) (by k_units) p1 p2 l468 FX.d5 l5 ?a ?b ?c ?d hld (.tail _ hxo) (.tail _ hxd) od_is (by simp) hva (tags.mono fun p hp => .tail _ hp) hlz (left_codes hbl) okT (by decide +kernel) (ok_name kx) (fun j hj e => left_next hbl hD j hj e) ?cut ?hq ?hn ?hdx)
  case a => exact List.forall_mem_cons.mpr ⟨OI.t1 _ (.head _), SF.off.t1⟩
  case b => exact List.forall_mem_cons.mpr ⟨OI.t2 _ (.head _), SF.off.t2⟩
  case c => exact List.forall_mem_cons.mpr ⟨OI.d _ (.head _), SF.off.d⟩
  case d => exact List.forall_mem_cons.mpr ⟨OI.l _ (.head _), SF.off.l⟩
  case cut =>
    intro b e lv hs
    rw [turn_cut hbl hs]
    obtain ⟨r, er⟩ := left_head hbl (Dof_isP hbl (nm kx :: xs))
    show left rows (kept (Dof (prOf rows) (nm kx :: xs))) ≠ []
    rw [er]
    simp
  case hn =>
    intro lv h5 tk5 gn5 hs F5 N5 hb5
    have ha := ask_gone hs
    k_steps
    refine h y.ps1 y.ps y.od y.l y.dl y.vs y.n R _ true _ _ _ p1 p2 od_is l5 hld (fun p hp => hp) SF OI (by rw [turn_none hbl hs]; exact tags) ⟨fun z => (by rw [ha] at z; exact absurd z gone_never), fun _ => rfl⟩ ?_ (by assumption) (by unfold led; assumption) hb5
    · intro q hq
      simp only [frame, List.mem_cons, List.not_mem_nil, or_false] at hq
      rcases hq with rfl | rfl | rfl | rfl | rfl | rfl | rfl | rfl | rfl | rfl | rfl | rfl <;> (simp only [upds, ofString_eq, String.reduceEq, reduceIte] <;> exact rfl)
  case hq =>
    intro b e lv ps1' ps' od' y' dy vs' nn add h5 tk5 gn5 hs F5 N5 q1 q2 q3 q4 q5 q6 q7 q8 q9 q10
    have ha := ask_told hs
    rw [turn_cut hbl hs, left_out hbl] at q4
    rw [stored_app] at q3
    have q5' : Off L x.d y.l add := Off.of (x := x) (y := y) (R := (I, oI) :: R) q5
    have hI' : ∀ p ∈ add, p.1 ≠ I := fun p hp => q5 p hp (I, oI) (by unfold key8; exact .tail _ (.tail _ (.tail _ (.tail _ (.tail _ (.tail _ (.tail _ (.tail _ (.tail _ (.tail _ (.head _)))))))))))
    k_steps
    refine h ps1' ps' od' y' dy vs' nn (add ++ R) _ true _ _ _ q1 q2 q3 q6 q9 (fun p hp => List.mem_append_right _ hp) ⟨(q5'.swap q7).app (SF.off.swap fun p hp => q8 p (.tail _ hp)), all_app hI' SF.nI⟩ (OI.swap fun p hp => by rcases List.mem_cons.mp hp with rfl | hp; exact q8 _ (.head _); cases hp) (q4.mono fun p hp => List.mem_append_left _ hp) ⟨fun z => (by rw [ha] at z; exact absurd z told_never), fun _ => rfl⟩ ?_ (by assumption) (by unfold led; dsimp only; exact news_sub N5 (by (try unfold key8); (repeat' (first | with_reducible exact sbs_nil | with_reducible refine sbs_cons ?_ ?_ | with_reducible refine sbs_app ?_ ?_)); all_goals (repeat' (first | with_reducible exact List.Mem.head _ | with_reducible exact sbs_refl | with_reducible refine List.Mem.tail _ ?_ | with_reducible refine sbs_tail ?_ | with_reducible exact sbs_right | with_reducible refine sbs_left ?_ | with_reducible refine mem_right9 ?_)))) q10
    · intro q hq
      simp only [frame, List.mem_cons, List.not_mem_nil, or_false] at hq
      rcases hq with rfl | rfl | rfl | rfl | rfl | rfl | rfl | rfl | rfl | rfl | rfl | rfl <;> (simp only [upds, ofString_eq, String.reduceEq, reduceIte] <;> exact rfl)
  case hdx =>
    intro b lv g e t vs' h5 tk5 gn5 hs FG R5 U hb5
    have ha := ask_never hs
    refine law_catch (C := 154) (C' := 154) rfl FG U R5 X1 T1 (by k_is) (by kernel_rfl) fun h6 F6 N6 => ?_
    clear N
    k_steps
    refine h y.ps1 y.ps y.od y.l y.dl y.vs y.n R _ false _ _ _ p1 p2 od_is l5 hld (fun p hp => hp) SF OI (by rw [turn_never hbl hs]; exact tags) ⟨fun _ => rfl, fun z => absurd ha z⟩ ?_ (by assumption) (by unfold led; assumption) hb5
    · intro q hq
      simp only [frame, List.mem_cons, List.not_mem_nil, or_false] at hq
      rcases hq with rfl | rfl | rfl | rfl | rfl | rfl | rfl | rfl | rfl | rfl | rfl | rfl <;> (simp only [upds, ofString_eq, String.reduceEq, reduceIte] <;> exact rfl)
end

/- part MT5 -/
theorem fresh_MT5 : True ∧ True := by
  w_top off
  first
    | (walk1; done)
    | exact ⟨True.intro, True.intro⟩
section
local macro_rules | `(tactic| walk_at "compareOp NotEq ref ref") => `(tactic| (k_here; (with_reducible show wpAny _ _ (compareOp CmpOp.NotEq (Value.ref _) (Value.ref _)) _ _ _); refine stop_cmp ?_))
local macro_rules | `(tactic| walk_at "compareOp Eq ref ref") => `(tactic| (k_here; (with_reducible show wpAny _ _ (compareOp CmpOp.Eq (Value.ref _) (Value.ref _)) _ _ _); refine stop_cmp ?_))
section
/-! One turn of the law's loop: what stands behind the taking. -/
local macro_rules | `(tactic| walk_at "eval ListComp") => `(tactic| (k_here; (with_reducible show wpAny _ _ (eval (PySem.Expr.ListComp _ _ _ _) _) _ _ _); refine stop_e ?_))
theorem ne_bool_self {prog : Program} {w : World} {A : Around} {E : Value → Shared → Prop} {s : Shared} {Q : Value → Shared → Prop} {a : Bool} (h : Q (.bool false) s) : wpAny (model prog w) A (compareOp .NotEq (.bool a) (.bool a)) Q E s := by
  refine ne_bool ?_
  cases a <;> exact h
local macro_rules | `(tactic| walk_at "compareOp NotEq bool bool") => `(tactic| (k_here; (with_reducible refine ne_bool_self ?_)))
theorem never_ok : kqdOk 8 Never = true := by unfold Never; simp only [kqdOk, List.all_cons, List.all_nil, Bool.and_true]; decide +kernel
theorem ne_never {prog : Program} {w : World} {A : Around} {E : Value → Shared → Prop} {s : Shared} {L : Addr} {h₀ : Heap} {news : List (Addr × Obj)} {Q : Value → Shared → Prop} {a b : Value} {ad : Dat} {tb : Bool} (N : News h₀ L s.heap news) (Da : DatIn news a ad) (Db : DatIn news b Never) (hd : kqdOk 8 ad = true) (htb : (ad = Never → tb = false) ∧ (ad ≠ Never → tb = true)) (hu : A.units + 64 < cLine) (h : Q (.bool tb) s) :
    wpAny (model prog w) A (compareOp .NotEq a b) Q E s := by
  by_cases e : ad = Never
  · subst e
    rw [htb.1 rfl] at h
    exact ne_same N Da Db hd hu h
  · rw [htb.2 e] at h
    exact ne_diff N Da Db hd never_ok e hu h
set_option maxHeartbeats 2000000 in
theorem seg5 {w : World} {H : Heap} {L fa : Addr} {cd : Value} {loose : List Str} {mean : ExcName → Option Value} {mg mb : Str → Option Value} {s : Shared} {Q : Flow → Shared → Prop} {scr du bh : Addr} {u : Str → Option Value} {kt tz tx : Tok} {nz : Int} {tb : Bool} {ad : Dat} {bvs : List Value} {nb : Nat}
    {rows : List Row} {bm : Nat} {x : Fx} {y : St} {ys : List Str} {R : List (Addr × Obj)} {I : Addr} {oI : Obj} {i : Nat} {E : Value → Shared → Prop} (lc : LC w H L loose mean mg mb) (hbl : BlF rows bm) (hz : rows.length ≤ 200) (FX : Fixed w L rows x R)
    (od_is : y.od.IsDictOf (strKind Challenge.rw_fy0015_01.row.toRowW.1 w) [(APP, .ref y.l), (REST, .ref x.l2)]) (tags : TagsIn R y.vs (left rows (remain rows ys)))
    (hbh : (bh, listOf bvs.toArray nb) ∈ R) (hbi : IntsAre bvs (natDat (kix (remain rows ys) rows.length))) (hdu : DatIn R (.ref du) ad) (hdk : kqdOk 8 ad = true) (htb : (ad = Never → tb = false) ∧ (ad ≠ Never → tb = true))
    (F : Fr H L s.heap (upds ((Str.ofString "told", .bool tb) :: (Str.ofString "due", .ref du) :: (Str.ofString "behind", .ref bh) :: (Str.ofString "number", .int nz tz) :: (Str.ofString "k", .int (i : Int) kt) :: frame scr x y) u)) (N : News H L s.heap (led L x y ((I, oI) :: R)))
    (h : ∀ m' h' tk', (∀ q ∈ frame scr x { y with lf := bh }, m' q.1 = some q.2) → Fr H L h' m' → News H L h' (led L x y ((I, oI) :: R)) → Q .next { s with heap := h', toks := tk' }) :
    wpAny (model Challenge.rw_fy0015_01.row.toRowW.1 w) (callerA.deeper (LEnv L fa cd)) (execs [tS9.1, tS10.1] (LEnv L fa cd)) Q E s := by
  have lc0 := lc
  have cx := lc.cx (fa := fa) (cd := cd)
  obtain ⟨B1, X1, TT1, hb, l468⟩ := lc
  revert X1
  k_fill
  intro X1
  have T1 : TopRead topProg loose mg mb H := topRead_of TT1
  unfold LEnv lawParts tS9 tS10
  unfold LEnv lawParts at cx
  unfold led key8 at N
  unfold frame at F
  dsimp only at cx ⊢
  (try k_fold)
  have c1 := FX.c1
  have hxo := FX.xo_in
  have hxd := FX.xd_in
  have okT : ∀ r ∈ left rows (remain rows ys), rowOk r = true := left_ok hbl
  have hlz : (left rows (remain rows ys)).length ≤ 900 := by have := left_le rows (remain rows ys); omega
  have d100 : @LT.lt Nat _ 100 x.d := by have := FX.d5; simp only [c5a] at this; omega
  have hva : valueAt [(APP, Value.ref y.l), (REST, Value.ref x.l2)] (Str.ofString "APP") = some (.ref y.l) := by unfold valueAt APP; simp
  k_steps
  rename_i D h5 F5 N5 l5 hl5
  have subR : ∀ p ∈ R, p ∈ led L x y ((I, oI) :: R) := fun p hp => led_R _ (.tail _ hp)
  refine cmp_go (ne_never N5 (hdu.mono fun p hp => .tail _ (subR p hp)) (DatIn.list (vs := [Value.str (Str.ofString "never ended") _]) (.head _) (DatAll.cons (DatIn.str _ _) DatAll.nil)) hdk htb (by k_units) ?_)
  replace N5 := news_sub N5 (fun p hp => List.Mem.tail _ hp)
  k_steps
  · refine stop_go (get_spec (od := y.od) (d := x.d) (kvs := [(APP, .ref y.l), (REST, .ref x.l2)]) (tkx := x.tkx) (nx := x.nx) (xd := x.xd) cx (by k_asm) N5 (by k_room) (by k_units) (by k_mem) (by k_mem) (by k_mem) od_is d100 hva fun h6 tk6 F6 N6 => ?_)
    k_steps
    refine stop_go (pl_spec (rs := left rows (remain rows ys)) (l := y.l) (n := y.n) (dl := y.dl) cx F6 N6 (by k_room) (by k_units) (by k_mem) (tags.mono (by (try unfold key8); (repeat' (first | with_reducible exact sbs_nil | with_reducible refine sbs_cons ?_ ?_ | with_reducible refine sbs_app ?_ ?_)); all_goals (repeat' (first | with_reducible exact List.Mem.head _ | with_reducible exact sbs_refl | with_reducible refine List.Mem.tail _ ?_ | with_reducible refine sbs_tail ?_ | with_reducible exact sbs_right | with_reducible refine sbs_left ?_ | with_reducible refine mem_right9 ?_)))) hlz fun D7 ys7 nn7 add7 h7 tk7 F7 N7 hR7 q7 q7b => ?_)
    k_steps
    refine e_go (comp_left (R := R) lc0 F7 N7 (by (simp only [upds, ofString_eq, String.reduceEq, reduceIte] <;> exact rfl)) (fun p hp => List.Mem.tail _ (List.mem_append_right _ (subR p hp))) (List.Mem.tail _ (List.mem_append_right _ (by k_mem))) c1 FX.rl_in FX.rl_is hbh hbi hz fun D8 ys8 nn8 h8 tk8 F8 N8 hR8 q8 => ?_)
    k_steps
    refine cmp_go (ne_same N8 (DatIn.list (vs := ys7) (.tail _ (.head _)) (DatAll.mono (fun p hp => .tail _ (.tail _ hp)) hR7)) (DatIn.list (vs := ys8) (.head _) (DatAll.mono (fun p hp => .tail _ (.tail _ (List.mem_append_right _ (subR p hp)))) hR8)) (rows_ok3 okT 5) (by k_units) ?_)
    replace N8 := news_sub N8 (fun p hp => List.Mem.tail _ (List.Mem.tail _ (List.mem_append_right _ hp)))
    k_steps
    refine h _ _ _ ?_ (by assumption) (by unfold led key8; assumption)
    intro q hq
    simp only [frame, List.mem_cons, List.not_mem_nil, or_false] at hq
    rcases hq with rfl | rfl | rfl | rfl | rfl | rfl | rfl <;> (simp only [upds, ofString_eq, String.reduceEq, reduceIte] <;> exact rfl)
  · refine h _ _ _ ?_ (by assumption) (by unfold led key8; assumption)
    intro q hq
    simp only [frame, List.mem_cons, List.not_mem_nil, or_false] at hq
    rcases hq with rfl | rfl | rfl | rfl | rfl | rfl | rfl <;> (simp only [upds, ofString_eq, String.reduceEq, reduceIte] <;> exact rfl)
end

/- part MT6 -/
section
/-! One turn of the law's loop, all of it. -/
theorem filter_len {x : Str} : ∀ {l : List Str}, l.Nodup → x ∈ l → (l.filter fun o => decide (o ≠ x)).length + 1 = l.length
  | [], _, h => nomatch h
  | a :: l, nd, h => by
    have nd2 := List.nodup_cons.mp nd
    by_cases e : a = x
    · subst e
      have : l.filter (fun o => decide (o ≠ a)) = l := List.filter_eq_self.mpr fun b hb => decide_eq_true fun e => nd2.1 (e ▸ hb)
      rw [List.filter_cons, this]
      simp
    · have hx : x ∈ l := by
        rcases List.mem_cons.mp h with h | h
        · exact absurd h.symm e
        · exact h
      have ih := filter_len nd2.2 hx
      rw [List.filter_cons, if_pos (decide_eq_true e), List.length_cons, List.length_cons, ih]
theorem law_turn {w : World} {H : Heap} {L fa : Addr} {cd : Value} {loose : List Str} {mean : ExcName → Option Value} {mg mb : Str → Option Value} {s : Shared} {Qf : Flow → Shared → Prop} {scr : Addr} {vs : List Value} {ns : List Int} {kt : Tok}
    {rows : List Row} {bm : Nat} {x : Fx} {i : Nat} {m : Str → Option Value} {nx : List (Addr × Obj)} {I : Addr} {oI : Obj} {hp : Heap} {tk : Nat} {gn : Array GenState} (lc : LC w H L loose mean mg mb) (hbl : BlF rows bm) (hz : rows.length ≤ 200) (hS : H.IsList scr vs.toArray) (hIn : IntsAre vs ns) (hlen : ns.length ≤ 63)
    (hi : i < 4) (hJ : LJ w L rows scr x i m nx) (ho : ∀ p ∈ nx, p.1 ≠ I) (F : Fr H L hp (fun y => if y = Str.ofString "k" then some (.int (0 + (i : Int)) kt) else m y)) (N : News H L hp ((I, oI) :: nx)) (hb : AllBare s.gens → AllBare gn) :
    wpAny (model Challenge.rw_fy0015_01.row.toRowW.1 w) (callerA.deeper (LEnv L fa cd)) (execs lawFor.1.2.1 (LEnv L fa cd)) (TurnEndG s H L I oI (LJ w L rows scr x (i + 1)) Qf) (fun _ _ => False) (gSt s hp tk gn) := by
  obtain ⟨u, y, xs, rem, R, rfl, FX, NW, sub⟩ := hJ
  rw [Int.zero_add] at F
  rw [forBody_is]
  have F0 : Fr H L hp (upds ((Str.ofString "k", .int (i : Int) kt) :: frame scr x y) u) := F
  have N0 : News H L hp (led L x y ((I, oI) :: R)) := news_sub N (by
    intro p hp
    have : p ∈ (I, oI) :: led L x y R := by
      revert p hp
      show ∀ p ∈ led L x y ((I, oI) :: R), p ∈ (I, oI) :: led L x y R
      unfold led
      exact (by (try unfold key8); (repeat' (first | with_reducible exact sbs_nil | with_reducible refine sbs_cons ?_ ?_ | with_reducible refine sbs_app ?_ ?_)); all_goals (repeat' (first | with_reducible exact List.Mem.head _ | with_reducible exact sbs_refl | with_reducible refine List.Mem.tail _ ?_ | with_reducible refine sbs_tail ?_ | with_reducible exact sbs_right | with_reducible refine sbs_left ?_ | with_reducible refine mem_right9 ?_)))
    rcases List.mem_cons.mp this with rfl | h
    · exact .head _
    · exact .tail _ (sub p h))
  have hoL : ∀ p ∈ led L x y R, p.1 ≠ I := fun p hp => ho p (sub p hp)
  have OI : Off L x.d y.l [(I, oI)] := Off.of (x := x) (y := y) (R := R) fun p hp q hq => by
    rcases List.mem_cons.mp hp with rfl | hp
    · exact (hoL q hq).symm
    · cases hp
  have SF : Safe L x.d y.l I R := ⟨NW.off, fun p hp => hoL p (led_R p hp)⟩
  refine seg1 (rest := [tS4.1, tS5.1, tS6.1, tS7.1, tS8.1, tS9.1, tS10.1]) lc FX NW F0 N0 hi hS hIn hlen OI ?_
  rintro xn tx o3' rs' svs' ns' m1 h1 tk1 hx c3 ⟨nz, tz, hn⟩ hm1 F1 N1 hs hq
  have F1' : Fr H L h1 (upds ((Str.ofString "number", .int nz tz) :: (Str.ofString "k", .int (i : Int) kt) :: frame scr x { y with o3 := o3', rs := rs', svs := svs', ns := ns' }) m1) := by
    rw [← upds_self (m := m1) (l := (Str.ofString "number", .int nz tz) :: (Str.ofString "k", .int (i : Int) kt) :: frame scr x { y with o3 := o3', rs := rs', svs := svs', ns := ns' }) (List.forall_mem_cons.mpr ⟨hn, hm1⟩)]
    exact F1
  have N1' : News H L h1 (led L x { y with o3 := o3', rs := rs', svs := svs', ns := ns' } ((I, oI) :: (rs', listOf svs'.toArray ns') :: R)) := news_sub N1 (by unfold led; dsimp only; exact (by (try unfold key8); (repeat' (first | with_reducible exact sbs_nil | with_reducible refine sbs_cons ?_ ?_ | with_reducible refine sbs_app ?_ ?_)); all_goals (repeat' (first | with_reducible exact List.Mem.head _ | with_reducible exact sbs_refl | with_reducible refine List.Mem.tail _ ?_ | with_reducible refine sbs_tail ?_ | with_reducible exact sbs_right | with_reducible refine sbs_left ?_ | with_reducible refine mem_right9 ?_))))
  have hx4 := NW.rem_nm xn hx
  have FX1 : Fixed w L rows x ((rs', listOf svs'.toArray ns') :: R) := FX.mono fun p hp => .tail _ hp
  have SF1 : Safe L x.d y.l I ((rs', listOf svs'.toArray ns') :: R) := SF.cons (pre := []) hq
  refine seg2 (rest := [tS6.1, tS7.1, tS8.1, tS9.1, tS10.1]) (xs := xs) (rem := rem) (y := { y with o3 := o3', rs := rs', svs := svs', ns := ns' }) lc hbl hz FX1 SF1 c3 NW.c4 NW.c5 NW.l5 (.tail _ NW.lf_in) NW.lf_is F1' N1' OI ?_
  intro du bh bvs nb o5' o4' R2 m2 h2 tk2 hm2 F2 N2 c5' c4' sub2 SF2 hdu hbh hbi
  have F2' := F2
  rw [upds_self hm2] at F2'
  have sub02 : ∀ p ∈ R, p ∈ R2 := fun p hp => sub2 p (.tail _ hp)
  refine seg3 (rest := [tS8.1, tS9.1, tS10.1]) (y := { y with o3 := o3', rs := rs', svs := svs', ns := ns', o5 := o5', o4 := o4' }) lc hbl hz (FX.mono sub02) c3 hx4 NW.od_is (NW.tags.mono sub02) (sub02 _ NW.lf_in) NW.lf_is hdu F2' N2 ?_
  intro m3 h3 tk3 hm3 F3 N3
  have F3' := F3
  rw [upds_self hm3] at F3'
  refine seg4 (rest := [tS9.1, tS10.1]) (y := { y with o3 := o3', rs := rs', svs := svs', ns := ns', o5 := o5', o4 := o4' }) lc hbl hz (FX.mono sub02) c3 hx4 NW.od_is (NW.tags.mono sub02) NW.p1 NW.p NW.l5 NW.ld SF2 OI ?_ F3' N3
  intro ps1' ps' od' l' dl' vs' n' R3 m4 tb h4 tk4 gn4 t1 t2 od_is' l5' ld' sub3 SF3 OI3 tags' htb hm4 F4 N4 hb4
  have F4' := F4
  rw [upds_self hm4] at F4'
  have sub03 : ∀ p ∈ R, p ∈ R3 := fun p hp => sub3 p (sub02 p hp)
  refine seg5 (tx := tx) (y := { y with o3 := o3', rs := rs', svs := svs', ns := ns', o5 := o5', o4 := o4', ps1 := ps1', ps := ps', od := od', l := l', dl := dl', vs := vs', n := n' }) lc hbl hz (FX.mono sub03) od_is' tags' (sub3 _ hbh) hbi (hdu.mono sub3) (ask_ok (left_ok hbl) xn) htb F4' N4 ?_
  intro m5 h5 tk5 hm5 F5 N5
  refine ⟨h5, tk5, gn4, m5, led L x { y with o3 := o3', rs := rs', svs := svs', ns := ns', o5 := o5', o4 := o4', ps1 := ps1', ps := ps', od := od', l := l', dl := dl', vs := vs', n := n', lf := bh, lvs := bvs, nl := nb } R3, rfl, fun z => hb4 (hb z), F5, news_sub N5 (by unfold led; dsimp only; exact (by (try unfold key8); (repeat' (first | with_reducible exact sbs_nil | with_reducible refine sbs_cons ?_ ?_ | with_reducible refine sbs_app ?_ ?_)); all_goals (repeat' (first | with_reducible exact List.Mem.head _ | with_reducible exact sbs_refl | with_reducible refine List.Mem.tail _ ?_ | with_reducible refine sbs_tail ?_ | with_reducible exact sbs_right | with_reducible refine sbs_left ?_ | with_reducible refine mem_right9 ?_)))), ?_, m5, { y with o3 := o3', rs := rs', svs := svs', ns := ns', o5 := o5', o4 := o4', ps1 := ps1', ps := ps', od := od', l := l', dl := dl', vs := vs', n := n', lf := bh, lvs := bvs, nl := nb }, xn :: xs, rem.filter fun o => decide (o ≠ xn), R3, upds_self (l := frame scr x { y with o3 := o3', rs := rs', svs := svs', ns := ns', o5 := o5', o4 := o4', ps1 := ps1', ps := ps', od := od', l := l', dl := dl', vs := vs', n := n', lf := bh, lvs := bvs, nl := nb }) hm5, FX.mono sub03, ?_, fun q hq => hq⟩
  · unfold led key8
    have hk : ∀ q ∈ led L x y R, q.1 ≠ I := hoL
    unfold led key8 at hk
    simp only [List.forall_mem_cons] at hk ⊢
    obtain ⟨k5, k4, k3, k2, k1, k6, k7, k8, kd, _, _⟩ := hk
    exact ⟨k5, k4, k3, k2, k1, k6, k7, k8, kd, (OI3.l _ (.head _)).symm, SF3.nI⟩
  · exact {
      c5 := c5'
      c4 := c4'
      c3 := ⟨_, c3⟩
      p1 := t1
      p := t2
      p2 := NW.p2
      od_is := od_is'
      l5 := l5'
      ld := ld'
      off := SF3.off
      tags := tags'
      lf_in := sub3 _ hbh
      lf_is := hbi
      rs_in := sub3 _ (sub2 _ (.head _))
      rs_is := hs
      rem_nd := NW.rem_nd.filter _
      rem_len := by have := filter_len NW.rem_nd hx; have := NW.rem_len; omega
      rem_nm := fun s hs => NW.rem_nm s (List.mem_filter.mp hs).1
      all_nm := fun k hk => by
        by_cases e : nm k = xn
        · exact .inl (e ▸ .head _)
        · rcases NW.all_nm k hk with h | h
          · exact .inl (.tail _ h)
          · exact .inr (List.mem_filter.mpr ⟨h, decide_eq_true e⟩) }
end

/- part MS1 -/
section
open PyProof.Rows.LCg PyProof.Rows.LCt
/-! A list comprehension over a range whose variable is a cell (a comprehension within closes over it). -/
section
variable {M : Model} {A : Around} {E : Value → Shared → Prop} {s : Shared}
theorem env_cell {env : Env} {scope : Scope} {g : Addr} {cl : List (Str × Addr)} {qual n0 x n2 n3 : Str} {Q : Env → Shared → Prop} (hn : scope.names = [(n0, .local), (x, .cell), (n2, .free), (n3, .free)])
    (h : Q { scope := scope, locals := s.heap.objs.size, globals := g, cells := (x, s.heap.objs.size + 1) :: cl, qual := qual, func := none, code := env.code, frame := env.frame, builtins := env.builtins }
      { s with heap := (s.heap.push { cls := .type "dict", data := .dict #[] }).push { cls := .type "cell", data := .cell none } }) :
    wpAny M A (newFunctionEnv scope g cl [] qual none .none (some env)) Q E s := by
  simp only [newFunctionEnv, Option.isSome_some, if_true]
  refine wpAny_bind (wpAny_alloc ?_)
  refine wpAny_bind (wpAny_layCells _ (fun name kind cells => by cases hkc : kind == NameKind.cell <;> simp [hkc]) _ _ _ _ ?_)
  rw [hn, show ({ s with heap := s.heap.push { cls := .type "dict", data := .dict #[] } } : Shared).heap.objs.size = s.heap.objs.size + 1 from Heap.size_push ..]
  rw [List.forIn_nil]
  exact wpAny_bind (wpAny_pure (wpAny_pure h))
end
def CEnd (h₀ : Heap) (L : Addr) (m : Str → Option Value) (s' : Shared) (lg : List (Addr × Obj)) (r : Value → Prop) (y : Value) (s₂ : Shared) : Prop :=
  ∃ h' tk, s₂ = { s' with heap := h', toks := tk } ∧ Fr h₀ L h' m ∧ News h₀ L h' lg ∧ r y
section
variable {prog : Program} {w : World} {A : Around} {E : Value → Shared → Prop} {s : Shared} {h₀ : Heap} {L : Addr} {m : Str → Option Value} {env : Env}
theorem assign_comp_cell {ct elt iter : PySem.Expr} {x y n0 n2 n3 : Str} {px py : Pos} {scope : Scope} {cl : List (Str × Addr)} {pos spos : Pos} {n : Nat} {lg : List (Addr × Obj)} {Q : Flow → Shared → Prop} (hLe : env.locals = L) (hh : A.handled = none)
    (hsw : swapsWith (.ListComp elt [⟨.Name x px, iter, [ct], 0⟩] scope pos) (some (.Name y py)) spos.line env = pure true)
    (hclos : closureFor scope env = pure cl) (hn : scope.names = [(n0, .local), (x, .cell), (n2, .free), (n3, .free)]) (hkind : scope.kind = .function)
    (hnames : ∀ z ∈ scope.names, z.2 = .local → scope.names.lookup z.1 = some .local) (hxk : ∀ C Jc, (compEnvC scope ((x, Jc) :: cl) C env).kindOf x = some .cell)
    (hy : env.kindOf y = some .local) (hp : (env.scope.kind == .class || (env.scope.kind == .module && env.locals != env.globals)) = false) (hnz : n ≤ 1000)
    (J : Nat → List Value → Prop) (hJ : J 0 [])
    (h : wpAny (model prog w) A (eval iter env) (fun xv s₁ => ∃ r t u v hh tt, xv = .ref r ∧ s₁ = { s with heap := hh, toks := tt } ∧ Fr h₀ L s₁.heap m ∧ News h₀ L s₁.heap lg ∧ IsRange s₁.heap r 0 (n : Int) 1 t u v) E s)
    (step : ∀ (i : Nat) (ys : List Value) (t : Tok) (I : Nat) oI (C : Nat) oC (Jc : Nat) oJ (D : Nat) (s' : Shared) (E' : Value → Shared → Prop), i < n → J i ys → oJ.data = .cell (some (.int (i : Int) t)) → Fr h₀ L s'.heap m → News h₀ L s'.heap ((I, oI) :: (C, oC) :: (Jc, oJ) :: (D, lst ys) :: lg) →
      (∀ p ∈ lg, @LT.lt Nat _ p.1 I) → I < D → D < C → C < Jc →
      wpAny (model prog w) A (isTrue ct (compEnvC scope ((x, Jc) :: cl) C env) (eval ct (compEnvC scope ((x, Jc) :: cl) C env))) (TestIs true fun s'' => wpAny (model prog w) A (eval elt (compEnvC scope ((x, Jc) :: cl) C env)) (CEnd h₀ L m s' ((I, oI) :: (C, oC) :: (Jc, oJ) :: (D, lst ys) :: lg) fun y => J (i + 1) (ys ++ [y])) E' s'') E' s' ∨
      wpAny (model prog w) A (isTrue ct (compEnvC scope ((x, Jc) :: cl) C env) (eval ct (compEnvC scope ((x, Jc) :: cl) C env))) (TestIs false fun s'' => CEnd h₀ L m s' ((I, oI) :: (C, oC) :: (Jc, oJ) :: (D, lst ys) :: lg) (fun _ => J (i + 1) ys) Value.none s'') E' s')
    (fin : ∀ ys (D : Nat) h' tk, J n ys → Fr h₀ L h' (fun z => if z = y then some (.ref D) else m z) → News h₀ L h' ((D, lst ys) :: lg) → (∀ p ∈ lg, p.1 ≠ D) → Q .next { s with heap := h', toks := tk })
    (hs : ∀ x, foldedSetIterable iter env x = pure x := by intro _; rfl) :
    wpAny (model prog w) A (exec (.Assign [.Name y py] (.ListComp elt [⟨.Name x px, iter, [ct], 0⟩] scope pos) spos) env) Q E s := by
  subst hLe
  rw [exec_Assign_Name_used _ _ _ _ hsw]
  refine wpAny_bind (wpAny_standAt (wpAny_bind ?_))
  show wpAny _ A (do let _ ← comprehension (.ListComp elt [⟨.Name x px, iter, [ct], 0⟩] scope pos) scope env _ (newList []) false (eval iter env) (some (assign (.Name y py) env))) _ _ s
  refine wpAny_bind (wpAny_mono (wpAny_comprehension_free (use := some (assign (.Name y py) env)) (Q := fun _ s' => Q .next s') rfl hs hclos hkind hnames
    (wpAny_mono h (fun xv s₁ h₁ => ?_) fun _ _ e => e)) (fun _ s' hq => wpAny_pure (wpAny_pure hq)) fun _ _ e => e)
  obtain ⟨r, t0, u0, v0, hh1, tt1, rfl, rfl, F, N, hr⟩ := h₁
  refine wpAny_pyIter_range hr (small_upto hnz) ?_
  rw [size_upto]
  -- the addresses: iterator, list, locals, cell
  generalize hI : hh1.objs.size = sI at *
  have hNlt : ∀ p ∈ lg, @LT.lt Nat _ p.1 sI := fun p hp => hI ▸ Heap.lt_size (N p hp).1
  have hLlt : @LT.lt Nat _ env.locals sI := hI ▸ F.ns.lt
  have none1 : ∀ a, sI ≤ a → h₀.get? a = none := fun a ha => Heap.get?_none_of_le (Nat.le_trans F.above (Nat.le_trans (Nat.le_of_lt hLlt) ha))
  refine wpAny_newObj_type ?_
  refine env_cell hn ?_
  dsimp only
  simp only [Heap.size_push, hI]
  generalize hH : ((((hh1.push { cls := .type "range_iterator", data := .fields #[rawInt 0, rawInt (n : Int), rawInt 1] }).push { cls := .type "list", data := .seq #[] }).push { cls := .type "dict", data := .dict #[] }).push { cls := .type "cell", data := .cell none }) = H4
  have sz1 : (hh1.push { cls := .type "range_iterator", data := .fields #[rawInt 0, rawInt (n : Int), rawInt 1] }).objs.size = sI + 1 := by rw [Heap.size_push, hI]
  have sz2 : ((hh1.push { cls := .type "range_iterator", data := .fields #[rawInt 0, rawInt (n : Int), rawInt 1] }).push { cls := .type "list", data := .seq #[] }).objs.size = sI + 1 + 1 := by rw [Heap.size_push, sz1]
  have sz3 : (((hh1.push { cls := .type "range_iterator", data := .fields #[rawInt 0, rawInt (n : Int), rawInt 1] }).push { cls := .type "list", data := .seq #[] }).push { cls := .type "dict", data := .dict #[] }).objs.size = sI + 1 + 1 + 1 := by rw [Heap.size_push, sz2]
  have up : ∀ b o, hh1.get? b = some o → H4.get? b = some o := fun b o e => hH ▸ Heap.get?_push_of_some _ (Heap.get?_push_of_some _ (Heap.get?_push_of_some _ (Heap.get?_push_of_some _ e)))
  have g0 : H4.get? sI = some { cls := .type "range_iterator", data := .fields #[rawInt 0, rawInt (n : Int), rawInt 1] } := by
    rw [← hH]
    refine Heap.get?_push_of_some _ (Heap.get?_push_of_some _ (Heap.get?_push_of_some _ ?_))
    rw [← hI]
    exact Heap.get?_push_size _ rfl
  have g1 : H4.get? (sI + 1) = some (lst []) := by
    rw [← hH]
    refine Heap.get?_push_of_some _ (Heap.get?_push_of_some _ ?_)
    rw [← sz1]
    exact Heap.get?_push_size _ rfl
  have g2 : H4.get? (sI + 1 + 1) = some { cls := .type "dict", data := .dict #[] } := by
    rw [← hH]
    refine Heap.get?_push_of_some _ ?_
    rw [← sz2]
    exact Heap.get?_push_size _ rfl
  have g3 : H4.get? (sI + 1 + 1 + 1) = some { cls := .type "cell", data := .cell none } := by
    rw [← hH, ← sz3]
    exact Heap.get?_push_size _ rfl
  have ns2 : H4.Ns (sI + 1 + 1) (fun _ => none) := by
    have z := Heap.Ns.new ((hh1.push { cls := .type "range_iterator", data := .fields #[rawInt 0, rawInt (n : Int), rawInt 1] }).push { cls := .type "list", data := .seq #[] }) (.type "dict")
    rw [sz2] at z
    exact z.at' fun o e => by
      have e2 : (Heap.push _ { cls := .type "cell", data := .cell none }).get? (sI + 1 + 1) = some o := Heap.get?_push_of_some _ e
      rw [hH] at e2
      exact e2
  clear hH sz1 sz2 sz3
  have F4 : Fr h₀ env.locals H4 m := F.keeps up
  have Nlg : News h₀ env.locals H4 lg := N.grown up
  have neL : ∀ a : Nat, sI ≤ a → @Ne Nat a env.locals := fun a ha => by omega
  show codeAny _ A (.compStart (.ListComp elt [⟨.Name x px, iter, [ct], 0⟩] scope pos) 0 (.ref sI) (.ref (sI + 1)) (compEnvC scope ((x, sI + 1 + 1 + 1) :: cl) (sI + 1 + 1) env)) _ _
  have W := range_walks (prog := prog) (w := w) (A := A) (I := sI) hh 0 n
  have st0 : IsRangeIter H4 sI (0 + ((0 : Nat) : Int) * 1) ((n : Int) - ((0 : Nat) : Int)) 1 := by
    show H4.get? sI = some _
    rw [g0]
    simp
  have loop : ∀ s₃ : Shared, s₃ = { s with heap := H4, toks := tt1 } →
      codeAny (model prog w) A (.compLoop (.ListComp elt [⟨.Name x px, iter, [ct], 0⟩] scope pos) 0 (.ref sI) (.ref (sI + 1)) (compEnvC scope ((x, sI + 1 + 1 + 1) :: cl) (sI + 1 + 1) env))
        (compPost (model prog w) A E (some (assign (.Name y py) env)) (fun _ s' => Q .next s') (.ref (sI + 1)) (sI + 1 + 1)) s₃ := by
    rintro s₃ rfl
    refine codeAny_compLoop_tests
      (fun k s' => ∃ h' tk i ys m' oI oJ vJ, s' = { s with heap := h', toks := tk } ∧ i ≤ n ∧ k = n + 1 - i ∧ ys.length ≤ i ∧ IsRangeIter h' sI (0 + ((i : Nat) : Int) * 1) ((n : Int) - ((i : Nat) : Int)) 1 ∧ Fr h₀ env.locals h' m ∧ h'.Ns (sI + 1 + 1) m' ∧ oJ.data = .cell vJ ∧
        News h₀ env.locals h' ((sI, oI) :: (sI + 1 + 1 + 1, oJ) :: (sI + 1, lst ys) :: lg) ∧ J i ys) ?_ (n + 1)
      ⟨H4, _, 0, [], _, { cls := .type "range_iterator", data := .fields #[rawInt 0, rawInt (n : Int), rawInt 1] }, { cls := .type "cell", data := .cell none }, none, rfl, Nat.zero_le _, rfl, Nat.le_refl _, st0, F4, ns2, rfl, fun p hp => ?_, hJ⟩
    · rintro k s' ⟨h', tk, i, ys, m', oI, oJ, vJ, rfl, hi, rfl, hyl, hst', F', hn', hdJ, N', hJ'⟩
      by_cases hlt : i < n
      · refine W.item i _ _ _ hlt hst' fun v h2 tk2 hP st2 hk2 => ?_
        obtain ⟨tv, rfl⟩ := hP
        have gJ := N' (sI + 1 + 1 + 1, oJ) (.tail _ (.head _))
        have gJ2 := hk2 _ _ (fun q => absurd (List.mem_singleton.mp q) (show @Ne Nat _ _ by omega)) gJ.1
        refine wpAny_assign_Name (wpAny_storeName_cell (c := sI + 1 + 1 + 1) hkind (hxk _ _) (by show List.lookup x ((x, sI + 1 + 1 + 1) :: cl) = _; simp) ⟨oJ, gJ2, hdJ⟩ (fun h3 hv hs3 => ?_))
        refine wpAny_tests_one ?_
        obtain ⟨oJ3, eJ3, dJ3⟩ := hv
        have st3 : IsRangeIter h3 sI (0 + ((i + 1 : Nat) : Int) * 1) ((n : Int) - ((i + 1 : Nat) : Int)) 1 := (hs3.2 sI (show @Ne Nat _ _ by omega)).trans st2
        have keep3 : ∀ (b : Nat) o, @Ne Nat b sI → @Ne Nat b (sI + 1 + 1 + 1) → h'.get? b = some o → h3.get? b = some o := fun b o h1 h2' e => (hs3.2 b h2').trans (hk2 b o (fun q => h1 (List.mem_singleton.mp q)) e)
        have F3 : Fr h₀ env.locals h3 m := ⟨F'.ns.at' fun o e => keep3 _ o (by omega) (by omega) e, fun b o e => keep3 b o (fun q => by rw [q, none1 sI (Nat.le_refl _)] at e; cases e) (fun q => by rw [q, none1 _ (by omega)] at e; cases e) (F'.keep b o e), F'.above⟩
        have hn3 : h3.Ns (sI + 1 + 1) m' := hn'.at' fun o e => keep3 _ o (by omega) (by omega) e
        obtain ⟨oC, heC, hoC⟩ := ns_obj hn3
        have N3 : News h₀ env.locals h3 ((sI, { cls := .type "range_iterator", data := .fields #[rawInt (0 + ((i + 1 : Nat) : Int) * 1), rawInt ((n : Int) - ((i + 1 : Nat) : Int)), rawInt 1] }) :: (sI + 1 + 1, oC) :: (sI + 1 + 1 + 1, oJ3) :: (sI + 1, lst ys) :: lg) := fun p hp => by
          rcases List.mem_cons.mp hp with rfl | hp
          · exact ⟨st3, neL _ (Nat.le_refl _), none1 _ (Nat.le_refl _)⟩
          rcases List.mem_cons.mp hp with rfl | hp
          · exact ⟨heC, neL _ (by omega), none1 _ (by omega)⟩
          rcases List.mem_cons.mp hp with rfl | hp
          · exact ⟨eJ3, neL _ (by omega), none1 _ (by omega)⟩
          have z := N' p (.tail _ (.tail _ hp))
          refine ⟨keep3 _ _ ?_ ?_ z.1, z.2⟩
          · rcases List.mem_cons.mp hp with rfl | hp
            · show @Ne Nat (sI + 1) sI; omega
            · exact Nat.ne_of_lt (hNlt p hp)
          · rcases List.mem_cons.mp hp with rfl | hp
            · show @Ne Nat (sI + 1) (sI + 1 + 1 + 1); omega
            · exact Nat.ne_of_lt (Nat.lt_trans (hNlt p hp) (by omega))
        have iz : ((0 : Int) + (i : Int)) = (i : Int) := Int.zero_add _
        rw [iz] at dJ3
        rcases step i ys tv sI _ (sI + 1 + 1) oC (sI + 1 + 1 + 1) oJ3 (sI + 1) { s with heap := h3, toks := tk2 } _ hlt hJ' dJ3 F3 N3 hNlt (by omega) (by omega) (by omega) with z | z
        · refine wpAny_mono z (fun ok s4 h4 => ?_) fun _ _ e => e
          obtain ⟨rfl, h4⟩ := h4
          simp only [if_true]
          refine wpAny_mono h4 (fun yv s5 h5 => ?_) fun _ _ e => e
          obtain ⟨h6, tk6, rfl, F6, N6, hJ6⟩ := h5
          have gI := N6 _ (.head _)
          have gC := N6 _ (.tail _ (.head _))
          have gJ := N6 _ (.tail _ (.tail _ (.head _)))
          have gD := N6 _ (.tail _ (.tail _ (.tail _ (.head _))))
          refine append_at (hsz := by show ys.toArray.size ≤ sizeLine; rw [List.size_toArray, sizeLine_eq]; omega) gD.1 fun h7 hs7 hD7 => ?_
          have keep7 : ∀ (b : Nat) o, @Ne Nat b (sI + 1) → h6.get? b = some o → h7.get? b = some o := fun b o hb e => (hs7.2 b hb).trans e
          refine ⟨n + 1 - (i + 1), by omega, h7, tk6, i + 1, ys ++ [yv], m', { cls := .type "range_iterator", data := .fields #[rawInt (0 + ((i + 1 : Nat) : Int) * 1), rawInt ((n : Int) - ((i + 1 : Nat) : Int)), rawInt 1] }, oJ3, _, rfl, hlt, rfl, by rw [List.length_append, List.length_singleton]; exact Nat.succ_le_succ hyl, keep7 sI _ (by omega) gI.1,
            F6.change hs7 (neL _ (by omega)) (none1 _ (by omega)), hoC.ns (keep7 _ _ (by omega) gC.1), dJ3, fun p hp => ?_, hJ6⟩
          rcases List.mem_cons.mp hp with rfl | hp
          · exact ⟨keep7 _ _ (by omega) gI.1, gI.2⟩
          rcases List.mem_cons.mp hp with rfl | hp
          · exact ⟨keep7 _ _ (by omega) gJ.1, gJ.2⟩
          rcases List.mem_cons.mp hp with rfl | hp
          · exact ⟨hD7.trans (congrArg some (lst_snoc ys yv)), gD.2⟩
          · have z := N6 p (.tail _ (.tail _ (.tail _ (.tail _ hp))))
            exact ⟨keep7 _ _ (Nat.ne_of_lt (Nat.lt_trans (hNlt p hp) (by omega))) z.1, z.2⟩
        · refine wpAny_mono z (fun ok s4 h4 => ?_) fun _ _ e => e
          obtain ⟨rfl, h4⟩ := h4
          simp only [Bool.false_eq_true, if_false]
          obtain ⟨h6, tk6, rfl, F6, N6, hJ6⟩ := h4
          have gI := N6 _ (.head _)
          have gC := N6 _ (.tail _ (.head _))
          refine ⟨n + 1 - (i + 1), by omega, h6, tk6, i + 1, ys, m', { cls := .type "range_iterator", data := .fields #[rawInt (0 + ((i + 1 : Nat) : Int) * 1), rawInt ((n : Int) - ((i + 1 : Nat) : Int)), rawInt 1] }, oJ3, _, rfl, hlt, rfl, Nat.le_succ_of_le hyl, gI.1, F6, hoC.ns gC.1, dJ3, fun p hp => ?_, hJ6⟩
          rcases List.mem_cons.mp hp with rfl | hp
          · exact gI
          · exact N6 p (.tail _ (.tail _ hp))
      · obtain rfl : i = n := Nat.le_antisymm hi (Nat.not_lt.mp hlt)
        refine W.done _ _ _ hst' fun h2 tk2 hk2 => ?_
        have keep2 : ∀ (b : Nat) o, @Ne Nat b sI → h'.get? b = some o → h2.get? b = some o := fun b o hb e => hk2 b o (fun q => hb (List.mem_singleton.mp q)) e
        have F2 : Fr h₀ env.locals h2 m := ⟨F'.ns.at' fun o e => keep2 _ o (by omega) e, fun b o e => keep2 b o (fun q => by rw [q, none1 sI (Nat.le_refl _)] at e; cases e) (F'.keep b o e), F'.above⟩
        show wpAny _ A (assign (.Name y py) env (.ref (sI + 1))) _ _ _
        refine wpAny_assign_Name (wpAny_storeName_local hy F2.ns (fun h3 hn3 hs3 => ?_) hp)
        have F3 := F2.set hn3 hs3
        have hL3 : ∀ b o, @Ne Nat b env.locals → h2.get? b = some o → h3.get? b = some o := fun b o hb e => hs3.extBut b o hb e
        have N3 : News h₀ env.locals h3 ((sI + 1, lst ys) :: lg) := fun p hp => by
          have z := N' p (.tail _ (.tail _ hp))
          refine ⟨hL3 _ _ z.2.1 (keep2 _ _ ?_ z.1), z.2⟩
          rcases List.mem_cons.mp hp with rfl | hp
          · show @Ne Nat (sI + 1) sI; omega
          · exact Nat.ne_of_lt (hNlt p hp)
        have hn4 : h3.Ns (sI + 1 + 1) m' := (hn'.at' fun o e => keep2 _ o (by omega) e).at' fun o e => hL3 _ o (neL _ (by omega)) e
        refine ⟨m', hn4, fun h5 hs5 => ?_⟩
        refine fin ys (sI + 1) h5 _ hJ' (F3.change hs5 (neL _ (by omega)) (none1 _ (by omega))) (fun p hp => ?_) fun p hp => Nat.ne_of_lt (Nat.lt_trans (hNlt p hp) (by omega))
        have z := N3 p hp
        refine ⟨hs5.extBut _ _ ?_ z.1, z.2⟩
        rcases List.mem_cons.mp hp with rfl | hp
        · show @Ne Nat (sI + 1) (sI + 1 + 1); omega
        · exact Nat.ne_of_lt (Nat.lt_trans (hNlt p hp) (by omega))
    · rcases List.mem_cons.mp hp with rfl | hp
      · exact ⟨g0, neL _ (Nat.le_refl _), none1 _ (Nat.le_refl _)⟩
      rcases List.mem_cons.mp hp with rfl | hp
      · exact ⟨g3, neL _ (by omega), none1 _ (by omega)⟩
      rcases List.mem_cons.mp hp with rfl | hp
      · exact ⟨g1, neL _ (by omega), none1 _ (by omega)⟩
      · exact Nlg p hp
  exact codeAny_compStart_list (loop _ rfl) (W.self 0 _ _ _ st0 (loop _ rfl))
end
end

/- part MS2 -/
end
theorem fresh_MS2 : True ∧ True := by
  w_top off
  first
    | (walk1; done)
    | exact ⟨True.intro, True.intro⟩
section
open PyProof.Rows.LCg PyProof.Rows.LCt
/-! A comprehension over the keys of a dict; the one inside of `stay`. -/
section
variable {w : World} {A : Around} {s : Shared} {h₀ : Heap} {L : Addr} {m : Str → Option Value} {env : Env} {E : Value → Shared → Prop}
theorem comp_keys {ct elt iter : PySem.Expr} {x : Str} {px : Pos} {scope : Scope} {cl : List (Str × Addr)} {pos : Pos} {Q : Value → Shared → Prop} {d : Addr} {od : Obj} {kvs : List (Str × Value)} {news : List (Addr × Obj)}
    (F₀ : Fr h₀ L s.heap m) (hclos : closureFor scope env = pure cl) (hcell : ∀ y ∈ scope.names, y.2 ≠ .cell) (hkind : scope.kind = .function)
    (hnames : ∀ y ∈ scope.names, y.2 = .local → scope.names.lookup y.1 = some .local) (hx : scope.names.lookup x = some .local) (hh : A.handled = none) (hl : (d, od) ∈ news) (hod : od.IsDictOf (strKind Challenge.rw_fy0015_01.row.toRowW.1 w) kvs) (hd : @LT.lt Nat _ 100 d) (hsz : kvs.length ≤ 1000)
    (h : wpAny (model Challenge.rw_fy0015_01.row.toRowW.1 w) A (eval iter env) (fun xv s₁ => xv = .ref d ∧ Fr h₀ L s₁.heap m ∧ News h₀ L s₁.heap news ∧
      ∀ g, CompRestT Challenge.rw_fy0015_01.row.toRowW.1 w A h₀ L m env ct elt x scope cl { s₁ with heap := g } (fun nw => (d, od) ∈ nw) (fun i v => ∃ k z, kvs[i]? = some (k, z) ∧ (strKind Challenge.rw_fy0015_01.row.toRowW.1 w).is k v = true) (FinE h₀ L m { s₁ with heap := g } Q) kvs.length 0 [] news) E s)
    (hs : ∀ x, foldedSetIterable iter env x = pure x := by intro _; rfl) :
    wpAny (model Challenge.rw_fy0015_01.row.toRowW.1 w) A (eval (.ListComp elt [⟨.Name x px, iter, [ct], 0⟩] scope pos) env) Q E s := by
  rw [eval_ListComp]
  refine wpAny_comprehension_free (use := none) rfl hs hclos hkind hnames (wpAny_mono h (fun xv s₁ h₁ => ?_) fun _ _ e => e)
  obtain ⟨rfl, F, N, R⟩ := h₁
  have hlg := (N _ hl).1
  have hlt : d < s₁.heap.objs.size := Heap.lt_size hlg
  obtain ⟨ep, ha⟩ := KdkAt.of hod
  refine wpAny_pyIter_dict (beq_eq_false_iff_ne.mpr (Nat.ne_of_gt (Nat.lt_trans (by decide) hd))) (ha.dictAt hlg) ?_
  have up : ∀ io b o, s₁.heap.get? b = some o → (s₁.heap.push io).get? b = some o := fun io b o e => Heap.get?_push_of_some _ e
  refine block_T (Walks.dictKeys (knd := strKind Challenge.rw_fy0015_01.row.toRowW.1 w) hh s₁.heap.objs.size d (Nat.ne_of_lt hlt) kvs ep) (by rw [sizeLine_eq]; omega) (fun i h st => by obtain ⟨o, e, _⟩ := st.1; exact ⟨o, e⟩) (fun i h h' o nw st e e' k N S => ⟨by obtain ⟨o', q, r⟩ := st.1; rw [e] at q; cases q; exact ⟨o, e', r⟩, ha.dictAt (N _ S).1⟩) hcell hkind hx
    ⟨⟨_, Heap.get?_push_size _ rfl, rfl, rfl⟩, ha.dictAt (up _ _ _ hlg)⟩ (fun b hb => ?_)
    (F.keeps (up _)) (N.grown (up _)) (Nat.ne_of_lt F.ns.lt) (next_is_new F) (fun p hp => Nat.ne_of_lt (Heap.lt_size (N p hp).1)) hl (R _) ?_
  · show b < (s₁.heap.push _).objs.size
    rw [Heap.size_push]
    rcases List.mem_cons.mp hb with rfl | hb
    · exact Nat.lt_succ_self _
    · rw [List.mem_singleton.mp hb]; exact Nat.lt_succ_of_lt hlt
  · intro D C h tk m' ys news' F' N' o1 hn hC₀ hD₀ hCL hDL hCD offC fin
    refine ⟨m', hn, fun h'' hs'' => fin D h'' tk (F'.change hs'' hCL hC₀) (fun p hp => ?_) o1⟩
    refine ⟨hs''.extBut _ _ ?_ (N' p hp).1, (N' p hp).2⟩
    rcases List.mem_cons.mp hp with rfl | hp
    · exact Ne.symm hCD
    · exact offC p hp
end
theorem KvIn.keys {news : List (Addr × Obj)} {kvs : List (Str × Value)} {D : List (Str × Dat)} (h : KvIn news kvs D) : kvs.map Prod.fst = D.map Prod.fst := by
  induction h with
  | nil => rfl
  | cons _ _ ih => simp only [List.map_cons, ih]
def stScope : Scope := { kind := .function, names := [(Str.ofString ".0", .local), (Str.ofString "j", .cell), (Str.ofString "pairs", .free), (Str.ofString "rows", .free)], isGenerator := false, isCoroutine := false, more := [] }
def inScope : Scope := { kind := .function, names := [(Str.ofString ".0", .local), (Str.ofString "name", .local), (Str.ofString "j", .free), (Str.ofString "pairs", .free)], isGenerator := false, isCoroutine := false, more := [] }
def hit (P : Pr) (j : Nat) (x : Str) : Bool := match ivl P x with
  | some (l, k) => decide (l ≤ j) && decide (j < k)
  | none => false
def stCells (L : Addr) : List (Str × Addr) := [(Str.ofString "rows", L + 1), (Str.ofString "pairs", L + 1 + 1)]
local macro_rules | `(tactic| walk_at "subscriptTail Name Name ref str") => `(tactic| (k_here; (with_reducible show wpAny _ _ (subscriptTail _ _ (Value.ref _) (Value.str _ _)) _ _ _); k_dflt (refine' dsub ?N ?a ?b ?z ?_; (case N => k_asm); (case a => k_mem); (case b => with_reducible assumption); (case z => with_reducible assumption); k_whole)))
set_option maxHeartbeats 1000000 in
theorem stay_in {w : World} {H : Heap} {L fa : Addr} {cd : Value} {loose : List Str} {mean : ExcName → Option Value} {mg mb : Str → Option Value} {s : Shared} {E : Value → Shared → Prop} {Q : Value → Shared → Prop} {m : Str → Option Value} {lg : List (Addr × Obj)}
    {P : Pr} {d2 : Addr} {od2 o2 : Obj} {j C Jc : Nat} {oJ : Obj} {tj : Tok} {p1 p2 p3 p4 p5 p6 p7 p8 p9 p10 p11 p12 p13 p14 p15 p16 : Pos}
    (lc : LC w H L loose mean mg mb) (F : Fr H L s.heap m) (N : News H L s.heap lg)
    (hJ : (Jc, oJ) ∈ lg) (dJ : oJ.data = .cell (some (.int (j : Int) tj))) (ho2 : (L + 1 + 1, o2) ∈ lg) (c2 : o2.data = .cell (some (.ref d2))) (hd2 : (d2, od2) ∈ lg) (h2 : DictIs Challenge.rw_fy0015_01.row.toRowW.1 w lg od2 P.pairs) (hd : @LT.lt Nat _ 100 d2) (hz : P.pairs.length ≤ 200)
    (hall : ∀ x, getD P.pairs x ≠ none → ∃ l k : Nat, getD P.pairs x = some (.tuple [.int l, .int k]))
    (h : ∀ (D : Nat) (ys : List Value) nn h' tk', Fr H L h' m → News H L h' ((D, listOf ys.toArray nn) :: lg) → ys.length = ((P.pairs.map Prod.fst).filter (hit P j)).length → (∀ q ∈ lg, q.1 ≠ D) → Q (.ref D) { s with heap := h', toks := tk' }) :
    wpAny (model Challenge.rw_fy0015_01.row.toRowW.1 w) (callerA.deeper (LEnv L fa cd)) (eval (.ListComp (.Name (Str.ofString "name") p1) [⟨.Name (Str.ofString "name") p2, .Name (Str.ofString "pairs") p3,
      [.Compare (.Subscript (.Subscript (.Name (Str.ofString "pairs") p4) (.Name (Str.ofString "name") p5) p6) (.Constant (.int (Int.ofNat 0)) 0 p7) p8) [.LtE, .Lt] [.Name (Str.ofString "j") p9, .Subscript (.Subscript (.Name (Str.ofString "pairs") p10) (.Name (Str.ofString "name") p11) p12) (.Constant (.int (Int.ofNat 1)) 0 p13) p14] p15], 0⟩] inScope p16)
      (compEnvC stScope ((Str.ofString "j", Jc) :: stCells L) C (LEnv L fa cd))) Q E s := by
  obtain ⟨B1, X1, TT1, hb, l468⟩ := lc
  revert X1
  k_fill
  intro X1
  have T1 : TopRead topProg loose mg mb H := topRead_of TT1
  unfold LEnv lawParts stScope inScope stCells
  dsimp only
  obtain ⟨kvs, hk2, hv2⟩ := h2
  have hkl : kvs.length = P.pairs.length := by simpa using congrArg List.length hv2.keys
  refine comp_keys F (by with_unfolding_all rfl) (by decide) (by rfl) (by decide) (by rfl) rfl hd2 hk2 hd (by omega) ?_
  k_steps
  · exact F
  · exact N
  · rename_i g
    refine restT_two (n := kvs.length) (fun i ys nw => nw = lg ∧ ys.length = (((P.pairs.map Prod.fst).take i).filter (hit P j)).length) ?step ?fin kvs.length 0 [] lg (by omega) ⟨rfl, by simp⟩
    case fin =>
      rintro ys nw ⟨rfl, hR2⟩
      intro D h' tk F' N' o1
      rw [hkl, ← List.length_map (f := Prod.fst), List.take_length] at hR2
      exact h D ys ys.length h' tk F' N' hR2 (off1_mem o1)
    case step =>
      rintro i ys nw hi ⟨rfl, hR2⟩ v I oI C2 oC D m₂ h' tk E' ⟨kk, z, hkz, hvk⟩ hoC hmx F' N' o3 ne3
      obtain ⟨tv, rfl⟩ := Value.isStrOf_shape hvk
      have hik : i < (P.pairs.map Prod.fst).length := by rw [List.length_map]; omega
      have hkey : (P.pairs.map Prod.fst)[i] = kk := by
        have e : (kvs.map Prod.fst)[i]? = some kk := by rw [List.getElem?_map, hkz]; rfl
        rw [hv2.keys, List.getElem?_eq_getElem hik] at e
        exact Option.some.inj e
      have hin : getD P.pairs kk ≠ none := getD_key.mpr (hkey ▸ List.getElem_mem hik)
      obtain ⟨l, k, hlk⟩ := hall kk hin
      have htk : (P.pairs.map Prod.fst).take (i + 1) = (P.pairs.map Prod.fst).take i ++ [kk] := by rw [List.take_succ_eq_append_getElem hik, hkey]
      rw [htk, List.filter_append, List.length_append]
      clear htk
      have ehit : hit P j kk = (decide (l ≤ j) && decide (j < k)) := by unfold hit ivl; rw [hlk]; rfl
      obtain ⟨vp, vp1, vpd⟩ := kv_some hv2 hlk
      cases vpd with
      | tuple htp hall2 =>
        cases hall2 with
        | cons h1 h2 =>
          cases h2 with
          | cons h3 h4 =>
            cases h4
            cases h1
            cases h3
            by_cases e1 : (l : Int) ≤ (j : Int)
            · by_cases e2 : (j : Int) < (k : Int)
              · have ef : ([kk].filter (hit P j)).length = 1 := by rw [List.filter_cons, ehit, show (decide (l ≤ j) && decide (j < k)) = true from by simp; omega]; rfl
                rw [ef]
                left
                k_steps
                refine ⟨decide_eq_true e2, ?_⟩
                k_steps
                refine CompEnd.intro F' N' nw (fun q hq => hq) o3 hd2 ⟨rfl, ?_⟩
                rw [List.length_append, hR2]; rfl
              · have ef : ([kk].filter (hit P j)).length = 0 := by rw [List.filter_cons, ehit, show (decide (l ≤ j) && decide (j < k)) = false from by simp; omega]; rfl
                rw [ef]
                right
                k_steps
                exact ⟨decide_eq_false e2, CompEnd.intro F' N' nw (fun q hq => hq) o3 hd2 ⟨rfl, hR2⟩⟩
            · have ef : ([kk].filter (hit P j)).length = 0 := by rw [List.filter_cons, ehit, show (decide (l ≤ j) && decide (j < k)) = false from by simp; omega]; rfl
              rw [ef]
              right
              k_steps
              exact ⟨rfl, CompEnd.intro F' N' nw (fun q hq => hq) o3 hd2 ⟨rfl, hR2⟩⟩
end

/- part MS3 -/
theorem fresh_MS3 : True ∧ True := by
  w_top off
  first
    | (walk1; done)
    | exact ⟨True.intro, True.intro⟩
section
open PyProof.Rows.LCg PyProof.Rows.LCt
/-! The assignment of `stay`. -/
theorem hit_kept {P : Pr} {xs : List Str} {j : Nat} : (xs.filter (hit P j)).length = 0 ↔ kept (Dof P xs) j = true := by
  rw [List.length_eq_zero_iff, List.filter_eq_nil_iff, kept_Dof]
  constructor
  · intro a x hx q hq hc
    refine a x hx ?_
    unfold hit
    rw [hq]
    simp only [Bool.and_eq_true, decide_eq_true_eq]
    exact hc
  · intro a x hx hc
    unfold hit at hc
    cases e : ivl P x with
    | none => rw [e] at hc; cases hc
    | some q =>
      rw [e] at hc
      simp only [Bool.and_eq_true, decide_eq_true_eq] at hc
      exact a x hx q e hc
theorem pairs_two {rows : List Row} {bm : Nat} (hbl : BlF rows bm) : ∀ x, getD (prOf rows).pairs x ≠ none → ∃ l k : Nat, getD (prOf rows).pairs x = some (.tuple [.int l, .int k]) := by
  intro x hx
  cases e : getD (prOf rows).pairs x with
  | none => exact absurd e hx
  | some d =>
    obtain ⟨l, k, _, _, _, rfl⟩ := (prOf_inv hbl).pairs x d e
    exact ⟨l, k, rfl⟩
theorem kix_succ (p : Nat → Bool) (n : Nat) : kix p (n + 1) = kix p n ++ [n].filter p := by
  unfold kix
  rw [List.range_succ, List.filter_append]
def RgEnd (h₀ : Heap) (L : Addr) (m : Str → Option Value) (s : Shared) (lg : List (Addr × Obj)) (n : Nat) (xv : Value) (s₁ : Shared) : Prop := ∃ r t u v hh tt, xv = .ref r ∧ s₁ = { s with heap := hh, toks := tt } ∧ Fr h₀ L s₁.heap m ∧ News h₀ L s₁.heap lg ∧ IsRange s₁.heap r 0 (n : Int) 1 t u v
local macro_rules | `(tactic| walk_at "eval ListComp") => `(tactic| (k_here; (with_reducible show wpAny _ _ (eval (PySem.Expr.ListComp _ _ _ _) _) _ _ _); refine stop_e ?_))
set_option maxHeartbeats 1000000 in
theorem stay_asg {w : World} {H : Heap} {L fa : Addr} {cd : Value} {loose : List Str} {mean : ExcName → Option Value} {mg mb : Str → Option Value} {s : Shared} {E : Value → Shared → Prop} {Q : Flow → Shared → Prop} {m : Str → Option Value} {lg R : List (Addr × Obj)}
    {rows : List Row} {bm : Nat} {x : Fx} {p : Nat → Bool} (lc : LC w H L loose mean mg mb) (hbl : BlF rows bm) (hz : rows.length ≤ 200) (hpl : (prOf rows).pairs.length ≤ 200) (FX : Fixed w L rows x R) (F : Fr H L s.heap m) (N : News H L s.heap lg) (hR : ∀ q ∈ R, q ∈ lg)
    (ho1 : (L + 1, x.o1) ∈ lg) (ho2 : (L + 1 + 1, x.o2) ∈ lg) (hp : kept (Dof (prOf rows) ((prOf rows).pairs.map Prod.fst)) = p)
    (h : ∀ (D : Addr) (ys : List Value) nn h' tk', Fr H L h' (fun z => if z = Str.ofString "stay" then some (.ref D) else m z) → News H L h' ((D, listOf ys.toArray nn) :: lg) → RowsIn R ys (left rows p) → (∀ q ∈ lg, q.1 ≠ D) → Q .next { s with heap := h', toks := tk' }) :
    wpAny (model Challenge.rw_fy0015_01.row.toRowW.1 w) (callerA.deeper (LEnv L fa cd)) (exec eS1.1 (LEnv L fa cd)) Q E s := by
  have lc0 := lc
  obtain ⟨B1, X1, TT1, hb, l468⟩ := lc
  revert X1
  k_fill
  intro X1
  have T1 : TopRead topProg loose mg mb H := topRead_of TT1
  have c1 := FX.c1
  have c2 := FX.c2
  have hrl := hR _ FX.rl_in
  have hrn := RowsIn.length FX.rl_is
  unfold eS1
  dsimp only
  refine assign_comp_cell (h₀ := H) (L := L) (m := m) (lg := lg) (n := rows.length) (J := fun i ys => RowsIn R ys ((kix p i).map (rowAt rows))) rfl rfl (by rfl) (by with_unfolding_all rfl) rfl rfl (by decide) (by intros; rfl) (by rfl) (by rfl) (by omega) (by exact RowsIn.nil) ?_ ?_ ?_
  · refine wpAny_mono (Q := RgEnd H L m s lg rows.length) ?_ (fun _ _ e => e) fun _ _ e => e
    unfold LEnv lawParts
    dsimp only
    k_steps
    rename_i N9 _ _
    have z9 := (N9 _ (.head _)).1
    rw [hrn] at z9
    exact ⟨_, _, _, _, _, _, rfl, rfl, by assumption, news_sub N9 fun p hp => .tail _ hp, z9⟩
  · intro i ys t I oI C oC Jc oJ D s' E' hi hJ dJ F' N' hlow hID hDC hCJ
    have hin : D ≤ D := Nat.le_refl _
    obtain ⟨a, n0, c, t0, u0, hx, hma, hc, hdu, hda⟩ := rows_at FX.rl_is hi
    have hx0 : x.rvs[((i : Nat) : Int).toNat]? = some (.ref a) := by rw [Int.toNat_natCast]; exact hx
    have hsub : ∀ q ∈ lg, q ∈ (I, oI) :: (C, oC) :: (Jc, oJ) :: (D, lst ys) :: lg := fun q hq => .tail _ (.tail _ (.tail _ (.tail _ hq)))
    have go : ∀ b, (kept (Dof (prOf rows) ((prOf rows).pairs.map Prod.fst)) i = b) → True := fun _ _ => trivial
    rw [kix_succ, List.map_append]
    subst hp
    cases hk : kept (Dof (prOf rows) ((prOf rows).pairs.map Prod.fst)) i with
    | true =>
      left
      unfold LEnv lawParts
      dsimp only
      k_steps
      refine e_go (stay_in (P := prOf rows) (j := i) (Jc := Jc) (C := C) lc0 F' N' (.tail _ (.tail _ (.head _))) dJ (hsub _ ho2) c2 (hsub _ (hR _ FX.d2_in)) (FX.d2_is.mono fun q hq => hsub _ (hR _ hq)) FX.d2_100 hpl (pairs_two hbl) fun D2 ys2 nn2 h5 tk5 F5 N5 hl5 q5 => ?_)
      have hys : ys2 = [] := List.length_eq_zero_iff.mp (hl5.trans (hit_kept.mpr hk))
      k_steps
      refine ⟨rfl, ?_⟩
      k_steps
      refine ⟨_, _, rfl, by assumption, news_sub (by assumption) (fun p hp => .tail _ (.tail _ hp)), ?_⟩
      rw [show [i].filter (kept (Dof (prOf rows) ((prOf rows).pairs.map Prod.fst))) = [i] from by simp [hk]]
      exact hJ.app (RowsIn.cons hda RowsIn.nil)
    | false =>
      right
      unfold LEnv lawParts
      dsimp only
      k_steps
      refine e_go (stay_in (P := prOf rows) (j := i) (Jc := Jc) (C := C) lc0 F' N' (.tail _ (.tail _ (.head _))) dJ (hsub _ ho2) c2 (hsub _ (hR _ FX.d2_in)) (FX.d2_is.mono fun q hq => hsub _ (hR _ hq)) FX.d2_100 hpl (pairs_two hbl) fun D2 ys2 nn2 h5 tk5 F5 N5 hl5 q5 => ?_)
      have hys : ys2 ≠ [] := fun e => by
        rw [hit_kept.mp (hl5.symm.trans (List.length_eq_zero_iff.mpr e))] at hk
        cases hk
      k_steps
      refine ⟨rfl, _, _, rfl, by assumption, news_sub (by assumption) (fun p hp => .tail _ (.tail _ hp)), ?_⟩
      rw [show [i].filter (kept (Dof (prOf rows) ((prOf rows).pairs.map Prod.fst))) = [] from by simp [hk]]
      rw [List.map_nil, List.append_nil]
      exact hJ
  · intro ys D h' tk hJ F' N' hlow
    exact h D ys ys.length h' tk F' N' hJ hlow
end

/- part MS4 -/
theorem fresh_MS4 : True ∧ True := by
  w_top off
  first
    | (walk1; done)
    | exact ⟨True.intro, True.intro⟩
section
local macro_rules | `(tactic| walk_at "compareOp NotEq ref ref") => `(tactic| (k_here; (with_reducible show wpAny _ _ (compareOp CmpOp.NotEq (Value.ref _) (Value.ref _)) _ _ _); refine stop_cmp ?_))
local macro_rules | `(tactic| walk_at "compareOp Eq ref ref") => `(tactic| (k_here; (with_reducible show wpAny _ _ (compareOp CmpOp.Eq (Value.ref _) (Value.ref _)) _ _ _); refine stop_cmp ?_))
section
open PyProof.Rows.LCg PyProof.Rows.LCt
/-! What stands behind the loop, first part: stay and the three parts of the data. -/
theorem rows_tail {R : List (Addr × Obj)} {rvs : List Value} {rows : List Row} (q3 : RowsIn R rvs rows) : RowsIn R (kms_pick rvs.toArray.toList (some 1) none) rows.tail := by
  have hl := q3.length
  cases er : rvs with
  | nil =>
    rw [er] at hl
    have : rows = [] := List.length_eq_zero_iff.mp hl.symm
    subst this
    exact RowsIn.nil
  | cons v us =>
    cases ed : rows with
    | nil => rw [er, ed] at hl; simp at hl
    | cons r rs =>
      have z := q3
      rw [er, ed] at z
      show RowsIn R (kms_pick (v :: us) (some 1) none) rs
      rw [pick_from1]
      unfold RowsIn at z ⊢
      cases z with
      | cons _ z => exact z
def StopB (prog : Program) (w : World) (A : Around) (a b : Value) (Q : Value → Shared → Prop) (E : Value → Shared → Prop) (s : Shared) : Prop := wpAny (model prog w) A (binaryOp .Add a b) Q E s
theorem stop_b {prog : Program} {w : World} {A : Around} {a b : Value} {Q : Value → Shared → Prop} {E : Value → Shared → Prop} {s : Shared} (h : StopB prog w A a b Q E s) : wpAny (model prog w) A (binaryOp .Add a b) Q E s := h
theorem b_go {prog : Program} {w : World} {A : Around} {a b : Value} {Q : Value → Shared → Prop} {E : Value → Shared → Prop} {s : Shared} (h : wpAny (model prog w) A (binaryOp .Add a b) Q E s) : StopB prog w A a b Q E s := h
local macro_rules | `(tactic| walk_at "binaryOp Add ref ref") => `(tactic| (k_here; (with_reducible show wpAny _ _ (binaryOp Operator.Add (Value.ref _) (Value.ref _)) _ _ _); refine stop_b ?_))
set_option maxHeartbeats 1000000 in
theorem tail1 {w : World} {H : Heap} {L fa : Addr} {cd : Value} {loose : List Str} {mean : ExcName → Option Value} {mg mb : Str → Option Value} {s : Shared} {E : Value → Shared → Prop} {Q : Flow → Shared → Prop} {scr : Addr} {u : Str → Option Value}
    {rows : List Row} {bm : Nat} {x : Fx} {y : St} {xs : List Str} {R : List (Addr × Obj)} {rest : List Stmt} (lc : LC w H L loose mean mg mb) (hbl : BlF rows bm) (hz : rows.length ≤ 200) (hpl : (prOf rows).pairs.length ≤ 200) (FX : Fixed w L rows x R)
    (NW : Now w L rows x 4 xs [] y R) (F : Fr H L s.heap (upds (frame scr x y) u)) (N : News H L s.heap (led L x y R))
    (h : ∀ (D : Addr) (ys : List Value) nn m' h' tk', (∀ q ∈ [(Str.ofString "stay", Value.ref D), (Str.ofString "alone", .ref x.al)], m' q.1 = some q.2) → Fr H L h' m' → News H L h' ((D, listOf ys.toArray nn) :: led L x y R) → RowsIn R ys (left rows (remain rows xs)) → (∀ q ∈ led L x y R, q.1 ≠ D) →
      wpAny (model Challenge.rw_fy0015_01.row.toRowW.1 w) (callerA.deeper (LEnv L fa cd)) (execs rest (LEnv L fa cd)) Q E { s with heap := h', toks := tk' }) :
    wpAny (model Challenge.rw_fy0015_01.row.toRowW.1 w) (callerA.deeper (LEnv L fa cd)) (execs (eS1.1 :: eS2.1 :: eS3.1 :: rest) (LEnv L fa cd)) Q E s := by
  have lc0 := lc
  have cx := lc.cx (fa := fa) (cd := cd)
  have hx4 : ∀ k, k < 4 → nm k ∈ xs := fun k hk => (NW.all_nm k hk).resolve_right (List.not_mem_nil)
  refine wpAny_execs_cons (stay_asg lc hbl hz hpl FX F N led_R (by unfold led key8; (repeat (first | exact List.Mem.head _ | refine List.Mem.tail _ ?_))) (by unfold led key8; (repeat (first | exact List.Mem.head _ | refine List.Mem.tail _ ?_))) (kept_all hbl hx4).symm fun D ys nn h2 tk2 F2 N2 hys hD => ?_)
  obtain ⟨B1, X1, TT1, hb, l468⟩ := lc
  revert X1
  k_fill
  intro X1
  have T1 : TopRead topProg loose mg mb H := topRead_of TT1
  unfold LEnv lawParts eS2 eS3
  unfold LEnv lawParts at cx
  unfold led key8 at N2
  unfold frame at F2
  dsimp only at cx ⊢
  (try k_fold)
  clear F N
  have c1 := FX.c1
  have hxo := FX.xo_in
  have hxo2 := FX.xo2_in
  have okT : ∀ r ∈ left rows (remain rows xs), rowOk r = true := left_ok hbl
  have hlz : (left rows (remain rows xs)).length ≤ 900 := by have := left_le rows (remain rows xs); omega
  have d100 : @LT.lt Nat _ 100 x.d := by have := FX.d5; simp only [c5a] at this; omega
  have d100b := FX.dd2_100
  have hva : valueAt [(APP, Value.ref y.l), (REST, Value.ref x.l2)] (Str.ofString "APP") = some (.ref y.l) := by unfold valueAt APP; simp
  have hva2 : valueAt [(APP, Value.ref y.l), (REST, Value.ref x.l2)] (Str.ofString "REST") = some (.ref x.l2) := by unfold valueAt APP REST; simp [show ¬ (Str.ofString "APP" = Str.ofString "REST") from by decide +kernel]
  have hva3 : valueAt [(APP, Value.ref x.l3)] (Str.ofString "APP") = some (.ref x.l3) := by unfold valueAt APP; simp
  have hxd := FX.xd_in
  have hxd2 := FX.xd2_in
  have hdd2 := FX.dd2_in
  have hl3 := FX.l3_in
  have hl2 := FX.l2_in
  have hrl := FX.rl_in
  have okR : ∀ r ∈ rows, rowOk r = true := hbl.ok
  have hrz : x.rvs.length ≤ 200 := by have := FX.rl_is.length; omega
  have okE : ∀ r ∈ (1001, Cell.s REST) :: rows.tail, rowOk r = true := List.forall_mem_cons.mpr ⟨by decide +kernel, fun r hr => okR r (List.mem_of_mem_tail hr)⟩
  have hez : ((1001, Cell.s REST) :: rows.tail).length ≤ 900 := by simp; omega
  have hrt := rows_tail FX.rl_is
  have hpk : (kms_pick x.rvs.toArray.toList (some 1) none).length ≤ 200 := Nat.le_trans (Nat.le_of_eq hrt.length) (Nat.le_trans (by simp) hz)
  k_steps
  refine stop_go (get_spec (od := y.od) (d := x.d) (kvs := [(APP, .ref y.l), (REST, .ref x.l2)]) (tkx := x.tkx) (nx := x.nx) (xd := x.xd) cx (by k_asm) (by k_asm) (by k_room) (by k_units) (by k_mem) (by k_mem) (by k_mem) NW.od_is d100 hva fun h6 tk6 F6 N6 => ?_)
  k_steps
  refine stop_go (pl_spec (rs := left rows (remain rows xs)) (l := y.l) (n := y.n) (dl := y.dl) cx F6 N6 (by k_room) (by k_units) (by k_mem) (NW.tags.mono (by (try unfold key8); (repeat' (first | with_reducible exact sbs_nil | with_reducible refine sbs_cons ?_ ?_ | with_reducible refine sbs_app ?_ ?_)); all_goals (repeat' (first | with_reducible exact List.Mem.head _ | with_reducible exact sbs_refl | with_reducible refine List.Mem.tail _ ?_ | with_reducible refine sbs_tail ?_ | with_reducible exact sbs_right | with_reducible refine sbs_left ?_ | with_reducible refine mem_right9 ?_)))) hlz fun D7 ys7 nn7 add7 h7 tk7 F7 N7 hR7 q7 q7b => ?_)
  k_steps
  have hysd : DatIn (add7 ++ (D, listOf ys.toArray nn) :: led L x y R) (.ref D) (.list ((left rows (remain rows xs)).map rowDat)) := DatIn.list (vs := ys) (List.mem_append_right _ (.head _)) (DatAll.mono (fun p hp => List.mem_append_right _ (.tail _ (led_R _ hp))) hys)
  refine cmp_go (ne_same N7 (DatIn.list (vs := ys7) (.head _) (DatAll.mono (fun p hp => .tail _ hp) hR7)) (hysd.mono fun p hp => .tail _ hp) (rows_ok3 okT 5) (by k_units) ?_)
  replace N7 := news_sub N7 (fun p hp => List.Mem.tail _ (List.mem_append_right _ hp))
  k_steps
  refine stop_go (get_spec (od := x.odd2) (d := x.dd2) (kvs := [(APP, .ref x.l3)]) (tkx := x.tkx2) (nx := x.nx2) (xd := x.xd2) cx (by k_asm) (by k_asm) (by k_room) (by k_units) (by k_mem) (by k_mem) (by k_mem) FX.dd2_is d100b hva3 fun h8 tk8 F8 N8 => ?_)
  k_steps
  refine stop_go (pl_spec (rs := rows) (l := x.l3) (n := x.n3) (dl := x.dl3) cx F8 N8 (by k_room) (by k_units) (by k_mem) (FX.l3_is.mono (by (try unfold key8); (repeat' (first | with_reducible exact sbs_nil | with_reducible refine sbs_cons ?_ ?_ | with_reducible refine sbs_app ?_ ?_)); all_goals (repeat' (first | with_reducible exact List.Mem.head _ | with_reducible exact sbs_refl | with_reducible refine List.Mem.tail _ ?_ | with_reducible refine sbs_tail ?_ | with_reducible exact sbs_right | with_reducible refine sbs_left ?_ | with_reducible refine mem_right9 ?_)))) (by omega) fun D9 ys9 nn9 add9 h9 tk9 F9 N9 hR9 q9 q9b => ?_)
  replace N9 : News H L h9 ((D9, listOf ys9.toArray nn9) :: (D, listOf ys.toArray nn) :: led L x y (add9 ++ R)) := news_sub N9 (by unfold led; exact (by (try unfold key8); (repeat' (first | with_reducible exact sbs_nil | with_reducible refine sbs_cons ?_ ?_ | with_reducible refine sbs_app ?_ ?_)); all_goals (repeat' (first | with_reducible exact List.Mem.head _ | with_reducible exact sbs_refl | with_reducible refine List.Mem.tail _ ?_ | with_reducible refine sbs_tail ?_ | with_reducible exact sbs_right | with_reducible refine sbs_left ?_ | with_reducible refine mem_right9 ?_))))
  have dA : DatIn ((D9, listOf ys9.toArray nn9) :: (D, listOf ys.toArray nn) :: led L x y (add9 ++ R)) (.ref D9) (.list (rows.map rowDat)) := DatIn.list (vs := ys9) (.head _) (DatAll.mono (by unfold led; exact (by (try unfold key8); (repeat' (first | with_reducible exact sbs_nil | with_reducible refine sbs_cons ?_ ?_ | with_reducible refine sbs_app ?_ ?_)); all_goals (repeat' (first | with_reducible exact List.Mem.head _ | with_reducible exact sbs_refl | with_reducible refine List.Mem.tail _ ?_ | with_reducible refine sbs_tail ?_ | with_reducible exact sbs_right | with_reducible refine sbs_left ?_ | with_reducible refine mem_right9 ?_)))) hR9)
  have dB : DatIn ((D9, listOf ys9.toArray nn9) :: (D, listOf ys.toArray nn) :: led L x y (add9 ++ R)) (.ref x.rl) (.list (rows.map rowDat)) := DatIn.list (vs := x.rvs) (.tail _ (.tail _ (led_R _ (List.mem_append_right _ FX.rl_in)))) (DatAll.mono (fun p hp => .tail _ (.tail _ (led_R _ (List.mem_append_right _ hp)))) FX.rl_is)
  unfold led key8 at N9
  k_steps
  refine cmp_go (ne_same N9 dA dB (rows_ok3 okR 5) (by k_units) ?_)
  clear dA dB
  replace N9 : News H L h9 ((D, listOf ys.toArray nn) :: led L x y R) := news_sub N9 (by unfold led; exact (by (try unfold key8); (repeat' (first | with_reducible exact sbs_nil | with_reducible refine sbs_cons ?_ ?_ | with_reducible refine sbs_app ?_ ?_)); all_goals (repeat' (first | with_reducible exact List.Mem.head _ | with_reducible exact sbs_refl | with_reducible refine List.Mem.tail _ ?_ | with_reducible refine sbs_tail ?_ | with_reducible exact sbs_right | with_reducible refine sbs_left ?_ | with_reducible refine mem_right9 ?_))))
  unfold led key8 at N9
  k_steps
  refine stop_go (get_spec (od := y.od) (d := x.d) (kvs := [(APP, .ref y.l), (REST, .ref x.l2)]) (tkx := x.tkx) (nx := x.nx) (xd := x.xd) cx (by k_asm) (by k_asm) (by k_room) (by k_units) (by k_mem) (by k_mem) (by k_mem) NW.od_is d100 hva2 fun h10 tk10 F10 N10 => ?_)
  k_steps
  refine stop_go (pl_spec (rs := (1001, .s REST) :: rows.tail) (l := x.l2) (n := x.n2) (dl := x.dl2) cx F10 N10 (by k_room) (by k_units) (by k_mem) (FX.l2_is.mono (by (try unfold key8); (repeat' (first | with_reducible exact sbs_nil | with_reducible refine sbs_cons ?_ ?_ | with_reducible refine sbs_app ?_ ?_)); all_goals (repeat' (first | with_reducible exact List.Mem.head _ | with_reducible exact sbs_refl | with_reducible refine List.Mem.tail _ ?_ | with_reducible refine sbs_tail ?_ | with_reducible exact sbs_right | with_reducible refine sbs_left ?_ | with_reducible refine mem_right9 ?_)))) hez fun D11 ys11 nn11 add11 h11 tk11 F11 N11 hR11 q11 q11b => ?_)
  replace N11 : News H L h11 ((D11, listOf ys11.toArray nn11) :: (D, listOf ys.toArray nn) :: led L x y (add11 ++ R)) := news_sub N11 (by unfold led; exact (by (try unfold key8); (repeat' (first | with_reducible exact sbs_nil | with_reducible refine sbs_cons ?_ ?_ | with_reducible refine sbs_app ?_ ?_)); all_goals (repeat' (first | with_reducible exact List.Mem.head _ | with_reducible exact sbs_refl | with_reducible refine List.Mem.tail _ ?_ | with_reducible refine sbs_tail ?_ | with_reducible exact sbs_right | with_reducible refine sbs_left ?_ | with_reducible refine mem_right9 ?_))))
  have dA : DatIn ((D11, listOf ys11.toArray nn11) :: (D, listOf ys.toArray nn) :: led L x y (add11 ++ R)) (.ref D11) (.list (((1001, Cell.s REST) :: rows.tail).map rowDat)) := DatIn.list (vs := ys11) (.head _) (DatAll.mono (by unfold led; exact (by (try unfold key8); (repeat' (first | with_reducible exact sbs_nil | with_reducible refine sbs_cons ?_ ?_ | with_reducible refine sbs_app ?_ ?_)); all_goals (repeat' (first | with_reducible exact List.Mem.head _ | with_reducible exact sbs_refl | with_reducible refine List.Mem.tail _ ?_ | with_reducible refine sbs_tail ?_ | with_reducible exact sbs_right | with_reducible refine sbs_left ?_ | with_reducible refine mem_right9 ?_)))) hR11)
  unfold led key8 at N11
  k_steps
  rename_i Dt hDt lDt ltDt Dl hDl lDl ltDl Ds h12 F12 N12 lDs ltDs
  refine b_go (add_lists' F12 N12 (xs := [.ref Dt]) (.tail _ (.head _)) (.head _) (Nat.le_trans (Nat.add_le_add_left hpk 1) (by decide)) fun S h13 F13 N13 l13 => ?_)
  k_steps
  refine cmp_go (ne_same N13 (dA.mono fun p hp => .tail _ (.tail _ (.tail _ (.tail _ hp)))) (DatIn.list (vs := [.ref Dt] ++ kms_pick x.rvs.toArray.toList (some 1) none) (.head _) (DatAll.cons (DatIn.tuple (vs := [Value.int 1001 _, Value.str (Str.ofString "REST") _]) (.tail _ (.tail _ (.tail _ (.head _)))) (DatAll.cons (DatIn.int _ _) (DatAll.cons (DatIn.str _ _) DatAll.nil))) (DatAll.mono (fun p hp => .tail _ (.tail _ (.tail _ (.tail _ (.tail _ (.tail _ (led_R _ (List.mem_append_right _ hp)))))))) hrt))) (rows_ok3 okE 5) (by k_units) ?_)
  replace N13 : News H L h13 ((D, listOf ys.toArray nn) :: led L x y R) := news_sub N13 (by unfold led; exact (by (try unfold key8); (repeat' (first | with_reducible exact sbs_nil | with_reducible refine sbs_cons ?_ ?_ | with_reducible refine sbs_app ?_ ?_)); all_goals (repeat' (first | with_reducible exact List.Mem.head _ | with_reducible exact sbs_refl | with_reducible refine List.Mem.tail _ ?_ | with_reducible refine sbs_tail ?_ | with_reducible exact sbs_right | with_reducible refine sbs_left ?_ | with_reducible refine mem_right9 ?_))))
  unfold led key8 at N13
  k_steps
  refine h D ys nn _ _ _ ?_ (by assumption) (by unfold led key8; assumption) hys hD
  intro q hq
  simp only [List.mem_cons, List.not_mem_nil, or_false] at hq
  rcases hq with rfl | rfl <;> (simp only [upds, ofString_eq, String.reduceEq, reduceIte] <;> exact rfl)
end

/- part MS5 -/
theorem fresh_MS5 : True ∧ True := by
  w_top off
  first
    | (walk1; done)
    | exact ⟨True.intro, True.intro⟩
section
open PyProof.Rows.LCg PyProof.Rows.LCt
/-! What stands behind the loop, second part: the entity check of the whole and of what is left. -/
theorem ints_dat {R : List (Addr × Obj)} {vs : List Value} {ns : List Int} (h : IntsAre vs ns) : DatAll R vs (ns.map .int) := by
  induction h with
  | nil => exact DatAll.nil
  | cons _ _ _ ih => exact DatAll.cons (DatIn.int _ _) ih
local macro_rules | `(tactic| walk_at "binaryOp Add ref ref") => `(tactic| (k_here; (with_reducible show wpAny _ _ (binaryOp Operator.Add (Value.ref _) (Value.ref _)) _ _ _); refine stop_b ?_))
theorem hd_ok : ∀ r ∈ hdRows, rowOk r = true := by decide +kernel
theorem chk_ok {bd : List Row} (h : ∀ r ∈ bd, rowOk r = true) : kqdOk 7 (chkDat bd) = true := by
  unfold chkDat
  split
  · have s1 : PyData.strOk (Str.ofString "let through") = true := by decide +kernel
    simp only [kqdOk, List.all_cons, List.all_nil, Bool.and_true, s1, Bool.true_and, List.all_map, List.all_eq_true, Function.comp]
    intro r hr
    refine row_ok2 ?_ 3
    rcases List.mem_append.mp hr with hr | hr
    · exact hd_ok r hr
    · exact h r hr
  · have s1 : PyData.strOk (Str.ofString "refused") = true := by decide +kernel
    simp only [kqdOk, List.all_cons, List.all_nil, Bool.and_true]; exact s1
theorem two_ok {d e : Dat} (hd : kqdOk 7 d = true) (he : kqdOk 7 e = true) : kqdOk 8 (.list [d, e]) = true := by
  simp only [kqdOk, List.all_cons, List.all_nil, Bool.and_true, hd, he]
theorem ints_ok (l : List Int) : kqdOk 8 (.list (l.map .int)) = true := by
  simp only [kqdOk, List.all_map, List.all_eq_true, Function.comp]
  intro _ _
  trivial
theorem nat_nil {l : List Nat} (h : Dat.list ((natDat l).map .int) = .list []) : l = [] := by
  simpa [natDat] using h
theorem left_bd {rows : List Row} {bm : Nat} (hbl : BlF rows bm) (xs : List Str) : ∀ j, 0 < j → j < (left rows (remain rows xs)).length → rowAt (left rows (remain rows xs)) j = opn ∨ rowAt (left rows (remain rows xs)) j = clo ∨ (rowAt (left rows (remain rows xs)) j).1 = 1000 ∨ (rowAt (left rows (remain rows xs)) j).1 = 1071 := by
  intro j h0 hj
  rw [left_len] at hj
  obtain ⟨i, hi, hk, rfl⟩ := left_at rows.length j hj
  have e : rowAt (left rows (remain rows xs)) (rk (remain rows xs) i) = rowAt rows i := krows_at (rowAt rows) hi hk
  rw [e]
  have hi0 : 1 ≤ i := by
    rcases Nat.eq_zero_or_pos i with rfl | h
    · exact absurd h0 (by unfold rk kix; simp)
    · exact h
  rcases hbl.cod i hi0 hi with h | h | h | h
  · exact .inr (.inr (.inl h))
  · exact .inl h
  · exact .inr (.inl h)
  · exact .inr (.inr (.inr h))
theorem left_bd0 {rows : List Row} {bm : Nat} (hbl : BlF rows bm) (xs : List Str) : 0 < (left rows (remain rows xs)).length ∧ rowAt (left rows (remain rows xs)) 0 = (1001, .s (Str.ofString "APP")) := by
  obtain ⟨r, hr⟩ := left_head hbl (Dof_isP hbl xs)
  show 0 < (left rows (kept _)).length ∧ rowAt (left rows (kept _)) 0 = _
  rw [hr]
  exact ⟨Nat.succ_pos _, rfl⟩
theorem all_bd {rows : List Row} {bm : Nat} (hbl : BlF rows bm) : ∀ j, 0 < j → j < rows.length → rowAt rows j = opn ∨ rowAt rows j = clo ∨ (rowAt rows j).1 = 1000 ∨ (rowAt rows j).1 = 1071 := by
  intro i h0 hi
  rcases hbl.cod i h0 hi with h | h | h | h
  · exact .inr (.inr (.inl h))
  · exact .inl h
  · exact .inr (.inl h)
  · exact .inr (.inr (.inr h))
theorem off_201 {L a d l : Addr} {o5 o4 o3 o2 o1 od ol o : Obj} {ps1 ps ps2 : Array Value} {ys : List (Addr × Obj)} {R : List (Addr × Obj)} (hL : @LT.lt Nat _ 468 L) (O : Off L d l R) (hD : ∀ q ∈ key8 L o5 o4 o3 o2 o1 ps1 ps ps2 ((d, od) :: (l, ol) :: R), q.1 ≠ a) : ∀ p ∈ (L + 1, o1) :: (468, tabObj ps1) :: (408, tabObj ps) :: (a, o) :: R, p.1 ≠ 201 := by
  unfold key8 at hD
  have h1 : (201 : Addr) ≠ a := hD _ (.tail _ (.tail _ (.tail _ (.tail _ (.tail _ (.tail _ (.tail _ (.head _))))))))
  refine List.forall_mem_cons.mpr ⟨?_, List.forall_mem_cons.mpr ⟨?_, List.forall_mem_cons.mpr ⟨?_, List.forall_mem_cons.mpr ⟨h1.symm, O.t3⟩⟩⟩⟩ <;> (show @Ne Nat _ _) <;> omega
set_option maxHeartbeats 1000000 in
theorem tail2 {w : World} {H : Heap} {L fa : Addr} {cd : Value} {loose : List Str} {mean : ExcName → Option Value} {mg mb : Str → Option Value} {s : Shared} {Q : Flow → Shared → Prop} {E : Value → Shared → Prop}
    {rows : List Row} {bm : Nat} {x : Fx} {xs : List Str} {R : List (Addr × Obj)} {D : Addr} {ys : List Value} {nn : Nat} {ps1 ps ps2 : Array Value} (lc : LC w H L loose mean mg mb) (hbl : BlF rows bm) (hz : rows.length ≤ 200) (FX : Fixed w L rows x R)
    {u : Str → Option Value} (F : Fr H L s.heap (upds [(Str.ofString "stay", .ref D), (Str.ofString "alone", .ref x.al)] u))
    (N : News H L s.heap ((201, tabObj ps2) :: (L + 1, x.o1) :: (468, tabObj ps1) :: (408, tabObj ps) :: (D, listOf ys.toArray nn) :: R)) (hoff : ∀ p ∈ (L + 1, x.o1) :: (468, tabObj ps1) :: (408, tabObj ps) :: (D, listOf ys.toArray nn) :: R, p.1 ≠ 201)
    (hps : TriplesOk ps2.toList) (hys : RowsIn R ys (left rows (remain rows xs)))
    (h : ∀ h' tk' gn' ps2' m', Fr H L h' m' → News H L h' [(468, tabObj ps1), (408, tabObj ps), (201, tabObj ps2')] → (AllBare s.gens → AllBare gn') → Q (.ret (.bool true)) (gSt s h' tk' gn')) :
    wpAny (model Challenge.rw_fy0015_01.row.toRowW.1 w) (callerA.deeper (LEnv L fa cd)) (execs [eS4.1, eS5.1, eS6.1, eS7.1] (LEnv L fa cd)) Q E s := by
  have lc0 := lc
  have cx := lc.cx (fa := fa) (cd := cd)
  obtain ⟨B1, X1, TT1, hb, l468⟩ := lc
  revert X1
  k_fill
  intro X1
  have T1 : TopRead topProg loose mg mb H := topRead_of TT1
  unfold LEnv lawParts eS4 eS5 eS6 eS7
  unfold LEnv lawParts at cx
  dsimp only at cx ⊢
  (try k_fold)
  have c1 := FX.c1
  have okT : ∀ r ∈ left rows (remain rows xs), rowOk r = true := left_ok hbl
  have okR : ∀ r ∈ rows, rowOk r = true := hbl.ok
  have hlz : (left rows (remain rows xs)).length ≤ 200 := by have := left_le rows (remain rows xs); omega
  have hrl := FX.rl_in
  have halm := FX.al_in
  have hrz := FX.rl_is.length
  have hyz := hys.length
  k_steps
  rename_i T1a h1a l1a lt1 T2a h2a l2a lt2 T3a h3a l3a lt3 Hd h4a l4a lt4 h5 F5 N5
  have hv : ∀ a ∈ [T1a, T2a, T3a], True := fun _ _ => trivial
  obtain ⟨RR, N6, hdR, hsub, hoR⟩ : ∃ RR, News H L h5 ((201, tabObj ps2) :: (L + 1, x.o1) :: (468, tabObj ps1) :: (408, tabObj ps) :: (Hd, listOf [Value.ref T1a, Value.ref T2a, Value.ref T3a].toArray 0) :: RR) ∧ RowsIn RR [Value.ref T1a, Value.ref T2a, Value.ref T3a] hdRows ∧
      (∀ p ∈ (D, listOf ys.toArray nn) :: R, p ∈ RR) ∧ (∀ p ∈ RR, p.1 ≠ 201) := by
    refine ⟨(T3a, _) :: (T2a, _) :: (T1a, _) :: (D, listOf ys.toArray nn) :: R, news_sub N5 (by (try unfold key8); (repeat' (first | with_reducible exact sbs_nil | with_reducible refine sbs_cons ?_ ?_ | with_reducible refine sbs_app ?_ ?_)); all_goals (repeat' (first | with_reducible exact List.Mem.head _ | with_reducible exact sbs_refl | with_reducible refine List.Mem.tail _ ?_ | with_reducible refine sbs_tail ?_ | with_reducible exact sbs_right | with_reducible refine sbs_left ?_ | with_reducible refine mem_right9 ?_))), ?_, fun p hp => .tail _ (.tail _ (.tail _ hp)), ?_⟩
    · exact RowsIn.cons (DatIn.tuple (vs := [Value.int 0 _, Value.str (Str.ofString "LINE") _]) (.tail _ (.tail _ (.head _))) (DatAll.cons (DatIn.int _ _) (DatAll.cons (DatIn.str _ _) DatAll.nil))) (RowsIn.cons (DatIn.tuple (vs := [Value.int 5 _, Value.str (Str.ofString "AB") _]) (.tail _ (.head _)) (DatAll.cons (DatIn.int _ _) (DatAll.cons (DatIn.str _ _) DatAll.nil))) (RowsIn.cons (DatIn.tuple (vs := [Value.int 8 _, Value.str (Str.ofString "0") _]) (.head _) (DatAll.cons (DatIn.int _ _) (DatAll.cons (DatIn.str _ _) DatAll.nil))) RowsIn.nil))
    · refine List.forall_mem_cons.mpr ⟨?_, List.forall_mem_cons.mpr ⟨?_, List.forall_mem_cons.mpr ⟨?_, fun p hp => hoff p (.tail _ (.tail _ (.tail _ hp)))⟩⟩⟩ <;> (show @Ne Nat _ _) <;> omega
  have hHd : @Ne Nat Hd 201 := by omega
  have hL1 : @Ne Nat (L + 1) 201 := by omega
  clear N5 l1a l2a l3a l4a lt1 lt2 lt3 lt4
  refine b_go (add_lists' F5 N6 (xs := [Value.ref T1a, Value.ref T2a, Value.ref T3a]) (ys := x.rvs) (.tail _ (.tail _ (.tail _ (.tail _ (.head _))))) (.tail _ (.tail _ (.tail _ (.tail _ (.tail _ (hsub _ (.tail _ FX.rl_in))))))) (by simp only [List.length_cons, List.length_nil]; omega) fun S1 h6 F6 N7 l7 => ?_)
  have hS1 : @LT.lt Nat _ 201 S1 := TopLe.lt l7 _ (.head _)
  k_steps
  refine stop_go (check_spec (rl := S1) (rvs := [Value.ref T1a, Value.ref T2a, Value.ref T3a] ++ x.rvs) (bd := rows) (ps := ps2) (news := (S1, listOf ([Value.ref T1a, Value.ref T2a, Value.ref T3a] ++ x.rvs).toArray 0) :: (L + 1, x.o1) :: (468, tabObj ps1) :: (408, tabObj ps) :: (Hd, listOf [Value.ref T1a, Value.ref T2a, Value.ref T3a].toArray 0) :: RR)
    TT1 rfl hb cx (by k_asm) (news_sub (by k_asm) (by (try unfold key8); (repeat' (first | with_reducible exact sbs_nil | with_reducible refine sbs_cons ?_ ?_ | with_reducible refine sbs_app ?_ ?_)); all_goals (repeat' (first | with_reducible exact List.Mem.head _ | with_reducible exact sbs_refl | with_reducible refine List.Mem.tail _ ?_ | with_reducible refine sbs_tail ?_ | with_reducible exact sbs_right | with_reducible refine sbs_left ?_ | with_reducible refine mem_right9 ?_)))) (by k_room) (by k_units) hps ?A1 (.head _) ((hdR.mono ?A2).app (FX.rl_is.mono ?A3)) (by omega) ⟨hbl.pos, hbl.hd⟩ (all_bd hbl) fun D1 ps3 add1 h8 tk8 gn8 F8 N8 p8 d8 ap8 b8 => ?_)
  case A1 => refine List.forall_mem_cons.mpr ⟨?_, List.forall_mem_cons.mpr ⟨?_, List.forall_mem_cons.mpr ⟨?_, List.forall_mem_cons.mpr ⟨?_, List.forall_mem_cons.mpr ⟨?_, hoR⟩⟩⟩⟩⟩ <;> (show @Ne Nat _ _) <;> omega
  case A2 => exact fun p hp => .tail _ (.tail _ (.tail _ (.tail _ (.tail _ hp))))
  case A3 => exact fun p hp => .tail _ (.tail _ (.tail _ (.tail _ (.tail _ (hsub _ (.tail _ hp))))))
  have ho1 : ∀ p ∈ add1, p.1 ≠ 201 := fun p hp => ap8 p hp (201, tabObj ps2) (.head _)
  replace N8 : News H L h8 ((201, tabObj ps3) :: (L + 1, x.o1) :: (468, tabObj ps1) :: (408, tabObj ps) :: (Hd, listOf [Value.ref T1a, Value.ref T2a, Value.ref T3a].toArray 0) :: (add1 ++ (S1, listOf ([Value.ref T1a, Value.ref T2a, Value.ref T3a] ++ x.rvs).toArray 0) :: RR)) := news_sub N8 (by (try unfold key8); (repeat' (first | with_reducible exact sbs_nil | with_reducible refine sbs_cons ?_ ?_ | with_reducible refine sbs_app ?_ ?_)); all_goals (repeat' (first | with_reducible exact List.Mem.head _ | with_reducible exact sbs_refl | with_reducible refine List.Mem.tail _ ?_ | with_reducible refine sbs_tail ?_ | with_reducible exact sbs_right | with_reducible refine sbs_left ?_ | with_reducible refine mem_right9 ?_)))
  replace d8 : DatIn ((L + 1, x.o1) :: (468, tabObj ps1) :: (408, tabObj ps) :: (Hd, listOf [Value.ref T1a, Value.ref T2a, Value.ref T3a].toArray 0) :: (add1 ++ (S1, listOf ([Value.ref T1a, Value.ref T2a, Value.ref T3a] ++ x.rvs).toArray 0) :: RR)) (.ref D1) (chkDat rows) := d8.mono (by (try unfold key8); (repeat' (first | with_reducible exact sbs_nil | with_reducible refine sbs_cons ?_ ?_ | with_reducible refine sbs_app ?_ ?_)); all_goals (repeat' (first | with_reducible exact List.Mem.head _ | with_reducible exact sbs_refl | with_reducible refine List.Mem.tail _ ?_ | with_reducible refine sbs_tail ?_ | with_reducible exact sbs_right | with_reducible refine sbs_left ?_ | with_reducible refine mem_right9 ?_)))
  have hoR2 : ∀ p ∈ add1 ++ (S1, listOf ([Value.ref T1a, Value.ref T2a, Value.ref T3a] ++ x.rvs).toArray 0) :: RR, p.1 ≠ 201 := all_app ho1 (List.forall_mem_cons.mpr ⟨Nat.ne_of_gt hS1, hoR⟩)
  have hsub2 : ∀ p ∈ RR, p ∈ add1 ++ (S1, listOf ([Value.ref T1a, Value.ref T2a, Value.ref T3a] ++ x.rvs).toArray 0) :: RR := fun p hp => List.mem_append_right _ (.tail _ hp)
  generalize add1 ++ (S1, listOf ([Value.ref T1a, Value.ref T2a, Value.ref T3a] ++ x.rvs).toArray 0) :: RR = RR2 at *
  clear N6 N7 ap8 ho1
  k_steps
  refine b_go (add_lists' F8 N8 (xs := [Value.ref T1a, Value.ref T2a, Value.ref T3a]) (ys := ys) (.tail _ (.tail _ (.tail _ (.tail _ (.head _))))) (.tail _ (.tail _ (.tail _ (.tail _ (.tail _ (hsub2 _ (hsub _ (.head _)))))))) (by simp only [List.length_cons, List.length_nil]; omega) fun S2 h9 F9 N9 l9 => ?_)
  have hS2 : @LT.lt Nat _ 201 S2 := TopLe.lt l9 _ (.head _)
  k_steps
  refine stop_go (check_spec (rl := S2) (rvs := [Value.ref T1a, Value.ref T2a, Value.ref T3a] ++ ys) (bd := left rows (remain rows xs)) (ps := ps3) (news := (S2, listOf ([Value.ref T1a, Value.ref T2a, Value.ref T3a] ++ ys).toArray 0) :: (L + 1, x.o1) :: (468, tabObj ps1) :: (408, tabObj ps) :: (Hd, listOf [Value.ref T1a, Value.ref T2a, Value.ref T3a].toArray 0) :: RR2)
    TT1 rfl hb cx (by k_asm) (news_sub (by k_asm) (by (try unfold key8); (repeat' (first | with_reducible exact sbs_nil | with_reducible refine sbs_cons ?_ ?_ | with_reducible refine sbs_app ?_ ?_)); all_goals (repeat' (first | with_reducible exact List.Mem.head _ | with_reducible exact sbs_refl | with_reducible refine List.Mem.tail _ ?_ | with_reducible refine sbs_tail ?_ | with_reducible exact sbs_right | with_reducible refine sbs_left ?_ | with_reducible refine mem_right9 ?_)))) (by k_room) (by k_units) p8 ?A1 (.head _) ((hdR.mono ?A2).app (hys.mono ?A3)) (by omega) (left_bd0 hbl xs) (left_bd hbl xs) fun D2 ps4 add2 h10 tk10 gn10 F10 N10 p10 d10 ap10 b10 => ?_)
  case A1 => refine List.forall_mem_cons.mpr ⟨?_, List.forall_mem_cons.mpr ⟨?_, List.forall_mem_cons.mpr ⟨?_, List.forall_mem_cons.mpr ⟨?_, List.forall_mem_cons.mpr ⟨?_, hoR2⟩⟩⟩⟩⟩ <;> (show @Ne Nat _ _) <;> omega
  case A2 => exact fun p hp => .tail _ (.tail _ (.tail _ (.tail _ (.tail _ (hsub2 _ hp)))))
  case A3 => exact fun p hp => .tail _ (.tail _ (.tail _ (.tail _ (.tail _ (hsub2 _ (hsub _ (.tail _ hp)))))))
  replace N10 : News H L h10 ((201, tabObj ps4) :: (L + 1, x.o1) :: (468, tabObj ps1) :: (408, tabObj ps) :: (Hd, listOf [Value.ref T1a, Value.ref T2a, Value.ref T3a].toArray 0) :: (add2 ++ (S2, listOf ([Value.ref T1a, Value.ref T2a, Value.ref T3a] ++ ys).toArray 0) :: RR2)) := news_sub N10 (by (try unfold key8); (repeat' (first | with_reducible exact sbs_nil | with_reducible refine sbs_cons ?_ ?_ | with_reducible refine sbs_app ?_ ?_)); all_goals (repeat' (first | with_reducible exact List.Mem.head _ | with_reducible exact sbs_refl | with_reducible refine List.Mem.tail _ ?_ | with_reducible refine sbs_tail ?_ | with_reducible exact sbs_right | with_reducible refine sbs_left ?_ | with_reducible refine mem_right9 ?_)))
  replace d10 : DatIn ((L + 1, x.o1) :: (468, tabObj ps1) :: (408, tabObj ps) :: (Hd, listOf [Value.ref T1a, Value.ref T2a, Value.ref T3a].toArray 0) :: (add2 ++ (S2, listOf ([Value.ref T1a, Value.ref T2a, Value.ref T3a] ++ ys).toArray 0) :: RR2)) (.ref D2) (chkDat (left rows (remain rows xs))) := d10.mono (by (try unfold key8); (repeat' (first | with_reducible exact sbs_nil | with_reducible refine sbs_cons ?_ ?_ | with_reducible refine sbs_app ?_ ?_)); all_goals (repeat' (first | with_reducible exact List.Mem.head _ | with_reducible exact sbs_refl | with_reducible refine List.Mem.tail _ ?_ | with_reducible refine sbs_tail ?_ | with_reducible exact sbs_right | with_reducible refine sbs_left ?_ | with_reducible refine mem_right9 ?_)))
  replace d8 : DatIn ((L + 1, x.o1) :: (468, tabObj ps1) :: (408, tabObj ps) :: (Hd, listOf [Value.ref T1a, Value.ref T2a, Value.ref T3a].toArray 0) :: (add2 ++ (S2, listOf ([Value.ref T1a, Value.ref T2a, Value.ref T3a] ++ ys).toArray 0) :: RR2)) (.ref D1) (chkDat rows) := d8.mono (by (try unfold key8); (repeat' (first | with_reducible exact sbs_nil | with_reducible refine sbs_cons ?_ ?_ | with_reducible refine sbs_app ?_ ?_)); all_goals (repeat' (first | with_reducible exact List.Mem.head _ | with_reducible exact sbs_refl | with_reducible refine List.Mem.tail _ ?_ | with_reducible refine sbs_tail ?_ | with_reducible exact sbs_right | with_reducible refine sbs_left ?_ | with_reducible refine mem_right9 ?_)))
  have hsub3 : ∀ p ∈ RR, p ∈ add2 ++ (S2, listOf ([Value.ref T1a, Value.ref T2a, Value.ref T3a] ++ ys).toArray 0) :: RR2 := fun p hp => List.mem_append_right _ (.tail _ (hsub2 p hp))
  generalize add2 ++ (S2, listOf ([Value.ref T1a, Value.ref T2a, Value.ref T3a] ++ ys).toArray 0) :: RR2 = RR3 at *
  clear N9 ap10 hoR2 hsub2
  have halm3 := hsub3 _ (hsub _ (.tail _ FX.al_in))
  have hrl3 := hsub3 _ (hsub _ (.tail _ FX.rl_in))
  have hst3 := hsub3 _ (hsub _ (.head _))
  k_steps
  rename_i Tl q1 q2 q3 q4 q5 q6 Nl q7 F11 N11 l11 q8
  have ck : vRun (left rows (remain rows xs)) = some 0 ↔ (prOf rows).alone ++ (prOf rows).begun = [] := check_law hbl xs
  have ck0 : vRun rows = some 0 ↔ (prOf rows).alone ++ (prOf rows).begun = [] := by
    have z := check_law hbl []
    have e : krows (rowAt rows) (kept (Dof (prOf rows) [])) rows.length = rows := left_all rows
    rwa [e] at z
  have hai := FX.al_is
  have okc1 := chk_ok okR
  have okc2 := chk_ok okT
  by_cases hA : (prOf rows).alone ++ (prOf rows).begun = []
  · rw [hA] at hai
    have e1 : chkDat rows = .list [.str (Str.ofString "let through"), .list ((hdRows ++ rows).map rowDat)] := if_pos (ck0.mpr hA)
    have e2 : chkDat (left rows (remain rows xs)) = .list [.str (Str.ofString "let through"), .list ((hdRows ++ left rows (remain rows xs)).map rowDat)] := if_pos (ck.mpr hA)
    refine cmp_go (ne_same (d := .list []) N11 (DatIn.list (vs := x.avs) (.tail _ (.tail _ (.tail _ (.tail _ (.tail _ (.tail _ (.tail _ halm3))))))) (ints_dat hai)) (DatIn.list (vs := []) (.head _) DatAll.nil) rfl (by k_units) ?_)
    k_steps
    refine b_go (add_lists' (xs := [Value.ref T1a, Value.ref T2a, Value.ref T3a]) (ys := x.rvs) F11 N11 (.tail _ (.tail _ (.tail _ (.tail _ (.tail _ (.tail _ (.head _))))))) (.tail _ (.tail _ (.tail _ (.tail _ (.tail _ (.tail _ (.tail _ hrl3))))))) (by simp only [List.length_cons, List.length_nil]; omega) fun S3 h12 F12 N12 l12 => ?_)
    k_steps
    refine b_go (add_lists' (xs := [Value.ref T1a, Value.ref T2a, Value.ref T3a]) (ys := ys) (by k_asm) (by k_asm) (by k_mem) (by k_mem) (by simp only [List.length_cons, List.length_nil]; omega) fun S4 h13 F13 N13 l13 => ?_)
    k_steps
    rename_i I1 r1 r2 r3 I2 r4 r5 r6 O r7 F14 N14 r8 r9
    refine cmp_go (eq_same N14 (DatIn.list (vs := [.ref D1, .ref D2]) (.tail _ (.tail _ (.tail _ (.tail _ (.tail _ (.tail _ (.head _))))))) (DatAll.cons (d8.mono fun p hp => (.tail _ (.tail _ (.tail _ (.tail _ (.tail _ (.tail _ (.tail _ (.tail _ hp))))))))) (DatAll.cons (d10.mono fun p hp => (.tail _ (.tail _ (.tail _ (.tail _ (.tail _ (.tail _ (.tail _ (.tail _ hp))))))))) DatAll.nil))) ?hO (two_ok okc1 okc2) (by k_units) ?_)
    case hO =>
      rw [e1, e2]
      exact DatIn.list (vs := [.ref I1, .ref I2]) (.head _) (DatAll.cons (DatIn.list (vs := [.str (Str.ofString "let through") _, .ref S3]) (.tail _ (.tail _ (.tail _ (.head _)))) (DatAll.cons (DatIn.str _ _) (DatAll.cons (DatIn.list (vs := [Value.ref T1a, Value.ref T2a, Value.ref T3a] ++ x.rvs) (.tail _ (.tail _ (.tail _ (.tail _ (.head _))))) ((hdR.mono fun p hp => (.tail _ (.tail _ (.tail _ (.tail _ (.tail _ (.tail _ (.tail _ (.tail _ (.tail _ (.tail _ (.tail _ (.tail _ (hsub3 _ hp)))))))))))))).app (FX.rl_is.mono fun p hp => (.tail _ (.tail _ (.tail _ (.tail _ (.tail _ (.tail _ (.tail _ (.tail _ (.tail _ (.tail _ (.tail _ (.tail _ (hsub3 _ (hsub _ (.tail _ hp)))))))))))))))))) DatAll.nil)))
        (DatAll.cons (DatIn.list (vs := [.str (Str.ofString "let through") _, .ref S4]) (.tail _ (.head _)) (DatAll.cons (DatIn.str _ _) (DatAll.cons (DatIn.list (vs := [Value.ref T1a, Value.ref T2a, Value.ref T3a] ++ ys) (.tail _ (.tail _ (.head _))) ((hdR.mono fun p hp => (.tail _ (.tail _ (.tail _ (.tail _ (.tail _ (.tail _ (.tail _ (.tail _ (.tail _ (.tail _ (.tail _ (.tail _ (hsub3 _ hp)))))))))))))).app (hys.mono fun p hp => (.tail _ (.tail _ (.tail _ (.tail _ (.tail _ (.tail _ (.tail _ (.tail _ (.tail _ (.tail _ (.tail _ (.tail _ (hsub3 _ (hsub _ (.tail _ hp)))))))))))))))))) DatAll.nil))) DatAll.nil))
    exact h _ _ _ ps4 _ F14 (news_sub N14 (by (try unfold key8); (repeat' (first | with_reducible exact sbs_nil | with_reducible refine sbs_cons ?_ ?_ | with_reducible refine sbs_app ?_ ?_)); all_goals (repeat' (first | with_reducible exact List.Mem.head _ | with_reducible exact sbs_refl | with_reducible refine List.Mem.tail _ ?_ | with_reducible refine sbs_tail ?_ | with_reducible exact sbs_right | with_reducible refine sbs_left ?_ | with_reducible refine mem_right9 ?_)))) fun a => b10 (b8 a)
  · have e1 : chkDat rows = .list [.str (Str.ofString "refused")] := if_neg fun z => hA (ck0.mp z)
    have e2 : chkDat (left rows (remain rows xs)) = .list [.str (Str.ofString "refused")] := if_neg fun z => hA (ck.mp z)
    refine cmp_go (ne_diff (e := .list []) N11 (DatIn.list (vs := x.avs) (.tail _ (.tail _ (.tail _ (.tail _ (.tail _ (.tail _ (.tail _ halm3))))))) (ints_dat hai)) (DatIn.list (vs := []) (.head _) DatAll.nil) (ints_ok _) rfl (fun z => hA (nat_nil z)) (by k_units) ?_)
    k_steps
    rename_i I1 r1 r2 r3 I2 r4 r5 r6 O r7 F14 N14 r8 r9
    refine cmp_go (eq_same N14 (DatIn.list (vs := [.ref D1, .ref D2]) (.tail _ (.tail _ (.tail _ (.tail _ (.head _))))) (DatAll.cons (d8.mono fun p hp => (.tail _ (.tail _ (.tail _ (.tail _ (.tail _ (.tail _ hp))))))) (DatAll.cons (d10.mono fun p hp => (.tail _ (.tail _ (.tail _ (.tail _ (.tail _ (.tail _ hp))))))) DatAll.nil))) ?hO (two_ok okc1 okc2) (by k_units) ?_)
    case hO =>
      rw [e1, e2]
      exact DatIn.list (vs := [.ref I1, .ref I2]) (.head _) (DatAll.cons (DatIn.list (vs := [.str (Str.ofString "refused") _]) (.tail _ (.tail _ (.head _))) (DatAll.cons (DatIn.str _ _) DatAll.nil))
        (DatAll.cons (DatIn.list (vs := [.str (Str.ofString "refused") _]) (.tail _ (.head _)) (DatAll.cons (DatIn.str _ _) DatAll.nil)) DatAll.nil))
    exact h _ _ _ ps4 _ F14 (news_sub N14 (by (try unfold key8); (repeat' (first | with_reducible exact sbs_nil | with_reducible refine sbs_cons ?_ ?_ | with_reducible refine sbs_app ?_ ?_)); all_goals (repeat' (first | with_reducible exact List.Mem.head _ | with_reducible exact sbs_refl | with_reducible refine List.Mem.tail _ ?_ | with_reducible refine sbs_tail ?_ | with_reducible exact sbs_right | with_reducible refine sbs_left ?_ | with_reducible refine mem_right9 ?_)))) fun a => b10 (b8 a)
end

/- part MS6 -/
section
/-! The whole body of the law. -/
theorem law_tail {w : World} {H : Heap} {L fa : Addr} {cd : Value} {loose : List Str} {mean : ExcName → Option Value} {mg mb : Str → Option Value} {s : Shared} {Q : Flow → Shared → Prop} {E : Value → Shared → Prop} {scr : Addr}
    {rows : List Row} {bm : Nat} {x : Fx} {m : Str → Option Value} {nx : List (Addr × Obj)} (lc : LC w H L loose mean mg mb) (hbl : BlF rows bm) (hz : rows.length ≤ 200) (hJ : LJ w L rows scr x 4 m nx) (F : Fr H L s.heap m) (N : News H L s.heap nx)
    (h : ∀ h' tk' gn' ps1 ps ps2 m', Fr H L h' m' → News H L h' [(468, tabObj ps1), (408, tabObj ps), (201, tabObj ps2)] → (AllBare s.gens → AllBare gn') → Q (.ret (.bool true)) (gSt s h' tk' gn')) :
    wpAny (model Challenge.rw_fy0015_01.row.toRowW.1 w) (callerA.deeper (LEnv L fa cd)) (execs [eS1.1, eS2.1, eS3.1, eS4.1, eS5.1, eS6.1, eS7.1] (LEnv L fa cd)) Q E s := by
  obtain ⟨u, y, xs, rem, R, rfl, FX, NW, sub⟩ := hJ
  have hrem : rem = [] := List.length_eq_zero_iff.mp (by have := NW.rem_len; omega)
  subst hrem
  have N0 : News H L s.heap (led L x y R) := news_sub N sub
  have hpl : (prOf rows).pairs.length ≤ 200 := Nat.le_trans (pr_len rows rows.length).2.1 hz
  refine tail1 (rest := [eS4.1, eS5.1, eS6.1, eS7.1]) lc hbl hz hpl FX NW F N0 fun D ys nn m' h1 tk1 hm F1 N1 hys hD => ?_
  rw [upds_self hm] at F1
  have N2 : News H L h1 ((201, tabObj y.ps2) :: (L + 1, x.o1) :: (468, tabObj y.ps1) :: (408, tabObj y.ps) :: (D, listOf ys.toArray nn) :: R) := news_sub N1 (by unfold led; exact (by (try unfold key8); (repeat' (first | with_reducible exact sbs_nil | with_reducible refine sbs_cons ?_ ?_ | with_reducible refine sbs_app ?_ ?_)); all_goals (repeat' (first | with_reducible exact List.Mem.head _ | with_reducible exact sbs_refl | with_reducible refine List.Mem.tail _ ?_ | with_reducible refine sbs_tail ?_ | with_reducible exact sbs_right | with_reducible refine sbs_left ?_ | with_reducible refine mem_right9 ?_))))
  have hD2 : ∀ q ∈ key8 L y.o5 y.o4 y.o3 x.o2 x.o1 y.ps1 y.ps y.ps2 ((x.d, y.od) :: (y.l, tagsObj y.dl y.vs y.n) :: R), q.1 ≠ D := hD
  have ho : ∀ p ∈ (L + 1, x.o1) :: (468, tabObj y.ps1) :: (408, tabObj y.ps) :: (D, listOf ys.toArray nn) :: R, p.1 ≠ 201 := off_201 (ys := []) lc.l468 NW.off hD2
  have q := @tail2 w H L fa cd loose mean mg mb { s with heap := h1, toks := tk1 } Q E rows bm x xs R D ys nn y.ps1 y.ps y.ps2 lc hbl hz FX m' F1 N2 ho NW.p2 hys
  with_reducible refine q ?_
  intro h' tk' gn' ps2' m' F' N' hb
  exact h h' tk' gn' _ _ ps2' m' F' N' hb
theorem law_body {w : World} {H : Heap} {L fa : Addr} {cd : Value} {loose : List Str} {mean : ExcName → Option Value} {mg mb : Str → Option Value} {s : Shared} {Q : Flow → Shared → Prop} {scr : Addr} {vs : List Value} {ns : List Int}
    {o1 o2 o3 o4 o5 : Obj} {x1 x2 x3 x4 x5 : Option Value} (lc : LC w H L loose mean mg mb) (F : Fr H L s.heap (upds [(Str.ofString "script", .ref scr)] fun _ => none))
    (N : News H L s.heap (key8 L o5 o4 o3 o2 o1 #[] #[] #[] []))
    (c1 : o1.data = .cell x1) (c2 : o2.data = .cell x2) (c3 : o3.data = .cell x3) (c4 : o4.data = .cell x4) (c5 : o5.data = .cell x5)
    (hS : H.IsList scr vs.toArray) (hI : IntsAre vs ns) (hlen : ns.length ≤ 63)
    (h : ∀ h' tk' gn' ps1 ps ps2 m', Fr H L h' m' → News H L h' [(468, tabObj ps1), (408, tabObj ps), (201, tabObj ps2)] → (AllBare s.gens → AllBare gn') → Q (.ret (.bool true)) (gSt s h' tk' gn')) :
    wpAny (model Challenge.rw_fy0015_01.row.toRowW.1 w) (callerA.deeper (LEnv L fa cd)) (execs lawParts.1.2.1 (LEnv L fa cd)) Q (fun _ _ => False) s := by
  obtain ⟨bm, hbl⟩ := blf_drawn ns
  refine law_pre lc F N c1 c2 c3 c4 c5 hS hI hlen fun x m nx gn h1 tk r t u v Qf hJ F1 N1 hr hb hQf => ?_
  refine for_rangeG (n := 4) rfl (by rfl) (by rfl) hr (by decide) (by rfl) (LJ w L (drawn ns) scr x) F1 N1 hJ PassesOwn.never (fun i k m' nx' I oI h2 tk2 gn2 hi hJ2 hI2 ho F2 N2 hb2 => ?_) (fun m' nx' h2 tk2 gn2 hJ2 F2 N2 hb2 => ?_)
  · exact law_turn (s := gSt s h1 tk gn) lc hbl (drawn_len ns) hS hI hlen hi hJ2 ho F2 N2 hb2
  · exact hQf _ (law_tail lc hbl (drawn_len ns) hJ2 F2 N2 fun h3 tk3 gn3 ps1 ps ps2 m3 F3 N3 b3 => h _ _ _ _ _ _ _ F3 N3 fun a => b3 (hb2 (hb a)))
end

/- part MY -/
end
end
end
end
theorem fresh_MY : True ∧ True := by
  w_top off
  first
    | (walk1; done)
    | exact ⟨True.intro, True.intro⟩
section
theorem old_ghost {h h' : Heap} {tabs : List (Addr × Addr)} (hT : TabsAt tabs h) (hk : ∀ b o, (ghostOf h tabs).get? b = some o → h'.get? b = some o) (hg : GrownAll tabs h') : OldK h h' := by
  have two : ∀ b o, h.get? b = some o → h'.get? b = some o ∨ ∃ q, q ∈ tabs ∧ q.2 = b := fun b o e =>
    if hb : b ∈ tabs.map (·.2) then .inr (List.mem_map.mp hb) else .inl (hk b o (ghost_ne e hb))
  constructor
  · intro b o e
    refine (two b o e).imp id fun ⟨q, hq, hb⟩ => .inl ?_
    subst hb
    obtain ⟨hc, ht⟩ := hT q hq
    obtain ⟨ps, hps⟩ := hg.get q hq
    obtain rfl := Option.some.inj (e.symm.trans ht)
    exact ⟨(hc.tab ht).isCodeTable, rfl, #[], ps, rfl, by rw [Array.empty_append]; exact hps⟩
  · intro b o e
    rcases two b o e with z | ⟨q, hq, rfl⟩
    · exact ⟨o, z⟩
    · exact let ⟨_, z⟩ := hg.get q hq; ⟨_, z⟩
/-- the wide post of a law that answers True: tables may grow, generators may stay that hold nothing -/
theorem law_post {M : Model} {A : Around} {cd : Code} {s s₁ : Shared} {cw : ClaimW} {cl : Str → Option Addr} {mean : ExcName → Option Value} {args : List WData} {tabs : List (Addr × Addr)} (hT : TabsAt tabs s₁.heap) (hr : ∀ x, cw.raises args x = false)
    (h : codeAny M A cd (fun r s' => (r = .ok (.ret (.bool true)) ∧ cw.post args (.bool true) args = true) ∧ ((∀ b o, (ghostOf s₁.heap tabs).get? b = some o → s'.heap.get? b = some o) ∧ s'.os = s₁.os ∧ AllBare s'.gens) ∧ GrownAll tabs s'.heap) s) : codeAny M A cd (GoodWG cw cl mean args s₁) s := by
  refine codeAny_mono h fun r s' z => ?_
  obtain ⟨⟨rfl, hp⟩, ⟨hk, ho, hb⟩, hg⟩ := z
  exact ⟨.inl ⟨.bool true, .bool true, [], rfl, hr, .bool _, hp, fun _ => ⟨List.nodup_nil, fun _ x => nomatch x⟩⟩, old_ghost hT hk hg, ho, hb⟩
theorem law_walk : Challenge.rw_fy0015_01.Holds := by
  refine hd ?_
  k_fill
  intro w s₀ s₁ mg mb G Y fa o pm cd doc dV kV ho hdd hcd hD hmg hg args vals as hpre hlay hrd hwl hlo
  have KX := km_in_of Y
  km_tabs Y
  have X := (Ground.X G).1
  have V := (Ground.X G).2
  refine Ground.open G ?_
  intro T B D TE TW
  try (refine guard_noD D (by decide +kernel) ?_; clear D)
  have hT9 : TabsAt [(472, 468), (412, 408), (205, 201)] s₁.heap := List.forall_mem_cons.mpr ⟨⟨codeHd_of_K KX (by kernel_rfl), hT8 468 (by simp)⟩, List.forall_mem_cons.mpr ⟨⟨codeHd_of_K KX (by kernel_rfl), hT8 408 (by simp)⟩, List.forall_mem_cons.mpr ⟨⟨codeHd_of_K KX (by kernel_rfl), hT8 201 (by simp)⟩, fun _ h => nomatch h⟩⟩⟩
  clear hmg
  wrow_args hpre hlay hrd hwl hlo
  all_goals (
    first | refine callC_kw (enter_call ?_) | refine enter_call ?_
    w_top on
    refine law_post hT9 (fun _ => rfl) ?_
    w_call any ho hdd hcd hD T F
    clear hdd
    kn_ghosts F T
    k_drop
    skip)
  all_goals try k_fold
  rename_i h1 tk1 w4 w3 w2 w1 w0 e4 e3 e2 e1 e0 hs1 sc2 sc3 sc4 sc5 sc6 sc7 sc8 sc9
  rename IntsAre _ _ => hI
  rename ¬ _ < _ => hc63
  have hlen := Nat.le_of_not_lt fun h => hc63 (Int.ofNat_lt.mpr h)
  have lc : LC w (ghostOf s₁.heap [(472, 468), (412, 408), (205, 201)]) s₁.heap.objs.size _ _ mg mb := ⟨sc4, sc2, sc3, ⟨sc3.g, sc3.bmain⟩, sc9.1⟩
  have F5 : Fr (ghostOf s₁.heap [(472, 468), (412, 408), (205, 201)]) s₁.heap.objs.size h1 (upds [(Str.ofString "script", _)] fun _ => none) := sc5
  refine wpAny_mono (law_body lc F5 sc8 e0 e1 e2 e3 e4 lifted hI hlen ?_) (fun _ _ h => h) (fun _ _ h => h.elim)
  intro h' tk' gn' ps1 ps ps2 m' F' N' hb
  refine ⟨⟨rfl, by first | rfl | wrow_post⟩, ⟨fun b o e => F'.keep b o e, rfl, hb (AllBare.of_eq hg)⟩, GrownAt.of N' (.head _), GrownAt.of N' (.tail _ (.head _)), GrownAt.of N' (.tail _ (.tail _ (.head _))), trivial⟩
end
end Mine
end

theorem PySem.Challenge.cw_fy0015_01_holds : PySem.Challenge.rw_fy0015_01.Holds := by
  exact Mine.law_walk
