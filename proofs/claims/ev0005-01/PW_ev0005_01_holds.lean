import PyProof.Rows.All
import Wide.All
import OpenK.AllK
import Wide.FinOn
import Lean
import PySem.Challenge.RW_ev0005_01
open PySem PySem.W PySem.Calls PyProof.Rows
set_option Elab.async false
set_option maxRecDepth 100000
set_option maxHeartbeats 8000000
-- P00_head
namespace Mine
open_top hd for PySem.Challenge.rw_ev0005_01
end Mine
theorem Mine.off1 : True := by w_top off; trivial
-- P01_base
namespace Mine
abbrev Kp (h h' : Heap) : Prop := ∀ b o, h.get? b = some o → h'.get? b = some o
theorem enterB {K : Frag} {B : Heap} {news : List (Addr × Obj)} {prog : Program} {w : World} {A : Around} {s : Shared} {Q E : Value → Shared → Prop} {p : Program} {loose : List Str} {mean : ExcName → Option Value} {mg mb : Str → Option Value} {name qual : Str} {params : Arguments} {body : List Stmt} {scope : Scope} {dV kV doc pm cdv ct oc : Value} {an od : Option Addr} {osl : Array (Option Value)} {f : Addr} {args : List Value} {kw : List (Str × Value)} {binds : List (Str × Value)}
    (hB : ∀ b o, B.get? b = some o → s.heap.get? b = some o) (hsz : B.objs.size ≤ s.heap.objs.size) (X : K.In B) (T : Top p loose mean mg mb B)
    (hN : ∀ p ∈ news, s.heap.get? p.1 = some p.2 ∧ B.get? p.1 = none)
    (ho : K.lookup f = some ⟨oc, od, .func (fnOf name qual params body scope dV kV doc pm an cdv ct), osl⟩) (hcd : codeIn K cdv qual = true) (hroom : A.depth < recursionLimit)
    (hbind : BindsTo s (fnOf name qual params body scope dV kV doc pm an cdv ct) ⟨args, kw⟩ binds) (hloc : ∀ y ∈ binds, scope.names.lookup y.1 = some .local)
    (h : ∀ h₁, Fr B s.heap.objs.size h₁ (fun y => binds.reverse.lookup y) → News B s.heap.objs.size h₁ news →
      wpAny (model prog w) (A.deeper (envOf qual scope s.heap.objs.size f cdv)) (execs body (envOf qual scope s.heap.objs.size f cdv))
        (fun fl s' => Q (match fl with | .ret v => v | _ => .none) s')
        (fun e s' => wpAny (model prog w) (A.deeper (envOf qual scope s.heap.objs.size f cdv)) (leaving (envOf qual scope s.heap.objs.size f cdv) e) (fun _ s'' => E e s'') (fun e' s'' => E e' s'') s')
        { s with heap := h₁, toks := s.toks + binds.length })
    (hco : scope.isCoroutine = false := by rfl) (hgen : scope.isGenerator = false := by rfl) (hk : scope.kind = .function := by rfl)
    (hcell : ∀ x ∈ scope.names, x.2 ≠ .cell := by decide) : wpAny (model prog w) A (call (.ref f) args kw) Q E s := by
  refine wpAny_call ?_
  refine codeAny_call_def (fd := fnOf name qual params body scope dV kV doc pm an cdv ct) (body := body) (binds := binds) hroom (hB _ _ (X _ _ ho)) rfl (T.nolimit.keeps hB) (codeRec_of (X.keeps hB) hcd) rfl hbind hcell hloc (fun h₁ hns hk₁ => ?_) hco hgen hk
  exact h h₁ ⟨hns, fun b o e => hk₁ b o (hB b o e), hsz⟩ (fun p hp => ⟨hk₁ _ _ (hN p hp).1, Nat.ne_of_lt (Heap.lt_size (hN p hp).1), (hN p hp).2⟩)

theorem enterBF {K : Frag} {B : Heap} {news : List (Addr × Obj)} {prog : Program} {w : World} {A : Around} {s : Shared} {Q E : Value → Shared → Prop} {p : Program} {loose : List Str} {mean : ExcName → Option Value} {mg mb : Str → Option Value} {name qual : Str} {params : Arguments} {body : List Stmt} {scope : Scope} {dV kV doc pm cdv ct oc : Value} {an od : Option Addr} {osl : Array (Option Value)} {f : Addr} {args : List Value} {kw : List (Str × Value)} {binds : List (Str × Value)}
    (hB : ∀ b o, B.get? b = some o → s.heap.get? b = some o) (hsz : B.objs.size ≤ s.heap.objs.size) (X : K.In B) (T : Top p loose mean mg mb B)
    (hN : ∀ p ∈ news, s.heap.get? p.1 = some p.2 ∧ B.get? p.1 = none)
    (ho : K.lookup f = some ⟨oc, od, .func (fnOf name qual params body scope dV kV doc pm an cdv ct), osl⟩) (hcd : codeIn K cdv qual = true) (hroom : A.depth < recursionLimit)
    (hbind : BindsTo s (fnOf name qual params body scope dV kV doc pm an cdv ct) ⟨args, kw⟩ binds) (hloc : ∀ y ∈ binds, scope.names.lookup y.1 = some .local)
    (h : ∀ h₁ tk₁, Fr B s.heap.objs.size h₁ (fun y => binds.reverse.lookup y) → News B s.heap.objs.size h₁ news →
      wpAny (model prog w) (A.deeper (envOf qual scope s.heap.objs.size f cdv)) (execs body (envOf qual scope s.heap.objs.size f cdv))
        (fun fl s' => Q (match fl with | .ret v => v | _ => .none) s') (fun _ _ => False) { s with heap := h₁, toks := tk₁ })
    (hco : scope.isCoroutine = false := by rfl) (hgen : scope.isGenerator = false := by rfl) (hk : scope.kind = .function := by rfl)
    (hcell : ∀ x ∈ scope.names, x.2 ≠ .cell := by decide) : wpAny (model prog w) A (call (.ref f) args kw) Q E s :=
  enterB hB hsz X T hN ho hcd hroom hbind hloc (fun h₁ F N => wpAny_mono (h h₁ _ F N) (fun _ _ x => x) fun _ _ x => x.elim) hco hgen hk hcell

theorem enterK {K : Frag} {prog : Program} {w : World} {A : Around} {s : Shared} {Q E : Value → Shared → Prop} {p : Program} {loose : List Str} {mean : ExcName → Option Value} {mg mb : Str → Option Value} {name qual : Str} {params : Arguments} {body : List Stmt} {scope : Scope} {dV kV doc pm cdv ct oc : Value} {an od : Option Addr} {osl : Array (Option Value)} {f : Addr} {args : List Value} {kw : List (Str × Value)} {binds : List (Str × Value)}
    (X : K.In s.heap) (T : Top p loose mean mg mb s.heap)
    (ho : K.lookup f = some ⟨oc, od, .func (fnOf name qual params body scope dV kV doc pm an cdv ct), osl⟩) (hcd : codeIn K cdv qual = true) (hroom : A.depth < recursionLimit)
    (hbind : BindsTo s (fnOf name qual params body scope dV kV doc pm an cdv ct) ⟨args, kw⟩ binds) (hloc : ∀ y ∈ binds, scope.names.lookup y.1 = some .local)
    (h : ∀ h₁ tk₁, Fr s.heap s.heap.objs.size h₁ (fun y => binds.reverse.lookup y) → News s.heap s.heap.objs.size h₁ [] →
      wpAny (model prog w) (A.deeper (envOf qual scope s.heap.objs.size f cdv)) (execs body (envOf qual scope s.heap.objs.size f cdv))
        (fun fl s' => Q (match fl with | .ret v => v | _ => .none) s') (fun _ _ => False) { s with heap := h₁, toks := tk₁ })
    (hco : scope.isCoroutine = false := by rfl) (hgen : scope.isGenerator = false := by rfl) (hk : scope.kind = .function := by rfl)
    (hcell : ∀ x ∈ scope.names, x.2 ≠ .cell := by decide) : wpAny (model prog w) A (call (.ref f) args kw) Q E s :=
  enterBF (news := []) (fun _ _ e => e) (Nat.le_refl _) X T (fun _ hp => nomatch hp) ho hcd hroom hbind hloc h hco hgen hk hcell

end Mine
namespace Mine
/-- all that stands but the places told -/
abbrev But (s : Shared) (news : List (Addr × Obj)) : Heap := hideAll s.heap (news.map (·.1))
theorem but_of {s : Shared} {news : List (Addr × Obj)} {b : Addr} {o : Obj} (e : s.heap.get? b = some o) (h : b ∉ news.map (·.1)) : (But s news).get? b = some o := hideAll_get _ e h
theorem but_base {B : Heap} {s : Shared} {news : List (Addr × Obj)} (hB : Kp B s.heap) (hN : ∀ p ∈ news, B.get? p.1 = none) : Kp B (But s news) := fun b o e => but_of (hB b o e) fun q => by
  obtain ⟨p, hp, rfl⟩ := List.mem_map.mp q
  rw [hN p hp] at e; cases e
theorem enterH {K : Frag} {B : Heap} (news : List (Addr × Obj)) {prog : Program} {w : World} {A : Around} {s : Shared} {Q E : Value → Shared → Prop} {p : Program} {loose : List Str} {mean : ExcName → Option Value} {mg mb : Str → Option Value} {name qual : Str} {params : Arguments} {body : List Stmt} {scope : Scope} {dV kV doc pm cdv ct oc : Value} {an od : Option Addr} {osl : Array (Option Value)} {f : Addr} {args : List Value} {kw : List (Str × Value)} {binds : List (Str × Value)}
    (hB : Kp B s.heap) (hN : ∀ p ∈ news, s.heap.get? p.1 = some p.2 ∧ B.get? p.1 = none) (X : K.In B) (T : Top p loose mean mg mb B)
    (ho : K.lookup f = some ⟨oc, od, .func (fnOf name qual params body scope dV kV doc pm an cdv ct), osl⟩) (hcd : codeIn K cdv qual = true) (hroom : A.depth < recursionLimit)
    (hbind : BindsTo s (fnOf name qual params body scope dV kV doc pm an cdv ct) ⟨args, kw⟩ binds) (hloc : ∀ y ∈ binds, scope.names.lookup y.1 = some .local)
    (h : ∀ h₁ tk₁, K.In (But s news) → Top p loose mean mg mb (But s news) → Fr (But s news) s.heap.objs.size h₁ (fun y => binds.reverse.lookup y) → News (But s news) s.heap.objs.size h₁ news →
      wpAny (model prog w) (A.deeper (envOf qual scope s.heap.objs.size f cdv)) (execs body (envOf qual scope s.heap.objs.size f cdv))
        (fun fl s' => Q (match fl with | .ret v => v | _ => .none) s')
        (fun e s' => wpAny (model prog w) (A.deeper (envOf qual scope s.heap.objs.size f cdv)) (leaving (envOf qual scope s.heap.objs.size f cdv) e) (fun _ s'' => E e s'') (fun e' s'' => E e' s'') s')
        { s with heap := h₁, toks := tk₁ })
    (hco : scope.isCoroutine = false := by rfl) (hgen : scope.isGenerator = false := by rfl) (hk : scope.kind = .function := by rfl)
    (hcell : ∀ x ∈ scope.names, x.2 ≠ .cell := by decide) : wpAny (model prog w) A (call (.ref f) args kw) Q E s := by
  have st : Kp B (But s news) := but_base hB fun p hp => (hN p hp).2
  exact enterB (B := But s news) (fun b o e => of_hideAll _ e) (Nat.le_of_eq (hideAll_size _ _)) (X.keeps st) (T.keeps st)
    (fun p hp => ⟨(hN p hp).1, hideAll_none _ (List.mem_map_of_mem hp)⟩) ho hcd hroom hbind hloc (fun h₁ F N => h h₁ _ (X.keeps st) (T.keeps st) F N) hco hgen hk hcell
end Mine
namespace Mine
abbrev Ar (dp un : Nat) (fr : Option (List Env)) (gd : Option (List Code)) : Around := { handled := none, depth := dp, frames := fr, guards := gd, units := un }
end Mine
namespace Mine
def Stop (P : Prop) : Prop := P
structure NoStop : Prop
theorem stop {P : Prop} (h : Stop P) : P := h
theorem go {P : Prop} (h : P) : Stop P := h
end Mine
namespace Mine
theorem nin {a : Addr} {l : List Addr} (h : ∀ b ∈ l, b ≠ a) : a ∉ l := fun q => h a q rfl
theorem fresh_ne {h₀ h : Heap} {L T : Addr} {news : List (Addr × Obj)} (N : News h₀ L h news) (hT : h.get? T = none) : ∀ p ∈ news, @Ne Nat p.1 T := fun p hp q => by
  have := (N p hp).1
  rw [show p.1 = T from q, hT] at this; cases this
end Mine
section
local macro_rules | `(tactic| walk_at "M enterB") => `(tactic| (k_dflt (refine' Mine.enterB ?h1 ?h2 ?k1 ?k2 ?h3 ?k6 ?k7 ?k8 ?k9 ?kB ?_ ?c2 ?c3 ?c4 ?c5; (case k1 => k_asm); (case k2 => k_asm); (case k6 => k_is); (case k7 => k_is); (case k8 => ktr_room); (case k9 => exact BindsTo.of_eq rfl); (case c5 => decide); (case kB => exact locs rfl); (case c2 => exact rfl); (case c3 => exact rfl); (case c4 => exact rfl); k_whole)))
local macro_rules | `(tactic| walk_at "M enter") => `(tactic| (k_dflt (refine' Mine.enterK ?k1 ?k2 ?k6 ?k7 ?k8 ?k9 ?kB ?_ ?c2 ?c3 ?c4 ?c5; (case k1 => k_asm); (case k2 => k_asm); (case k6 => k_is); (case k7 => k_is); (case k8 => ktr_room); (case k9 => exact BindsTo.of_eq rfl); (case c5 => decide); (case kB => exact locs rfl); (case c2 => exact rfl); (case c3 => exact rfl); (case c4 => exact rfl); k_whole)))
local macro_rules | `(tactic| walk_at "M enterH") => `(tactic| ((case k1 => k_dflt k_asm); (case k2 => k_dflt k_asm); (case k6 => k_dflt k_is); (case k7 => k_dflt k_is); (case k8 => k_dflt ktr_room); (case k9 => k_dflt (first | exact BindsTo.of_eq rfl | exact binds_K (by assumption) rfl (by k_is) rfl rfl rfl)); (case c5 => decide); (case kB => k_dflt (exact locs rfl)); (case c2 => k_dflt (exact rfl)); (case c3 => k_dflt (exact rfl)); (case c4 => k_dflt (exact rfl))))
local macro_rules | `(tactic| walk_at "M list") => `(tactic| first | (refine' Mine.isL_news ?N ?m; (case N => assumption); (case m => k_mem)) | (refine' Mine.isL_base ?F ?l; (case F => assumption); (case l => assumption)) | assumption)
local macro_rules | `(tactic| walk_at "eval Name") => `(tactic| (k_here; k_dflt (refine' Mine.ldG ?F ?v ?_ ?a ?b ?c; (case F => k_asm); (case v => first | assumption | exact rfl); (case a => exact rfl); (case b => exact rfl); (case c => decide); k_whole)))
local macro_rules | `(tactic| walk_at "eval Name") => `(tactic| (k_here; k_dflt (refine' nameG_K ?F ?X ?T ?e ?_ ?g ?k ?x ?d; (case F => k_asm); (case X => k_asm); (case T => k_asm); (case e => k_is); (case g => exact rfl); (case k => exact rfl); (case x => exact rfl); (case d => decide); k_whole)))
local macro_rules | `(tactic| walk_at "eval Name") => `(tactic| (k_here; k_dflt (refine' Mine.nameG_B ?F ?X ?T ?e ?v ?n ?_ ?g ?gb ?k ?x ?d; (case F => k_asm); (case X => k_asm); (case T => k_asm); (case e => k_is); (case v => boot_by_name); (case n => decide); (case g => exact rfl); (case gb => exact rfl); (case k => exact rfl); (case x => exact rfl); (case d => decide); k_whole)))
local macro_rules | `(tactic| walk_at "eval ListComp") => `(tactic| refine Mine.stop ?_)
local macro_rules | `(tactic| walk_at "eval GeneratorExp") => `(tactic| refine Mine.stop ?_)
local macro_rules | `(tactic| walk_at "exec For") => `(tactic| refine Mine.stop ?_)
local macro_rules | `(tactic| walk_at "exec While") => `(tactic| refine Mine.stop ?_)
local macro_rules | `(tactic| walk_at "call ref") => `(tactic| ((fail_if_success (have : Mine.NoStop := by assumption)); refine Mine.stop ?_))
local macro_rules | `(tactic| walk_at "call builtin:str.join") => `(tactic| refine Mine.stop ?_)
local macro_rules | `(tactic| walk_at "binaryOp Add str str") => `(tactic| refine Mine.stop ?_)
local macro_rules | `(tactic| walk_at "truthy ref") => `(tactic| refine Mine.stop ?_)
local macro_rules | `(tactic| walk_at "subscriptTail") => `(tactic| ((with_reducible show wpAny _ _ (subscriptTail _ _ (Value.ref _) _) _ _ _); refine Mine.stop ?_))
local macro_rules | `(tactic| walk_at "call builtin:min") => `(tactic| ((with_reducible show wpAny _ _ (call _ [Value.ref _]) _ _ _); refine Mine.stop ?_))
local macro_rules | `(tactic| walk_at "call builtin:max") => `(tactic| ((with_reducible show wpAny _ _ (call _ [Value.ref _]) _ _ _); refine Mine.stop ?_))
local macro_rules | `(tactic| walk_at "call type:enumerate") => `(tactic| refine Mine.stop ?_)
local macro_rules | `(tactic| walk_at "exec For Name Name cons nil") => `(tactic| refine Mine.stop ?_)
local macro_rules | `(tactic| walk_at "exec For Name Call cons nil") => `(tactic| refine Mine.stop ?_)
local macro_rules | `(tactic| walk_at "exec For Tuple Name cons nil") => `(tactic| refine Mine.stop ?_)
local macro_rules | `(tactic| walk_at "exec For Tuple Call cons nil") => `(tactic| refine Mine.stop ?_)
local macro_rules | `(tactic| walk_at "exec For Name Subscript cons nil") => `(tactic| refine Mine.stop ?_)
local macro_rules | `(tactic| walk_at "exec While BoolOp cons nil") => `(tactic| refine Mine.stop ?_)
local macro_rules | `(tactic| walk_at "exec While Compare cons nil") => `(tactic| refine Mine.stop ?_)
local macro_rules | `(tactic| walk_at "exec While Constant cons nil") => `(tactic| refine Mine.stop ?_)
local macro_rules | `(tactic| walk_at "Exists") => `(tactic| refine Mine.stop ?_)
local macro_rules | `(tactic| walk_at "And") => `(tactic| refine Mine.stop ?_)
local macro_rules | `(tactic| walk_at "binaryOp Add str str") => `(tactic| (with_reducible (refine' Mine.addS ?_ ?sz); (case sz => k_dflt (first | assumption | ((try simp only [Mine.S_len, Mine.len_1, Mine.len_2, Mine.len_3, Mine.len_4, Mine.len_5, Mine.len_6, Mine.len_7, Mine.len_8, Mine.len_0, List.length_append, List.length_cons, List.length_nil, Str.length_append]); omega))); intro _ _))
local macro_rules | `(tactic| walk_at "truthy ref") => `(tactic| (with_reducible (refine' Mine.truthL ?hl ?hf ?_); (case hl => k_dflt (walk_at "M list")); (case hf => ((try simp only [List.length_append, List.length_cons, List.length_nil]); omega)); intro _))
local macro_rules | `(tactic| walk_at "call builtin:len") => `(tactic| ((with_reducible show wpAny _ _ (call _ [Value.ref _]) _ _ _); with_reducible (refine' Mine.lenL ?hl ?hf ?_); (case hl => k_dflt (walk_at "M list")); (case hf => ((try simp only [List.length_append, List.length_cons, List.length_nil]); omega)); intro _ _))
local macro_rules | `(tactic| walk_at "M steps") => `(tactic| repeat' (first | (k_unfold; (try dsimp only)) | walk1 | (dsimp only; walk1)))
local macro_rules | `(tactic| walk_at "M go") => `(tactic| refine Mine.go ?_)
local macro_rules | `(tactic| walk_at "callWith") => `(tactic| ((with_reducible show wpAny _ _ (callWith _ (Value.builtin _) (_ :: _) (backTo _ (starEach (_ :: _) _)) []) _ _ _); refine' Mine.cwM ?k1 ?k2 ?_; (case k1 => k_dflt (exact rfl)); (case k2 => k_dflt (exact rfl))))
local macro_rules | `(tactic| walk_at "callWith") => `(tactic| ((with_reducible show wpAny _ _ (callWith _ (Value.builtin _) [] (backTo _ (starEach (_ :: _) _)) []) _ _ _); refine' Mine.cwB ?k1 ?k2 ?_; (case k1 => k_dflt (exact rfl)); (case k2 => k_dflt (exact rfl))))
local macro_rules | `(tactic| walk_at "subscriptTail Name Name str int") => `(tactic| (with_reducible (refine' Mine.itemS ?h0 ?h1 ?hz ?_ ?hs ?ht); (case h0 => k_dflt omega); (case h1 => k_dflt omega); (case hz => k_dflt ((try simp only [List.length_append, List.length_take, List.length_drop, List.length_cons, List.length_nil]); omega)); (case hs => with_unfolding_all rfl); (case ht => (intro _; with_unfolding_all rfl)); intro _ _))
local macro_rules | `(tactic| walk_at "subscriptTail Name Constant str int") => `(tactic| (with_reducible (refine' Mine.itemS ?h0 ?h1 ?hz ?_ ?hs ?ht); (case h0 => k_dflt omega); (case h1 => k_dflt omega); (case hz => k_dflt ((try simp only [List.length_append, List.length_take, List.length_drop, List.length_cons, List.length_nil]); omega)); (case hs => with_unfolding_all rfl); (case ht => (intro _; with_unfolding_all rfl)); intro _ _))
local macro_rules | `(tactic| walk_at "subscriptTail Name Call str int") => `(tactic| (with_reducible (refine' Mine.itemS ?h0 ?h1 ?hz ?_ ?hs ?ht); (case h0 => k_dflt omega); (case h1 => k_dflt omega); (case hz => k_dflt ((try simp only [List.length_append, List.length_take, List.length_drop, List.length_cons, List.length_nil]); omega)); (case hs => with_unfolding_all rfl); (case ht => (intro _; with_unfolding_all rfl)); intro _ _))
local macro_rules | `(tactic| walk_at "subscriptTail Name Slice str ref") => `(tactic| (with_reducible (refine' Mine.cutS_rev ?F ?N  ?hz ?_ ?hs ?ht); (case F => k_dflt k_asm); (case N => k_dflt k_asm); (case hz => k_dflt ((try simp only [List.length_append, List.length_take, List.length_drop, List.length_cons, List.length_nil]); omega)); (case hs => with_unfolding_all rfl); (case ht => (intro _; with_unfolding_all rfl)); intro _ _ _ _ _ _))
local macro_rules | `(tactic| walk_at "subscriptTail Name Slice str ref") => `(tactic| (with_reducible (refine' Mine.cutS_mid ?F ?N ?h0 ?h1 ?hz ?_ ?hs ?ht); (case F => k_dflt k_asm); (case N => k_dflt k_asm); (case h0 => k_dflt omega); (case h1 => k_dflt omega); (case hz => k_dflt ((try simp only [List.length_append, List.length_take, List.length_drop, List.length_cons, List.length_nil]); omega)); (case hs => with_unfolding_all rfl); (case ht => (intro _; with_unfolding_all rfl)); intro _ _ _ _ _ _))
local macro_rules | `(tactic| walk_at "subscriptTail Name Slice str ref") => `(tactic| (with_reducible (refine' Mine.cutS_from ?F ?N ?h0 ?hz ?_ ?hs ?ht); (case F => k_dflt k_asm); (case N => k_dflt k_asm); (case h0 => k_dflt omega); (case hz => k_dflt ((try simp only [List.length_append, List.length_take, List.length_drop, List.length_cons, List.length_nil]); omega)); (case hs => with_unfolding_all rfl); (case ht => (intro _; with_unfolding_all rfl)); intro _ _ _ _ _ _))
local macro_rules | `(tactic| walk_at "subscriptTail Name Slice str ref") => `(tactic| (with_reducible (refine' Mine.cutS_neg ?F ?N ?h0 ?hz ?_ ?hs ?ht); (case F => k_dflt k_asm); (case N => k_dflt k_asm); (case h0 => k_dflt omega); (case hz => k_dflt ((try simp only [List.length_append, List.length_take, List.length_drop, List.length_cons, List.length_nil]); omega)); (case hs => with_unfolding_all rfl); (case ht => (intro _; with_unfolding_all rfl)); intro _ _ _ _ _ _))
local macro_rules | `(tactic| walk_at "subscriptTail Name Slice str ref") => `(tactic| (with_reducible (refine' Mine.cutS_to ?F ?N ?h0 ?hz ?_ ?hs ?ht); (case F => k_dflt k_asm); (case N => k_dflt k_asm); (case h0 => k_dflt omega); (case hz => k_dflt ((try simp only [List.length_append, List.length_take, List.length_drop, List.length_cons, List.length_nil]); omega)); (case hs => with_unfolding_all rfl); (case ht => (intro _; with_unfolding_all rfl)); intro _ _ _ _ _ _))
local macro_rules | `(tactic| walk_at "M keep") => `(tactic| (refine' Or.inr ⟨?km, Mine.nin ?kn⟩; (case km => k_mem); (case kn => k_all)))
local macro_rules | `(tactic| walk_at "getMethod ref") => `(tactic| (k_here; (with_reducible show wpAny _ _ (getMethod (Value.ref _) (PySem.Str.ofString "_keyfunc") _) _ _ _); k_dflt (refine' Mine.method_slot ?k1 ?k2 ?k3 ?k4 ?k5 ?k6 ?k7 ?k8 ?k9 ?k9b ?k10 ?k11 ?_; (case k1 => k_asm); (case k2 => k_asm); (case k3 => k_inst); (case k4 => k_is); (case k5 => k_is); (case k6 => k_is); (case k7 => k_is); (case k8 => k_is); (case k9 => k_is); (case k9b => k_is); (case k10 => k_slotget); (case k11 => k_handed); k_whole)))
local macro_rules | `(tactic| walk_at "callWith ref") => `(tactic| (k_here; (with_reducible show wpAny _ _ (callWith _ _ _ (backTo _ (starEach [] _)) []) _ _ _); k_dflt (with_reducible refine' callWith_K0 ?k1 ?k2 ?_; (case k1 => k_in); (case k2 => k_is); k_whole)))
local macro_rules | `(tactic| walk_at "M enterC") => `(tactic| ((case k1 => k_dflt k_asm); (case k2 => k_dflt k_asm); (case k6 => k_dflt k_is); (case k7 => k_dflt k_is); (case k8 => k_dflt ktr_room); (case k9 => k_dflt (first | exact BindsTo.of_eq rfl | exact binds_K (by assumption) rfl (by k_is) rfl rfl rfl)); (case kB => k_dflt (exact kindsX rfl)); (case kD => decide +kernel); (case c2 => k_dflt (exact rfl)); (case c3 => k_dflt (exact rfl)); (case c4 => k_dflt (exact rfl))))
local macro_rules | `(tactic| walk_at "subscriptTail Name Constant ref int") => `(tactic| ((refine' Mine.atL ?hl ?h0 ?h1 ?hx ?_ ?hs); (case hl => k_dflt (walk_at "M list")); (case h0 => decide); (case h1 => decide); (case hx => rfl); (case hs => with_unfolding_all rfl)))
local macro_rules | `(tactic| walk_at "subscriptTail Name Slice ref ref") => `(tactic| ((refine' Mine.cutL ?F ?N ?hl ?h0 ?hz ?_ ?hs ?ht); (case F => k_dflt k_asm); (case N => k_dflt k_asm); (case hl => k_dflt (walk_at "M list")); (case h0 => decide); (case hz => k_dflt ((try simp only [List.length_append, List.length_cons, List.length_nil] at *); omega)); (case hs => with_unfolding_all rfl); (case ht => (intro _; with_unfolding_all rfl)); intro _ _ _ _ l1; (try k_lt l1)))
local macro_rules | `(tactic| walk_at "truthy ref") => `(tactic| (with_reducible (refine' Mine.truthCons ?hl ?hf ?_); (case hl => k_dflt (walk_at "M list")); (case hf => (k_dflt ((try simp only [List.length_nil, List.length_cons]); omega))); intro _))
local macro_rules | `(tactic| walk_at "truthy ref") => `(tactic| (with_reducible (refine' Mine.truthNil ?hl ?_); (case hl => k_dflt (walk_at "M list")); intro _))
local macro_rules | `(tactic| walk_at "truthy str") => `(tactic| (with_reducible (refine' Mine.truthS ?hz ?_); (case hz => k_dflt ((try simp only [List.length_append, List.length_take, List.length_drop, List.length_cons, List.length_nil]); omega)); intro _))
local macro_rules | `(tactic| walk_at "call builtin:len") => `(tactic| ((with_reducible show wpAny _ _ (call _ [Value.str _ _]) _ _ _); with_reducible (refine' Mine.lenS ?hz ?_); (case hz => k_dflt ((try simp only [List.length_append, List.length_take, List.length_drop, List.length_cons, List.length_nil]); omega)); intro _ _))
local macro_rules | `(tactic| walk_at "exec If") => `(tactic| ((with_reducible show wpAny _ _ (exec (Stmt.If (Expr.Compare (Expr.Call _ [Expr.Name (PySem.Str.ofString "first") _] _ _) _ _ _) _ _ _) _) _ _ _); (fail_if_success (have : Mine.NoStop := by assumption)); refine Mine.stop ?_))
local macro_rules | `(tactic| walk_at "exec Assign cons ListComp") => `(tactic| refine Mine.stop ?_)
local macro_rules | `(tactic| walk_at "eval Name") => `(tactic| (k_here; k_dflt (refine' Mine.ldC ?N ?c ?m ?d ?_ ?a ?b ?e; (case N => k_asm); (case c => exact rfl); (case m => k_mem); (case d => assumption); (case a => exact rfl); (case b => exact rfl); (case e => decide); k_whole)))
local macro_rules | `(tactic| walk_at "call builtin:sorted") => `(tactic| refine Mine.stop ?_)
local macro_rules | `(tactic| walk_at "eval Name") => `(tactic| (k_here; (with_reducible show wpAny _ _ (eval _ (genEnv _ _ _ _ _ _)) _ _ _); k_dflt (refine' Mine.ldF ?N ?c ?m ?d ?_ ?a ?b ?e ?f; (case N => k_asm); (case c => exact rfl); (case m => k_mem); (case d => assumption); (case a => exact rfl); (case b => exact rfl); (case e => decide); (case f => decide); k_whole)))
local macro_rules | `(tactic| walk_at "eval UnaryOp") => `(tactic| ((with_reducible show wpAny _ _ (eval _ (genEnv _ _ _ _ _ _)) _ _ _); with_reducible refine UnaryOp_ ?_))
local macro_rules | `(tactic| walk_at "eval Lambda") => `(tactic| refine Mine.stop ?_)
theorem Mine.off2 : True := by w_top off; trivial
-- P02_rules
namespace Mine
/-- a text by its signs -/
def S (l : List Nat) : Str := ⟨l.toArray⟩
section
variable {prog : Program} {w : World} {A : Around} {E : Value → Shared → Prop} {s : Shared} {env : Env} {h₀ : Heap} {L : Addr} {m : Str → Option Value} {news : List (Addr × Obj)}

/-- a local name, in any frame -/
theorem ldG {x : Str} {pos : Pos} {v : Value} {Q : Value → Shared → Prop} (F : Fr h₀ env.locals s.heap m) (hv : m x = some v) (h : Q v s)
    (hk : env.scope.kind = .function) (hl : env.kindOf x = some .local) (hd : (x == ("__debug__" : Str)) = false) :
    wpAny (model prog w) A (eval (.Name x pos) env) Q E s := wpAny_Name (wpAny_loadName_local hk hl F.ns hv h) hd

theorem nameG_B {K : Frag} {mg mb : Str → Option Value} {p : Program} {loose : List Str} {x : Str} {pos : Pos} {v : Value} {Q : Value → Shared → Prop} (F : Fr h₀ L s.heap m) (X : K.In h₀) (T : TopRead p loose mg mb h₀)
    (e : nsIn K mainGlobals x = some none) (hv : bootBuiltins x = some v) (hn : x ≠ "__name__") (h : Q v s) (hg : env.globals = mainGlobals) (hb : env.builtins = builtinsNs) (hk : env.scope.kind = .function) (hx : env.kindOf x = some .globalImplicit)
    (hd : (x == ("__debug__" : Str)) = false) : wpAny (model prog w) A (eval (.Name x pos) env) Q E s :=
  Name_function_global hk hx (loadGlobal_builtin (env := env) (by rw [hg]; exact T.g.keeps F.keep) (mg_none_of X T.g e) (by rw [hb]; exact T.b.keeps F.keep) ((T.builtins x hn).trans hv) h) hd

theorem isL_base {l : Addr} {its : Array Value} (F : Fr h₀ L s.heap m) (hl : h₀.IsList l its) : s.heap.IsList l its := hl.at fun o e => F.keep _ o e
theorem isL_news {l : Addr} {its : Array Value} {n : Nat} (N : News h₀ L s.heap news) (hm : (l, PySem.W.listOf its n) ∈ news) : s.heap.IsList l its := ⟨_, N.get hm, rfl, n, rfl⟩
theorem truthL {l : Addr} {vs : List Value} {Q : Bool → Shared → Prop} (hl : s.heap.IsList l vs.toArray) (hf : vs.length < 2 ^ 62) (h : ∀ k, Q (!vs.isEmpty) { s with toks := k }) :
    wpAny (model prog w) A (truthy (.ref l)) Q E s := by
  refine wpAny_truthy_list hl (by simp; omega) ?_
  have := h (s.toks + 1 + 1)
  simpa using this
theorem lenL {l : Addr} {vs : List Value} {Q : Value → Shared → Prop} (hl : s.heap.IsList l vs.toArray) (hf : vs.length < 2 ^ 62) (h : ∀ t k, Q (.int vs.length t) { s with toks := k }) :
    wpAny (model prog w) A (call (.builtin "len") [.ref l]) Q E s := by
  refine Calls.call_len_list hl (by simp; omega) ?_
  have := h (s.toks + 1) (s.toks + 1 + 1)
  simpa using this

def notStar : Expr → Bool
  | .Starred .. => false
  | _ => true
theorem se {e : Expr} {rest : List Expr} (h : notStar e = true) : starEach (e :: rest) env = (false, eval e env) :: starEach rest env := by
  cases e <;> first | rfl | (exact absurd h Bool.false_ne_true)
theorem sePlain {pos : Pos} : ∀ {rest : List Expr}, rest.all notStar = true → (backTo pos (starEach rest env)).any (·.1) = false
  | [], _ => rfl
  | e :: r, h => by
    rw [List.all_cons, Bool.and_eq_true] at h
    rw [se h.1]
    exact sePlain (rest := r) h.2
theorem cwM {pos : Pos} {id : String} {first : List Value} {e : Expr} {rest : List Expr} {Q : Value → Shared → Prop} (hs : notStar e = true) (hp : rest.all notStar = true)
    (h : wpAny (model prog w) A (spliced (backTo pos (starEach (e :: rest) env))) (fun vs s₁ => wpAny (model prog w) A (call (.builtin id) (first ++ vs)) Q E s₁) E s) :
    wpAny (model prog w) A (callWith pos (.builtin id) first (backTo pos (starEach (e :: rest) env)) []) Q E s := callWith_method1 h (se hs) (sePlain hp)
theorem cwB {pos : Pos} {id : String} {e : Expr} {rest : List Expr} {Q : Value → Shared → Prop} (hs : notStar e = true) (hp : rest.all notStar = true)
    (h : wpAny (model prog w) A (spliced (backTo pos (starEach (e :: rest) env))) (fun vs s₁ => wpAny (model prog w) A (call (.builtin id) vs) Q E s₁) E s) :
    wpAny (model prog w) A (callWith pos (.builtin id) [] (backTo pos (starEach (e :: rest) env)) []) Q E s := PyProof.Rows.callWith_builtin1 h (se hs) (sePlain hp)

theorem addS {x y : Str} {t u : Tok} {Q : Value → Shared → Prop} (h : ∀ t' k, Q (.str (x ++ y) t') { s with toks := k }) (hsz : x.length + y.length ≤ 1000000) :
    wpAny (model prog w) A (binaryOp .Add (.str x t) (.str y u)) Q E s := PyProof.Rows.add_str h (Nat.le_trans hsz (by decide))

theorem paired_strs {y : Str} {f : Nat → Str} : ∀ (k : Nat) (vs ys : List Value), (∀ j v, vs[j]? = some v → SignAt y (k + j) v) → vs.length + k = y.cps.size →
    Paired (fun v r => ∃ c u u', v = Value.str ⟨#[c]⟩ u ∧ r = Value.str (f c) u') vs ys → StrsAre ys ((y.cps.toList.drop k).map f)
  | k, [], ys, _, hl, h => by
    cases h
    have hk : k = y.cps.toList.length := by simpa using hl
    rw [hk, List.drop_length]
    exact .nil
  | k, v :: vs, ys, hP, hl, h => by
    cases h with
    | cons hF ht =>
      obtain ⟨c, u, u', rfl, rfl⟩ := hF
      obtain ⟨c', u2, hc, e⟩ := hP 0 _ rfl
      have hcc : c = c' := by
        have e2 := (Value.str.inj e).1
        have e3 : (#[c] : Array Nat) = #[c'] := Str.mk.inj e2
        simpa using e3
      subst hcc
      have hlt : k < y.cps.toList.length := by
        have h1 : vs.length + 1 + k = y.cps.size := by simpa using hl
        rw [Array.length_toList]; omega
      have hc' : y.cps.toList[k]? = some c := by simpa using hc
      have hd : y.cps.toList.drop k = c :: y.cps.toList.drop (k + 1) := by
        rw [List.drop_eq_getElem_cons hlt]
        rw [List.getElem?_eq_getElem hlt] at hc'
        rw [Option.some.inj hc']
      rw [hd, List.map_cons]
      refine .cons _ _ (paired_strs (k + 1) vs _ (fun j v' hj => ?_) ?_ ht)
      · have := hP (j + 1) v' (by simpa using hj)
        rwa [show k + (j + 1) = k + 1 + j from by omega] at this
      · have h1 : vs.length + 1 + k = y.cps.size := by simpa using hl
        omega

theorem frC {C : Addr} {m₃ : Str → Option Value} {h₁ h₃ : Heap} (F : Fr h₀ L h₁ m) (N : News h₀ L h₁ news) (hk : Kp h₁ h₃) (hC : h₁.objs.size ≤ C) (hn : h₃.Ns C m₃) : Fr h₀ C h₃ m₃ ∧ News h₀ C h₃ news := by
  refine ⟨⟨hn, fun b o e => hk b o (F.keep b o e), ?_⟩, fun p hp => ⟨hk _ _ (N p hp).1, ?_, (N p hp).2.2⟩⟩
  · obtain ⟨oL, _, _, hL, _⟩ := F.ns
    exact Nat.le_trans F.above (Nat.le_trans (Nat.le_of_lt (Heap.lt_size hL)) hC)
  · exact Nat.ne_of_lt (Nat.lt_of_lt_of_le (Heap.lt_size (N p hp).1) hC)
theorem frK {h₁ h₃ : Heap} (F : Fr h₀ L h₁ m) (N : News h₀ L h₁ news) (hk : Kp h₁ h₃) : Fr h₀ L h₃ m ∧ News h₀ L h₃ news :=
  ⟨F.keeps hk, N.grown hk⟩
/-- a new object is laid to the ledger -/
theorem newsNew {h₁ h₃ : Heap} {D : Addr} {o : Obj} (F : Fr h₀ L h₁ m) (N : News h₀ L h₁ news) (hk : Kp h₁ h₃) (hD : h₁.get? D = none) (ho : h₃.get? D = some o) :
    News h₀ L h₃ ((D, o) :: news) ∧ ∀ p ∈ news, p.1 ≠ D := by
  refine ⟨fun p hp => ?_, fun p hp q => ?_⟩
  · rcases List.mem_cons.mp hp with rfl | hp
    · refine ⟨ho, fun q => ?_, ?_⟩
      · obtain ⟨oL, _, _, hL, _⟩ := F.ns
        have q' : D = L := q
        rw [q', hL] at hD; cases hD
      · cases e : h₀.get? D with
        | none => rfl
        | some o' => rw [F.keep _ _ e] at hD; cases hD
    · exact ⟨hk _ _ (N p hp).1, (N p hp).2⟩
  · have := (N p hp).1
    rw [q, hD] at this; cases this

/-- a comprehension over a text, each sign told as a text -/
theorem compStr {elt iter : Expr} {x : Str} {px : Pos} {scope : Scope} {cl : List (Str × Addr)} {pos : Pos} {Q : Value → Shared → Prop} (f : Nat → Str)
    (hh : A.handled = none) (hclos : closureFor scope env = pure cl) (hcell : ∀ y ∈ scope.names, y.2 ≠ .cell) (hkind : scope.kind = .function)
    (hnames : ∀ y ∈ scope.names, y.2 = .local → scope.names.lookup y.1 = some .local) (hx : scope.names.lookup x = some .local)
    (h : wpAny (model prog w) A (eval iter env) (fun xv s₁ => ∃ y t, xv = .str y t ∧ y.cps.size ≤ sizeLine ∧ ∃ h₀ L m news, Fr h₀ L s₁.heap m ∧ News h₀ L s₁.heap news ∧
      (∀ c C u s₃ m₃ E', c ∈ y.cps.toList → Kp s₁.heap s₃.heap → Fr h₀ C s₃.heap m₃ → News h₀ C s₃.heap news → m₃ x = some (.str (S [c]) u) →
        wpAny (model prog w) A (eval elt (compEnvC scope cl C env)) (fun v s₄ => (∃ u, v = .str (f c) u) ∧ Keeps s₃ s₄) E' s₃) ∧
      (∀ D h' tk ys n, Fr h₀ L h' m → News h₀ L h' ((D, PySem.W.listOf ys.toArray n) :: news) → (∀ p ∈ news, p.1 ≠ D) → StrsAre ys (y.cps.toList.map f) → Kp s₁.heap h' → Q (.ref D) { s₁ with heap := h', toks := tk })) E s)
    (hs : ∀ x, foldedSetIterable iter env x = pure x) :
    wpAny (model prog w) A (eval (.ListComp elt [⟨.Name x px, iter, [], 0⟩] scope pos) env) Q E s := by
  refine wpAny_ListComp_free (fun _ => true) (fun v r => ∃ c u u', v = Value.str ⟨#[c]⟩ u ∧ r = Value.str (f c) u') hclos hcell hkind hnames hx (wpAny_mono h (fun xv s₁ h₁ => ?_) fun _ _ e => e) hs
  obtain ⟨y, t, rfl, hsz, h₀, L, m, news, F, N, helt, hQ⟩ := h₁
  refine wpAny_pyIter_str fun o St W hst => ?_
  have up : ∀ (s₃ : Shared), (∀ b o', b ∉ [s₁.heap.objs.size] → (s₁.heap.push o).get? b = some o' → s₃.heap.get? b = some o') → Kp s₁.heap s₃.heap :=
    fun s₃ hk b o' e => hk b o' (fun hm => by rw [List.mem_singleton.mp hm] at e; exact Nat.lt_irrefl _ (Heap.lt_size e)) (Heap.get?_push_of_some _ e)
  refine ⟨_, _, _, _, _, _, rfl, W _ hh, hsz, hst, ?_, ⟨?_, ?_⟩, ?_⟩
  · intro b hb
    rw [List.mem_singleton.mp hb]
    show _ < (s₁.heap.push o).objs.size
    rw [Heap.size_push]; exact Nat.lt_succ_self _
  · intro C i v s₃ m₃ E' _ _ _ _ _ _
    show wpAny _ _ (forIn [] true _) _ _ _
    exact wpAny_pure ⟨rfl, _, _, rfl, fun _ _ e => e⟩
  · intro C i v s₃ m₃ E' hC hP _ hn hm hk _
    obtain ⟨c, u, hc, rfl⟩ := hP
    have hmem : c ∈ y.cps.toList := by rw [Array.mem_toList_iff]; exact Array.mem_of_getElem? hc
    have hC' : s₁.heap.objs.size ≤ C := Nat.le_trans (Nat.le_succ _) (by have : (s₁.heap.push o).objs.size ≤ C := hC; rwa [Heap.size_push] at this)
    have FC := frC F N (up s₃ hk) hC' hn
    exact wpAny_mono (helt c C u s₃ m₃ E' hmem (up s₃ hk) FC.1 FC.2 hm) (fun r s₄ h₄ => ⟨let ⟨u', e⟩ := h₄.1; ⟨c, u, u', rfl, e⟩, h₄.2⟩) fun _ _ e => e
  · intro D h' tk ys vs hnew _ hpl hlen hP hF hk
    have keep := up { s₁ with heap := h' } hk
    obtain ⟨ep, hpl⟩ := hpl
    have hD : s₁.heap.get? D = none := by
      cases e : s₁.heap.get? D with
      | none => rfl
      | some o' => rw [Heap.get?_push_of_some _ e] at hnew; cases hnew
    have N2 := newsNew F N keep hD (o := PySem.W.listOf ys.toList.toArray ep) (by rw [hpl])
    refine hQ D h' tk ys.toList ep (frK F N keep).1 N2.1 N2.2 ?_ keep
    rw [List.filter_eq_self.mpr (fun _ _ => rfl)] at hF
    simpa using paired_strs (y := y) (f := f) 0 vs ys.toList (fun j v hj => by simpa using hP j v hj) (by simpa using hlen) hF
end
section
variable {prog : Program} {w : World} {A : Around} {E : Value → Shared → Prop} {s : Shared} {K : Frag} {x C L p : Addr} {h₀ : Heap} {m : Str → Option Value} {ox od : Obj} {name : Str} {v : Value} {i : Nat}
theorem method_slot {pl : Sem Bool} {Q : Value × List Value → Shared → Prop} (F : Fr h₀ L s.heap m) (X₀ : K.In h₀) (I : InstAt s.heap x ox C (some od)) (hg : plainGet K C name = true) (hc : isClsIn K C = true)
    (ha : findIn K (.ref C) name = some (some (.ref p))) (hn : specialIn K (.ref p) "__get__" = some (some (.builtin "member_descriptor.__get__"))) (ht : takesIn K (.ref p) = some true) (hp : slotIn K p C = some i) (hty : typeIn K (.ref p) = some (.type "member_descriptor"))
    (hv : (ox.slots[i]?).join = some v) (hh : handedIn v = true) (h : Q (v, []) { s with toks := s.toks + 1 }) : wpAny (model prog w) A (getMethod (.ref x) name pl) Q E s :=
  method_usual (X₀.keeps F.keep) I (plainGet_of hg).1 (plainGet_of hg).2 ha (by show (typeIn K (.ref p)).any _ = true; rw [hty]; rfl) (get_slot F X₀ I hg hc ha hn ht hp hv hh h)
end
end Mine
end
section
local macro_rules | `(tactic| walk_at "M none") => `(tactic| skip)
local macro_rules | `(tactic| walk_at "M enterB") => `(tactic| (k_dflt (refine' Mine.enterB ?h1 ?h2 ?k1 ?k2 ?h3 ?k6 ?k7 ?k8 ?k9 ?kB ?_ ?c2 ?c3 ?c4 ?c5; (case k1 => k_asm); (case k2 => k_asm); (case k6 => k_is); (case k7 => k_is); (case k8 => ktr_room); (case k9 => exact BindsTo.of_eq rfl); (case c5 => decide); (case kB => exact locs rfl); (case c2 => exact rfl); (case c3 => exact rfl); (case c4 => exact rfl); k_whole)))
local macro_rules | `(tactic| walk_at "M enter") => `(tactic| (k_dflt (refine' Mine.enterK ?k1 ?k2 ?k6 ?k7 ?k8 ?k9 ?kB ?_ ?c2 ?c3 ?c4 ?c5; (case k1 => k_asm); (case k2 => k_asm); (case k6 => k_is); (case k7 => k_is); (case k8 => ktr_room); (case k9 => exact BindsTo.of_eq rfl); (case c5 => decide); (case kB => exact locs rfl); (case c2 => exact rfl); (case c3 => exact rfl); (case c4 => exact rfl); k_whole)))
local macro_rules | `(tactic| walk_at "M enterH") => `(tactic| ((case k1 => k_dflt k_asm); (case k2 => k_dflt k_asm); (case k6 => k_dflt k_is); (case k7 => k_dflt k_is); (case k8 => k_dflt ktr_room); (case k9 => k_dflt (first | exact BindsTo.of_eq rfl | exact binds_K (by assumption) rfl (by k_is) rfl rfl rfl)); (case c5 => decide); (case kB => k_dflt (exact locs rfl)); (case c2 => k_dflt (exact rfl)); (case c3 => k_dflt (exact rfl)); (case c4 => k_dflt (exact rfl))))
local macro_rules | `(tactic| walk_at "M list") => `(tactic| first | (refine' Mine.isL_news ?N ?m; (case N => assumption); (case m => k_mem)) | (refine' Mine.isL_base ?F ?l; (case F => assumption); (case l => assumption)) | assumption)
local macro_rules | `(tactic| walk_at "eval Name") => `(tactic| (k_here; k_dflt (refine' Mine.ldG ?F ?v ?_ ?a ?b ?c; (case F => k_asm); (case v => first | assumption | exact rfl); (case a => exact rfl); (case b => exact rfl); (case c => decide); k_whole)))
local macro_rules | `(tactic| walk_at "eval Name") => `(tactic| (k_here; k_dflt (refine' nameG_K ?F ?X ?T ?e ?_ ?g ?k ?x ?d; (case F => k_asm); (case X => k_asm); (case T => k_asm); (case e => k_is); (case g => exact rfl); (case k => exact rfl); (case x => exact rfl); (case d => decide); k_whole)))
local macro_rules | `(tactic| walk_at "eval Name") => `(tactic| (k_here; k_dflt (refine' Mine.nameG_B ?F ?X ?T ?e ?v ?n ?_ ?g ?gb ?k ?x ?d; (case F => k_asm); (case X => k_asm); (case T => k_asm); (case e => k_is); (case v => boot_by_name); (case n => decide); (case g => exact rfl); (case gb => exact rfl); (case k => exact rfl); (case x => exact rfl); (case d => decide); k_whole)))
local macro_rules | `(tactic| walk_at "eval ListComp") => `(tactic| refine Mine.stop ?_)
local macro_rules | `(tactic| walk_at "eval GeneratorExp") => `(tactic| refine Mine.stop ?_)
local macro_rules | `(tactic| walk_at "exec For") => `(tactic| refine Mine.stop ?_)
local macro_rules | `(tactic| walk_at "exec While") => `(tactic| refine Mine.stop ?_)
local macro_rules | `(tactic| walk_at "call ref") => `(tactic| ((fail_if_success (have : Mine.NoStop := by assumption)); refine Mine.stop ?_))
local macro_rules | `(tactic| walk_at "call builtin:str.join") => `(tactic| refine Mine.stop ?_)
local macro_rules | `(tactic| walk_at "binaryOp Add str str") => `(tactic| refine Mine.stop ?_)
local macro_rules | `(tactic| walk_at "truthy ref") => `(tactic| refine Mine.stop ?_)
local macro_rules | `(tactic| walk_at "subscriptTail") => `(tactic| ((with_reducible show wpAny _ _ (subscriptTail _ _ (Value.ref _) _) _ _ _); refine Mine.stop ?_))
local macro_rules | `(tactic| walk_at "call builtin:min") => `(tactic| ((with_reducible show wpAny _ _ (call _ [Value.ref _]) _ _ _); refine Mine.stop ?_))
local macro_rules | `(tactic| walk_at "call builtin:max") => `(tactic| ((with_reducible show wpAny _ _ (call _ [Value.ref _]) _ _ _); refine Mine.stop ?_))
local macro_rules | `(tactic| walk_at "call type:enumerate") => `(tactic| refine Mine.stop ?_)
local macro_rules | `(tactic| walk_at "exec For Name Name cons nil") => `(tactic| refine Mine.stop ?_)
local macro_rules | `(tactic| walk_at "exec For Name Call cons nil") => `(tactic| refine Mine.stop ?_)
local macro_rules | `(tactic| walk_at "exec For Tuple Name cons nil") => `(tactic| refine Mine.stop ?_)
local macro_rules | `(tactic| walk_at "exec For Tuple Call cons nil") => `(tactic| refine Mine.stop ?_)
local macro_rules | `(tactic| walk_at "exec For Name Subscript cons nil") => `(tactic| refine Mine.stop ?_)
local macro_rules | `(tactic| walk_at "exec While BoolOp cons nil") => `(tactic| refine Mine.stop ?_)
local macro_rules | `(tactic| walk_at "exec While Compare cons nil") => `(tactic| refine Mine.stop ?_)
local macro_rules | `(tactic| walk_at "exec While Constant cons nil") => `(tactic| refine Mine.stop ?_)
local macro_rules | `(tactic| walk_at "Exists") => `(tactic| refine Mine.stop ?_)
local macro_rules | `(tactic| walk_at "And") => `(tactic| refine Mine.stop ?_)
local macro_rules | `(tactic| walk_at "binaryOp Add str str") => `(tactic| (with_reducible (refine' Mine.addS ?_ ?sz); (case sz => k_dflt (first | assumption | ((try simp only [Mine.S_len, Mine.len_1, Mine.len_2, Mine.len_3, Mine.len_4, Mine.len_5, Mine.len_6, Mine.len_7, Mine.len_8, Mine.len_0, List.length_append, List.length_cons, List.length_nil, Str.length_append]); omega))); intro _ _))
local macro_rules | `(tactic| walk_at "truthy ref") => `(tactic| (with_reducible (refine' Mine.truthL ?hl ?hf ?_); (case hl => k_dflt (walk_at "M list")); (case hf => ((try simp only [List.length_append, List.length_cons, List.length_nil]); omega)); intro _))
local macro_rules | `(tactic| walk_at "call builtin:len") => `(tactic| ((with_reducible show wpAny _ _ (call _ [Value.ref _]) _ _ _); with_reducible (refine' Mine.lenL ?hl ?hf ?_); (case hl => k_dflt (walk_at "M list")); (case hf => ((try simp only [List.length_append, List.length_cons, List.length_nil]); omega)); intro _ _))
local macro_rules | `(tactic| walk_at "M steps") => `(tactic| repeat' (first | (k_unfold; (try dsimp only)) | walk1 | (dsimp only; walk1)))
local macro_rules | `(tactic| walk_at "M go") => `(tactic| refine Mine.go ?_)
local macro_rules | `(tactic| walk_at "callWith") => `(tactic| ((with_reducible show wpAny _ _ (callWith _ (Value.builtin _) (_ :: _) (backTo _ (starEach (_ :: _) _)) []) _ _ _); refine' Mine.cwM ?k1 ?k2 ?_; (case k1 => k_dflt (exact rfl)); (case k2 => k_dflt (exact rfl))))
local macro_rules | `(tactic| walk_at "callWith") => `(tactic| ((with_reducible show wpAny _ _ (callWith _ (Value.builtin _) [] (backTo _ (starEach (_ :: _) _)) []) _ _ _); refine' Mine.cwB ?k1 ?k2 ?_; (case k1 => k_dflt (exact rfl)); (case k2 => k_dflt (exact rfl))))
local macro_rules | `(tactic| walk_at "subscriptTail Name Name str int") => `(tactic| (with_reducible (refine' Mine.itemS ?h0 ?h1 ?hz ?_ ?hs ?ht); (case h0 => k_dflt omega); (case h1 => k_dflt omega); (case hz => k_dflt ((try simp only [List.length_append, List.length_take, List.length_drop, List.length_cons, List.length_nil]); omega)); (case hs => with_unfolding_all rfl); (case ht => (intro _; with_unfolding_all rfl)); intro _ _))
local macro_rules | `(tactic| walk_at "subscriptTail Name Constant str int") => `(tactic| (with_reducible (refine' Mine.itemS ?h0 ?h1 ?hz ?_ ?hs ?ht); (case h0 => k_dflt omega); (case h1 => k_dflt omega); (case hz => k_dflt ((try simp only [List.length_append, List.length_take, List.length_drop, List.length_cons, List.length_nil]); omega)); (case hs => with_unfolding_all rfl); (case ht => (intro _; with_unfolding_all rfl)); intro _ _))
local macro_rules | `(tactic| walk_at "subscriptTail Name Call str int") => `(tactic| (with_reducible (refine' Mine.itemS ?h0 ?h1 ?hz ?_ ?hs ?ht); (case h0 => k_dflt omega); (case h1 => k_dflt omega); (case hz => k_dflt ((try simp only [List.length_append, List.length_take, List.length_drop, List.length_cons, List.length_nil]); omega)); (case hs => with_unfolding_all rfl); (case ht => (intro _; with_unfolding_all rfl)); intro _ _))
local macro_rules | `(tactic| walk_at "subscriptTail Name Slice str ref") => `(tactic| (with_reducible (refine' Mine.cutS_rev ?F ?N  ?hz ?_ ?hs ?ht); (case F => k_dflt k_asm); (case N => k_dflt k_asm); (case hz => k_dflt ((try simp only [List.length_append, List.length_take, List.length_drop, List.length_cons, List.length_nil]); omega)); (case hs => with_unfolding_all rfl); (case ht => (intro _; with_unfolding_all rfl)); intro _ _ _ _ _ _))
local macro_rules | `(tactic| walk_at "subscriptTail Name Slice str ref") => `(tactic| (with_reducible (refine' Mine.cutS_mid ?F ?N ?h0 ?h1 ?hz ?_ ?hs ?ht); (case F => k_dflt k_asm); (case N => k_dflt k_asm); (case h0 => k_dflt omega); (case h1 => k_dflt omega); (case hz => k_dflt ((try simp only [List.length_append, List.length_take, List.length_drop, List.length_cons, List.length_nil]); omega)); (case hs => with_unfolding_all rfl); (case ht => (intro _; with_unfolding_all rfl)); intro _ _ _ _ _ _))
local macro_rules | `(tactic| walk_at "subscriptTail Name Slice str ref") => `(tactic| (with_reducible (refine' Mine.cutS_from ?F ?N ?h0 ?hz ?_ ?hs ?ht); (case F => k_dflt k_asm); (case N => k_dflt k_asm); (case h0 => k_dflt omega); (case hz => k_dflt ((try simp only [List.length_append, List.length_take, List.length_drop, List.length_cons, List.length_nil]); omega)); (case hs => with_unfolding_all rfl); (case ht => (intro _; with_unfolding_all rfl)); intro _ _ _ _ _ _))
local macro_rules | `(tactic| walk_at "subscriptTail Name Slice str ref") => `(tactic| (with_reducible (refine' Mine.cutS_neg ?F ?N ?h0 ?hz ?_ ?hs ?ht); (case F => k_dflt k_asm); (case N => k_dflt k_asm); (case h0 => k_dflt omega); (case hz => k_dflt ((try simp only [List.length_append, List.length_take, List.length_drop, List.length_cons, List.length_nil]); omega)); (case hs => with_unfolding_all rfl); (case ht => (intro _; with_unfolding_all rfl)); intro _ _ _ _ _ _))
local macro_rules | `(tactic| walk_at "subscriptTail Name Slice str ref") => `(tactic| (with_reducible (refine' Mine.cutS_to ?F ?N ?h0 ?hz ?_ ?hs ?ht); (case F => k_dflt k_asm); (case N => k_dflt k_asm); (case h0 => k_dflt omega); (case hz => k_dflt ((try simp only [List.length_append, List.length_take, List.length_drop, List.length_cons, List.length_nil]); omega)); (case hs => with_unfolding_all rfl); (case ht => (intro _; with_unfolding_all rfl)); intro _ _ _ _ _ _))
local macro_rules | `(tactic| walk_at "M keep") => `(tactic| (refine' Or.inr ⟨?km, Mine.nin ?kn⟩; (case km => k_mem); (case kn => k_all)))
local macro_rules | `(tactic| walk_at "getMethod ref") => `(tactic| (k_here; (with_reducible show wpAny _ _ (getMethod (Value.ref _) (PySem.Str.ofString "_keyfunc") _) _ _ _); k_dflt (refine' Mine.method_slot ?k1 ?k2 ?k3 ?k4 ?k5 ?k6 ?k7 ?k8 ?k9 ?k9b ?k10 ?k11 ?_; (case k1 => k_asm); (case k2 => k_asm); (case k3 => k_inst); (case k4 => k_is); (case k5 => k_is); (case k6 => k_is); (case k7 => k_is); (case k8 => k_is); (case k9 => k_is); (case k9b => k_is); (case k10 => k_slotget); (case k11 => k_handed); k_whole)))
local macro_rules | `(tactic| walk_at "callWith ref") => `(tactic| (k_here; (with_reducible show wpAny _ _ (callWith _ _ _ (backTo _ (starEach [] _)) []) _ _ _); k_dflt (with_reducible refine' callWith_K0 ?k1 ?k2 ?_; (case k1 => k_in); (case k2 => k_is); k_whole)))
local macro_rules | `(tactic| walk_at "M enterC") => `(tactic| ((case k1 => k_dflt k_asm); (case k2 => k_dflt k_asm); (case k6 => k_dflt k_is); (case k7 => k_dflt k_is); (case k8 => k_dflt ktr_room); (case k9 => k_dflt (first | exact BindsTo.of_eq rfl | exact binds_K (by assumption) rfl (by k_is) rfl rfl rfl)); (case kB => k_dflt (exact kindsX rfl)); (case kD => decide +kernel); (case c2 => k_dflt (exact rfl)); (case c3 => k_dflt (exact rfl)); (case c4 => k_dflt (exact rfl))))
local macro_rules | `(tactic| walk_at "subscriptTail Name Constant ref int") => `(tactic| ((refine' Mine.atL ?hl ?h0 ?h1 ?hx ?_ ?hs); (case hl => k_dflt (walk_at "M list")); (case h0 => decide); (case h1 => decide); (case hx => rfl); (case hs => with_unfolding_all rfl)))
local macro_rules | `(tactic| walk_at "subscriptTail Name Slice ref ref") => `(tactic| ((refine' Mine.cutL ?F ?N ?hl ?h0 ?hz ?_ ?hs ?ht); (case F => k_dflt k_asm); (case N => k_dflt k_asm); (case hl => k_dflt (walk_at "M list")); (case h0 => decide); (case hz => k_dflt ((try simp only [List.length_append, List.length_cons, List.length_nil] at *); omega)); (case hs => with_unfolding_all rfl); (case ht => (intro _; with_unfolding_all rfl)); intro _ _ _ _ l1; (try k_lt l1)))
local macro_rules | `(tactic| walk_at "truthy ref") => `(tactic| (with_reducible (refine' Mine.truthCons ?hl ?hf ?_); (case hl => k_dflt (walk_at "M list")); (case hf => (k_dflt ((try simp only [List.length_nil, List.length_cons]); omega))); intro _))
local macro_rules | `(tactic| walk_at "truthy ref") => `(tactic| (with_reducible (refine' Mine.truthNil ?hl ?_); (case hl => k_dflt (walk_at "M list")); intro _))
local macro_rules | `(tactic| walk_at "truthy str") => `(tactic| (with_reducible (refine' Mine.truthS ?hz ?_); (case hz => k_dflt ((try simp only [List.length_append, List.length_take, List.length_drop, List.length_cons, List.length_nil]); omega)); intro _))
local macro_rules | `(tactic| walk_at "call builtin:len") => `(tactic| ((with_reducible show wpAny _ _ (call _ [Value.str _ _]) _ _ _); with_reducible (refine' Mine.lenS ?hz ?_); (case hz => k_dflt ((try simp only [List.length_append, List.length_take, List.length_drop, List.length_cons, List.length_nil]); omega)); intro _ _))
local macro_rules | `(tactic| walk_at "exec If") => `(tactic| ((with_reducible show wpAny _ _ (exec (Stmt.If (Expr.Compare (Expr.Call _ [Expr.Name (PySem.Str.ofString "first") _] _ _) _ _ _) _ _ _) _) _ _ _); (fail_if_success (have : Mine.NoStop := by assumption)); refine Mine.stop ?_))
local macro_rules | `(tactic| walk_at "exec Assign cons ListComp") => `(tactic| refine Mine.stop ?_)
local macro_rules | `(tactic| walk_at "eval Name") => `(tactic| (k_here; k_dflt (refine' Mine.ldC ?N ?c ?m ?d ?_ ?a ?b ?e; (case N => k_asm); (case c => exact rfl); (case m => k_mem); (case d => assumption); (case a => exact rfl); (case b => exact rfl); (case e => decide); k_whole)))
local macro_rules | `(tactic| walk_at "call builtin:sorted") => `(tactic| refine Mine.stop ?_)
local macro_rules | `(tactic| walk_at "eval Name") => `(tactic| (k_here; (with_reducible show wpAny _ _ (eval _ (genEnv _ _ _ _ _ _)) _ _ _); k_dflt (refine' Mine.ldF ?N ?c ?m ?d ?_ ?a ?b ?e ?f; (case N => k_asm); (case c => exact rfl); (case m => k_mem); (case d => assumption); (case a => exact rfl); (case b => exact rfl); (case e => decide); (case f => decide); k_whole)))
local macro_rules | `(tactic| walk_at "eval UnaryOp") => `(tactic| ((with_reducible show wpAny _ _ (eval _ (genEnv _ _ _ _ _ _)) _ _ _); with_reducible refine UnaryOp_ ?_))
local macro_rules | `(tactic| walk_at "eval Lambda") => `(tactic| refine Mine.stop ?_)
theorem Mine.off3 : True := by w_top off; trivial
-- P03_pure
namespace Mine
theorem S_cps (l : List Nat) : (S l).cps.toList = l := rfl
theorem S_of (x : Str) : S x.cps.toList = x := by cases x; simp [S]
theorem S_len (l : List Nat) : (S l).length = l.length := by simp [S, Str.length]
theorem S_app (a b : List Nat) : S a ++ S b = S (a ++ b) := Str.ext' (by simp [S, Str.cps_append])
theorem S_inj {a b : List Nat} (h : S a = S b) : a = b := by rw [← S_cps a, h, S_cps]
theorem S_eq {a b : List Nat} : S a = S b ↔ a = b := ⟨S_inj, fun h => by rw [h]⟩
theorem len_0 : (Str.ofString "").length = 0 := by decide
theorem len_1 : (Str.ofString "[").length = 1 := by decide
theorem len_2 : (Str.ofString "]").length = 1 := by decide
theorem len_3 : (Str.ofString "(").length = 1 := by decide
theorem len_4 : (Str.ofString ")").length = 1 := by decide
theorem len_5 : (Str.ofString "|").length = 1 := by decide
theorem len_6 : (Str.ofString "?").length = 1 := by decide
theorem len_7 : (Str.ofString "\\").length = 1 := by decide
theorem len_8 : (Str.ofString "(?:").length = 3 := by decide
theorem lit_0 : Str.ofString "" = S [] := by decide
theorem lit_1 : Str.ofString "[" = S [91] := by decide
theorem lit_2 : Str.ofString "]" = S [93] := by decide
theorem lit_3 : Str.ofString "(" = S [40] := by decide
theorem lit_4 : Str.ofString ")" = S [41] := by decide
theorem lit_5 : Str.ofString "|" = S [124] := by decide
theorem lit_6 : Str.ofString "?" = S [63] := by decide
theorem lit_7 : Str.ofString "\\" = S [92] := by decide
theorem lit_8 : Str.ofString "(?:" = S [40, 63, 58] := by decide
theorem noneOne (x : Str) (c : Nat) : (Builtin.Str.occurrences x (S [c]) 0 x.length 1).isEmpty = !decide (c ∈ x.cps.toList) := by
  rw [← StrLaws.found_one, Bool.not_not]; rfl
theorem strsAre_map {vs : List Value} {ys : List Str} (h : StrsAre vs ys) : ∃ xs : List (List Nat), ys = xs.map S ∧ StrsAre vs (xs.map S) := by
  have e : (ys.map (·.cps.toList)).map S = ys := by
    rw [List.map_map]
    exact (List.map_congr_left fun a _ => S_of a).trans (List.map_id _)
  exact ⟨ys.map (·.cps.toList), e.symm, by rw [e]; exact h⟩
theorem join_S : ∀ l : List (List Nat), Txt.join (Str.ofString "") (l.map S) = S l.flatten
  | [] => rfl
  | [x] => by
    show (⟨(S x).cps⟩ : Str) = _
    simp [S]
  | x :: y :: r => by
    have ih := join_S (y :: r)
    have e : ∀ l, Txt.join (Str.ofString "") l = Str.join (Str.ofString "") l := fun l => StrLaws.glued_eq_join _ l
    rw [e] at ih ⊢
    have h2 : Str.join (Str.ofString "") ((x :: y :: r).map S) = S x ++ Str.ofString "" ++ Str.join (Str.ofString "") ((y :: r).map S) := rfl
    rw [h2, ih]
    have h3 : Str.ofString "" = S [] := by decide
    rw [h3, S_app, S_app, List.append_nil]; rfl
theorem sum_le {α : Type} (f : α → Nat) (k : Nat) (h : ∀ a, f a ≤ k) : ∀ l : List α, (l.map f).sum ≤ k * l.length
  | [] => Nat.zero_le _
  | a :: l => by
    have := sum_le f k h l
    have := h a
    simp only [List.map_cons, List.sum_cons, List.length_cons, Nat.mul_succ]; omega

def escSigns : List Nat := [40, 41, 91, 93, 123, 125, 63, 42, 43, 45, 124, 94, 36, 92, 46, 38, 126, 35, 32, 9, 10, 13, 11, 12]
def escC (c : Nat) : List Nat := if c ∈ escSigns then [92, c] else [c]
def escL (x : List Nat) : List Nat := x.flatMap escC
def chSigns : List Nat := [91, 94, 92, 45, 93]
def chC (c : Nat) : List Nat := if c ∈ chSigns then [92, c] else [c]
def charset (xs : List (List Nat)) : List Nat := 91 :: (xs.flatten.flatMap chC ++ [93])
theorem escC_len (c : Nat) : (escC c).length ≤ 2 := by unfold escC; split <;> simp
theorem chC_len (c : Nat) : (chC c).length ≤ 2 := by unfold chC; split <;> simp
theorem flat_len (f : Nat → List Nat) (h : ∀ c, (f c).length ≤ 2) : ∀ x : List Nat, (x.flatMap f).length ≤ 2 * x.length
  | [] => Nat.le_refl _
  | a :: x => by
    have := flat_len f h x
    have := h a
    simp only [List.flatMap_cons, List.length_append, List.length_cons]; omega
theorem escL_len (x : List Nat) : (escL x).length ≤ 2 * x.length := flat_len _ escC_len x

def lcp : List Nat → List Nat → List Nat
  | a :: x, b :: y => if a = b then a :: lcp x y else []
  | _, _ => []
/-- the longest start that all have -/
def cpAll : List (List Nat) → List Nat
  | [] => []
  | x :: xs => xs.foldl lcp x

def cls (p : List Nat) : List Nat := if p = [] then [] else [41]
def opn : List Nat := [40, 63, 58]

theorem lt_irr (a : List Nat) : ¬ a < a := List.lt_irrefl a
def srt (xs : List (List Nat)) : List (List Nat) := xs.mergeSort (fun a b => decide (¬ b < a))

/-- regex_opt_inner, upon a rising list -/
def roi : Nat → List (List Nat) → List Nat → List Nat
  | 0, _, _ => []
  | _ + 1, [], _ => []
  | _ + 1, [x], p => p ++ escL x ++ cls p
  | n + 1, x :: y :: r, p =>
    if x = [] then p ++ roi n (y :: r) opn ++ [63] ++ cls p
    else if x.length = 1 ∧ 1 < ((x :: y :: r).filter fun s => s.length = 1).length then
      (if (x :: y :: r).filter (fun s => s.length ≠ 1) = [] then p ++ charset ((x :: y :: r).filter fun s => s.length = 1) ++ cls p
       else p ++ roi n ((x :: y :: r).filter fun s => s.length ≠ 1) [] ++ [124] ++ charset ((x :: y :: r).filter fun s => s.length = 1) ++ cls p)
    else if cpAll (x :: y :: r) ≠ [] then p ++ escL (cpAll (x :: y :: r)) ++ roi n ((x :: y :: r).map fun s => s.drop (cpAll (x :: y :: r)).length) opn ++ cls p
    else if cpAll ((x :: y :: r).map List.reverse) ≠ [] then
      p ++ roi n (srt ((x :: y :: r).map fun s => s.take (s.length - (cpAll ((x :: y :: r).map List.reverse)).length))) opn ++ escL (cpAll ((x :: y :: r).map List.reverse)).reverse ++ cls p
    else p ++ (roi n ((x :: y :: r).filter fun s => s.head? = x.head?) [] ++ [124] ++ roi n ((x :: y :: r).filter fun s => s.head? ≠ x.head?) []) ++ cls p

def msr (xs : List (List Nat)) : Nat := (xs.map fun x => x.length + 1).sum
theorem len_le_msr : ∀ xs : List (List Nat), xs.length ≤ msr xs
  | [] => Nat.le_refl _
  | a :: r => by
    have := len_le_msr r
    simp only [msr, List.map_cons, List.sum_cons, List.length_cons] at *
    omega
theorem mem_le_msr {x : List Nat} : ∀ {xs : List (List Nat)}, x ∈ xs → x.length + 1 ≤ msr xs
  | a :: r, h => by
    simp only [msr, List.map_cons, List.sum_cons]
    rcases List.mem_cons.mp h with rfl | h
    · omega
    · have := mem_le_msr h
      simp only [msr] at this
      omega
end Mine
end
section
local macro_rules | `(tactic| walk_at "M none") => `(tactic| skip)
local macro_rules | `(tactic| walk_at "M none") => `(tactic| skip)
local macro_rules | `(tactic| walk_at "M enterB") => `(tactic| (k_dflt (refine' Mine.enterB ?h1 ?h2 ?k1 ?k2 ?h3 ?k6 ?k7 ?k8 ?k9 ?kB ?_ ?c2 ?c3 ?c4 ?c5; (case k1 => k_asm); (case k2 => k_asm); (case k6 => k_is); (case k7 => k_is); (case k8 => ktr_room); (case k9 => exact BindsTo.of_eq rfl); (case c5 => decide); (case kB => exact locs rfl); (case c2 => exact rfl); (case c3 => exact rfl); (case c4 => exact rfl); k_whole)))
local macro_rules | `(tactic| walk_at "M enter") => `(tactic| (k_dflt (refine' Mine.enterK ?k1 ?k2 ?k6 ?k7 ?k8 ?k9 ?kB ?_ ?c2 ?c3 ?c4 ?c5; (case k1 => k_asm); (case k2 => k_asm); (case k6 => k_is); (case k7 => k_is); (case k8 => ktr_room); (case k9 => exact BindsTo.of_eq rfl); (case c5 => decide); (case kB => exact locs rfl); (case c2 => exact rfl); (case c3 => exact rfl); (case c4 => exact rfl); k_whole)))
local macro_rules | `(tactic| walk_at "M enterH") => `(tactic| ((case k1 => k_dflt k_asm); (case k2 => k_dflt k_asm); (case k6 => k_dflt k_is); (case k7 => k_dflt k_is); (case k8 => k_dflt ktr_room); (case k9 => k_dflt (first | exact BindsTo.of_eq rfl | exact binds_K (by assumption) rfl (by k_is) rfl rfl rfl)); (case c5 => decide); (case kB => k_dflt (exact locs rfl)); (case c2 => k_dflt (exact rfl)); (case c3 => k_dflt (exact rfl)); (case c4 => k_dflt (exact rfl))))
local macro_rules | `(tactic| walk_at "M list") => `(tactic| first | (refine' Mine.isL_news ?N ?m; (case N => assumption); (case m => k_mem)) | (refine' Mine.isL_base ?F ?l; (case F => assumption); (case l => assumption)) | assumption)
local macro_rules | `(tactic| walk_at "eval Name") => `(tactic| (k_here; k_dflt (refine' Mine.ldG ?F ?v ?_ ?a ?b ?c; (case F => k_asm); (case v => first | assumption | exact rfl); (case a => exact rfl); (case b => exact rfl); (case c => decide); k_whole)))
local macro_rules | `(tactic| walk_at "eval Name") => `(tactic| (k_here; k_dflt (refine' nameG_K ?F ?X ?T ?e ?_ ?g ?k ?x ?d; (case F => k_asm); (case X => k_asm); (case T => k_asm); (case e => k_is); (case g => exact rfl); (case k => exact rfl); (case x => exact rfl); (case d => decide); k_whole)))
local macro_rules | `(tactic| walk_at "eval Name") => `(tactic| (k_here; k_dflt (refine' Mine.nameG_B ?F ?X ?T ?e ?v ?n ?_ ?g ?gb ?k ?x ?d; (case F => k_asm); (case X => k_asm); (case T => k_asm); (case e => k_is); (case v => boot_by_name); (case n => decide); (case g => exact rfl); (case gb => exact rfl); (case k => exact rfl); (case x => exact rfl); (case d => decide); k_whole)))
local macro_rules | `(tactic| walk_at "eval ListComp") => `(tactic| refine Mine.stop ?_)
local macro_rules | `(tactic| walk_at "eval GeneratorExp") => `(tactic| refine Mine.stop ?_)
local macro_rules | `(tactic| walk_at "exec For") => `(tactic| refine Mine.stop ?_)
local macro_rules | `(tactic| walk_at "exec While") => `(tactic| refine Mine.stop ?_)
local macro_rules | `(tactic| walk_at "call ref") => `(tactic| ((fail_if_success (have : Mine.NoStop := by assumption)); refine Mine.stop ?_))
local macro_rules | `(tactic| walk_at "call builtin:str.join") => `(tactic| refine Mine.stop ?_)
local macro_rules | `(tactic| walk_at "binaryOp Add str str") => `(tactic| refine Mine.stop ?_)
local macro_rules | `(tactic| walk_at "truthy ref") => `(tactic| refine Mine.stop ?_)
local macro_rules | `(tactic| walk_at "subscriptTail") => `(tactic| ((with_reducible show wpAny _ _ (subscriptTail _ _ (Value.ref _) _) _ _ _); refine Mine.stop ?_))
local macro_rules | `(tactic| walk_at "call builtin:min") => `(tactic| ((with_reducible show wpAny _ _ (call _ [Value.ref _]) _ _ _); refine Mine.stop ?_))
local macro_rules | `(tactic| walk_at "call builtin:max") => `(tactic| ((with_reducible show wpAny _ _ (call _ [Value.ref _]) _ _ _); refine Mine.stop ?_))
local macro_rules | `(tactic| walk_at "call type:enumerate") => `(tactic| refine Mine.stop ?_)
local macro_rules | `(tactic| walk_at "exec For Name Name cons nil") => `(tactic| refine Mine.stop ?_)
local macro_rules | `(tactic| walk_at "exec For Name Call cons nil") => `(tactic| refine Mine.stop ?_)
local macro_rules | `(tactic| walk_at "exec For Tuple Name cons nil") => `(tactic| refine Mine.stop ?_)
local macro_rules | `(tactic| walk_at "exec For Tuple Call cons nil") => `(tactic| refine Mine.stop ?_)
local macro_rules | `(tactic| walk_at "exec For Name Subscript cons nil") => `(tactic| refine Mine.stop ?_)
local macro_rules | `(tactic| walk_at "exec While BoolOp cons nil") => `(tactic| refine Mine.stop ?_)
local macro_rules | `(tactic| walk_at "exec While Compare cons nil") => `(tactic| refine Mine.stop ?_)
local macro_rules | `(tactic| walk_at "exec While Constant cons nil") => `(tactic| refine Mine.stop ?_)
local macro_rules | `(tactic| walk_at "Exists") => `(tactic| refine Mine.stop ?_)
local macro_rules | `(tactic| walk_at "And") => `(tactic| refine Mine.stop ?_)
local macro_rules | `(tactic| walk_at "binaryOp Add str str") => `(tactic| (with_reducible (refine' Mine.addS ?_ ?sz); (case sz => k_dflt (first | assumption | ((try simp only [Mine.S_len, Mine.len_1, Mine.len_2, Mine.len_3, Mine.len_4, Mine.len_5, Mine.len_6, Mine.len_7, Mine.len_8, Mine.len_0, List.length_append, List.length_cons, List.length_nil, Str.length_append]); omega))); intro _ _))
local macro_rules | `(tactic| walk_at "truthy ref") => `(tactic| (with_reducible (refine' Mine.truthL ?hl ?hf ?_); (case hl => k_dflt (walk_at "M list")); (case hf => ((try simp only [List.length_append, List.length_cons, List.length_nil]); omega)); intro _))
local macro_rules | `(tactic| walk_at "call builtin:len") => `(tactic| ((with_reducible show wpAny _ _ (call _ [Value.ref _]) _ _ _); with_reducible (refine' Mine.lenL ?hl ?hf ?_); (case hl => k_dflt (walk_at "M list")); (case hf => ((try simp only [List.length_append, List.length_cons, List.length_nil]); omega)); intro _ _))
local macro_rules | `(tactic| walk_at "M steps") => `(tactic| repeat' (first | (k_unfold; (try dsimp only)) | walk1 | (dsimp only; walk1)))
local macro_rules | `(tactic| walk_at "M go") => `(tactic| refine Mine.go ?_)
local macro_rules | `(tactic| walk_at "callWith") => `(tactic| ((with_reducible show wpAny _ _ (callWith _ (Value.builtin _) (_ :: _) (backTo _ (starEach (_ :: _) _)) []) _ _ _); refine' Mine.cwM ?k1 ?k2 ?_; (case k1 => k_dflt (exact rfl)); (case k2 => k_dflt (exact rfl))))
local macro_rules | `(tactic| walk_at "callWith") => `(tactic| ((with_reducible show wpAny _ _ (callWith _ (Value.builtin _) [] (backTo _ (starEach (_ :: _) _)) []) _ _ _); refine' Mine.cwB ?k1 ?k2 ?_; (case k1 => k_dflt (exact rfl)); (case k2 => k_dflt (exact rfl))))
local macro_rules | `(tactic| walk_at "subscriptTail Name Name str int") => `(tactic| (with_reducible (refine' Mine.itemS ?h0 ?h1 ?hz ?_ ?hs ?ht); (case h0 => k_dflt omega); (case h1 => k_dflt omega); (case hz => k_dflt ((try simp only [List.length_append, List.length_take, List.length_drop, List.length_cons, List.length_nil]); omega)); (case hs => with_unfolding_all rfl); (case ht => (intro _; with_unfolding_all rfl)); intro _ _))
local macro_rules | `(tactic| walk_at "subscriptTail Name Constant str int") => `(tactic| (with_reducible (refine' Mine.itemS ?h0 ?h1 ?hz ?_ ?hs ?ht); (case h0 => k_dflt omega); (case h1 => k_dflt omega); (case hz => k_dflt ((try simp only [List.length_append, List.length_take, List.length_drop, List.length_cons, List.length_nil]); omega)); (case hs => with_unfolding_all rfl); (case ht => (intro _; with_unfolding_all rfl)); intro _ _))
local macro_rules | `(tactic| walk_at "subscriptTail Name Call str int") => `(tactic| (with_reducible (refine' Mine.itemS ?h0 ?h1 ?hz ?_ ?hs ?ht); (case h0 => k_dflt omega); (case h1 => k_dflt omega); (case hz => k_dflt ((try simp only [List.length_append, List.length_take, List.length_drop, List.length_cons, List.length_nil]); omega)); (case hs => with_unfolding_all rfl); (case ht => (intro _; with_unfolding_all rfl)); intro _ _))
local macro_rules | `(tactic| walk_at "subscriptTail Name Slice str ref") => `(tactic| (with_reducible (refine' Mine.cutS_rev ?F ?N  ?hz ?_ ?hs ?ht); (case F => k_dflt k_asm); (case N => k_dflt k_asm); (case hz => k_dflt ((try simp only [List.length_append, List.length_take, List.length_drop, List.length_cons, List.length_nil]); omega)); (case hs => with_unfolding_all rfl); (case ht => (intro _; with_unfolding_all rfl)); intro _ _ _ _ _ _))
local macro_rules | `(tactic| walk_at "subscriptTail Name Slice str ref") => `(tactic| (with_reducible (refine' Mine.cutS_mid ?F ?N ?h0 ?h1 ?hz ?_ ?hs ?ht); (case F => k_dflt k_asm); (case N => k_dflt k_asm); (case h0 => k_dflt omega); (case h1 => k_dflt omega); (case hz => k_dflt ((try simp only [List.length_append, List.length_take, List.length_drop, List.length_cons, List.length_nil]); omega)); (case hs => with_unfolding_all rfl); (case ht => (intro _; with_unfolding_all rfl)); intro _ _ _ _ _ _))
local macro_rules | `(tactic| walk_at "subscriptTail Name Slice str ref") => `(tactic| (with_reducible (refine' Mine.cutS_from ?F ?N ?h0 ?hz ?_ ?hs ?ht); (case F => k_dflt k_asm); (case N => k_dflt k_asm); (case h0 => k_dflt omega); (case hz => k_dflt ((try simp only [List.length_append, List.length_take, List.length_drop, List.length_cons, List.length_nil]); omega)); (case hs => with_unfolding_all rfl); (case ht => (intro _; with_unfolding_all rfl)); intro _ _ _ _ _ _))
local macro_rules | `(tactic| walk_at "subscriptTail Name Slice str ref") => `(tactic| (with_reducible (refine' Mine.cutS_neg ?F ?N ?h0 ?hz ?_ ?hs ?ht); (case F => k_dflt k_asm); (case N => k_dflt k_asm); (case h0 => k_dflt omega); (case hz => k_dflt ((try simp only [List.length_append, List.length_take, List.length_drop, List.length_cons, List.length_nil]); omega)); (case hs => with_unfolding_all rfl); (case ht => (intro _; with_unfolding_all rfl)); intro _ _ _ _ _ _))
local macro_rules | `(tactic| walk_at "subscriptTail Name Slice str ref") => `(tactic| (with_reducible (refine' Mine.cutS_to ?F ?N ?h0 ?hz ?_ ?hs ?ht); (case F => k_dflt k_asm); (case N => k_dflt k_asm); (case h0 => k_dflt omega); (case hz => k_dflt ((try simp only [List.length_append, List.length_take, List.length_drop, List.length_cons, List.length_nil]); omega)); (case hs => with_unfolding_all rfl); (case ht => (intro _; with_unfolding_all rfl)); intro _ _ _ _ _ _))
local macro_rules | `(tactic| walk_at "M keep") => `(tactic| (refine' Or.inr ⟨?km, Mine.nin ?kn⟩; (case km => k_mem); (case kn => k_all)))
local macro_rules | `(tactic| walk_at "getMethod ref") => `(tactic| (k_here; (with_reducible show wpAny _ _ (getMethod (Value.ref _) (PySem.Str.ofString "_keyfunc") _) _ _ _); k_dflt (refine' Mine.method_slot ?k1 ?k2 ?k3 ?k4 ?k5 ?k6 ?k7 ?k8 ?k9 ?k9b ?k10 ?k11 ?_; (case k1 => k_asm); (case k2 => k_asm); (case k3 => k_inst); (case k4 => k_is); (case k5 => k_is); (case k6 => k_is); (case k7 => k_is); (case k8 => k_is); (case k9 => k_is); (case k9b => k_is); (case k10 => k_slotget); (case k11 => k_handed); k_whole)))
local macro_rules | `(tactic| walk_at "callWith ref") => `(tactic| (k_here; (with_reducible show wpAny _ _ (callWith _ _ _ (backTo _ (starEach [] _)) []) _ _ _); k_dflt (with_reducible refine' callWith_K0 ?k1 ?k2 ?_; (case k1 => k_in); (case k2 => k_is); k_whole)))
local macro_rules | `(tactic| walk_at "M enterC") => `(tactic| ((case k1 => k_dflt k_asm); (case k2 => k_dflt k_asm); (case k6 => k_dflt k_is); (case k7 => k_dflt k_is); (case k8 => k_dflt ktr_room); (case k9 => k_dflt (first | exact BindsTo.of_eq rfl | exact binds_K (by assumption) rfl (by k_is) rfl rfl rfl)); (case kB => k_dflt (exact kindsX rfl)); (case kD => decide +kernel); (case c2 => k_dflt (exact rfl)); (case c3 => k_dflt (exact rfl)); (case c4 => k_dflt (exact rfl))))
local macro_rules | `(tactic| walk_at "subscriptTail Name Constant ref int") => `(tactic| ((refine' Mine.atL ?hl ?h0 ?h1 ?hx ?_ ?hs); (case hl => k_dflt (walk_at "M list")); (case h0 => decide); (case h1 => decide); (case hx => rfl); (case hs => with_unfolding_all rfl)))
local macro_rules | `(tactic| walk_at "subscriptTail Name Slice ref ref") => `(tactic| ((refine' Mine.cutL ?F ?N ?hl ?h0 ?hz ?_ ?hs ?ht); (case F => k_dflt k_asm); (case N => k_dflt k_asm); (case hl => k_dflt (walk_at "M list")); (case h0 => decide); (case hz => k_dflt ((try simp only [List.length_append, List.length_cons, List.length_nil] at *); omega)); (case hs => with_unfolding_all rfl); (case ht => (intro _; with_unfolding_all rfl)); intro _ _ _ _ l1; (try k_lt l1)))
local macro_rules | `(tactic| walk_at "truthy ref") => `(tactic| (with_reducible (refine' Mine.truthCons ?hl ?hf ?_); (case hl => k_dflt (walk_at "M list")); (case hf => (k_dflt ((try simp only [List.length_nil, List.length_cons]); omega))); intro _))
local macro_rules | `(tactic| walk_at "truthy ref") => `(tactic| (with_reducible (refine' Mine.truthNil ?hl ?_); (case hl => k_dflt (walk_at "M list")); intro _))
local macro_rules | `(tactic| walk_at "truthy str") => `(tactic| (with_reducible (refine' Mine.truthS ?hz ?_); (case hz => k_dflt ((try simp only [List.length_append, List.length_take, List.length_drop, List.length_cons, List.length_nil]); omega)); intro _))
local macro_rules | `(tactic| walk_at "call builtin:len") => `(tactic| ((with_reducible show wpAny _ _ (call _ [Value.str _ _]) _ _ _); with_reducible (refine' Mine.lenS ?hz ?_); (case hz => k_dflt ((try simp only [List.length_append, List.length_take, List.length_drop, List.length_cons, List.length_nil]); omega)); intro _ _))
local macro_rules | `(tactic| walk_at "exec If") => `(tactic| ((with_reducible show wpAny _ _ (exec (Stmt.If (Expr.Compare (Expr.Call _ [Expr.Name (PySem.Str.ofString "first") _] _ _) _ _ _) _ _ _) _) _ _ _); (fail_if_success (have : Mine.NoStop := by assumption)); refine Mine.stop ?_))
local macro_rules | `(tactic| walk_at "exec Assign cons ListComp") => `(tactic| refine Mine.stop ?_)
local macro_rules | `(tactic| walk_at "eval Name") => `(tactic| (k_here; k_dflt (refine' Mine.ldC ?N ?c ?m ?d ?_ ?a ?b ?e; (case N => k_asm); (case c => exact rfl); (case m => k_mem); (case d => assumption); (case a => exact rfl); (case b => exact rfl); (case e => decide); k_whole)))
local macro_rules | `(tactic| walk_at "call builtin:sorted") => `(tactic| refine Mine.stop ?_)
local macro_rules | `(tactic| walk_at "eval Name") => `(tactic| (k_here; (with_reducible show wpAny _ _ (eval _ (genEnv _ _ _ _ _ _)) _ _ _); k_dflt (refine' Mine.ldF ?N ?c ?m ?d ?_ ?a ?b ?e ?f; (case N => k_asm); (case c => exact rfl); (case m => k_mem); (case d => assumption); (case a => exact rfl); (case b => exact rfl); (case e => decide); (case f => decide); k_whole)))
local macro_rules | `(tactic| walk_at "eval UnaryOp") => `(tactic| ((with_reducible show wpAny _ _ (eval _ (genEnv _ _ _ _ _ _)) _ _ _); with_reducible refine UnaryOp_ ?_))
local macro_rules | `(tactic| walk_at "eval Lambda") => `(tactic| refine Mine.stop ?_)
theorem Mine.off4 : True := by w_top off; trivial
-- P03b_ops
namespace Mine
open Builtin.Str
theorem cut_S (l : List Nat) {lo hi : Option Int} {a b : Nat} (hab : a ≤ b) (hb : b ≤ l.length)
    (e : strSliceIndices lo hi 1 l.length = strSliceIndices (some (a : Int)) (some (b : Int)) 1 l.length) : Txt.slice (S l) lo hi = S ((l.drop a).take (b - a)) := by
  have h : Txt.slice (S l) lo hi = StrLaws.sliceText (S l) (some (a : Int)) (some (b : Int)) := by
    show StrLaws.sliceText (S l) lo hi = _
    unfold StrLaws.sliceText
    rw [S_len, e]
  rw [h, StrLaws.sliceText_nat (S l) hab (by rw [S_len]; exact hb)]
  rfl
theorem cut_to (l : List Nat) {j : Int} (h0 : 0 ≤ j) : Txt.slice (S l) none (some j) = S (l.take j.toNat) := by
  rw [cut_S l (a := 0) (b := min j.toNat l.length) (Nat.zero_le _) (Nat.min_le_right ..)]
  · rw [List.drop_zero, Nat.sub_zero]
    congr 1
    by_cases h : j.toNat ≤ l.length
    · rw [Nat.min_eq_left h]
    · rw [Nat.min_eq_right (by omega), List.take_length, List.take_of_length_le (by omega)]
  · have a1 : ¬ j < 0 := by omega
    have a2 : max (0 : Int) (min j (l.length : Int)) = ((min j.toNat l.length : Nat) : Int) := by omega
    have a3 : max (0 : Int) (min ((min j.toNat l.length : Nat) : Int) (l.length : Int)) = ((min j.toNat l.length : Nat) : Int) := by omega
    have a4 : ¬ ((min j.toNat l.length : Nat) : Int) < 0 := by omega
    have a5 : max (0 : Int) (min 0 (l.length : Int)) = 0 := by omega
    unfold strSliceIndices
    simp only [a1, a2, a3, a4, a5, if_false, show (1 : Int) > 0 by decide, if_true, Int.ofNat_zero, show ((0 : Nat) : Int) = 0 from rfl, Int.lt_irrefl]
theorem cut_from (l : List Nat) {i : Int} (h0 : 0 ≤ i) : Txt.slice (S l) (some i) none = S (l.drop i.toNat) := by
  rw [cut_S l (a := min i.toNat l.length) (b := l.length) (Nat.min_le_right ..) (Nat.le_refl _)]
  · congr 1
    by_cases h : i.toNat ≤ l.length
    · rw [Nat.min_eq_left h, List.take_of_length_le (by rw [List.length_drop]; exact Nat.le_refl _)]
    · rw [Nat.min_eq_right (by omega), List.drop_length, List.drop_of_length_le (by omega)]; simp
  · have a1 : ¬ i < 0 := by omega
    have a2 : max (0 : Int) (min i (l.length : Int)) = ((min i.toNat l.length : Nat) : Int) := by omega
    have a3 : max (0 : Int) (min ((min i.toNat l.length : Nat) : Int) (l.length : Int)) = ((min i.toNat l.length : Nat) : Int) := by omega
    have a4 : ¬ ((min i.toNat l.length : Nat) : Int) < 0 := by omega
    have a5 : max (0 : Int) (min (l.length : Int) (l.length : Int)) = l.length := by omega
    have a6 : ¬ ((l.length : Int) < 0) := by omega
    unfold strSliceIndices
    simp only [a1, a2, a3, a4, a5, a6, if_false, show (1 : Int) > 0 by decide, if_true]
theorem cut_mid (l : List Nat) {i j : Int} (h0 : 0 ≤ i) (h1 : i ≤ j) : Txt.slice (S l) (some i) (some j) = S ((l.drop i.toNat).take (j - i).toNat) := by
  rw [cut_S l (a := min i.toNat l.length) (b := min j.toNat l.length) (by omega) (Nat.min_le_right ..)]
  · congr 1
    by_cases h : i.toNat ≤ l.length
    · rw [Nat.min_eq_left h]
      by_cases k : j.toNat ≤ l.length
      · rw [Nat.min_eq_left k]; congr 1; omega
      · rw [Nat.min_eq_right (by omega), List.take_of_length_le (by rw [List.length_drop]; exact Nat.le_refl _), List.take_of_length_le (by rw [List.length_drop]; omega)]
    · rw [show min i.toNat l.length = l.length from Nat.min_eq_right (by omega), List.drop_length, List.drop_of_length_le (by omega)]; simp
  · have a1 : ¬ i < 0 := by omega
    have b1 : ¬ j < 0 := by omega
    have a2 : max (0 : Int) (min i (l.length : Int)) = ((min i.toNat l.length : Nat) : Int) := by omega
    have a3 : max (0 : Int) (min ((min i.toNat l.length : Nat) : Int) (l.length : Int)) = ((min i.toNat l.length : Nat) : Int) := by omega
    have a4 : ¬ ((min i.toNat l.length : Nat) : Int) < 0 := by omega
    have b2 : max (0 : Int) (min j (l.length : Int)) = ((min j.toNat l.length : Nat) : Int) := by omega
    have b3 : max (0 : Int) (min ((min j.toNat l.length : Nat) : Int) (l.length : Int)) = ((min j.toNat l.length : Nat) : Int) := by omega
    have b4 : ¬ ((min j.toNat l.length : Nat) : Int) < 0 := by omega
    unfold strSliceIndices
    simp only [a1, a2, a3, a4, b1, b2, b3, b4, if_false, show (1 : Int) > 0 by decide, if_true]
theorem cut_neg (l : List Nat) {j : Int} (h0 : j < 0) : Txt.slice (S l) none (some j) = S (l.take (l.length - (-j).toNat)) := by
  rw [cut_S l (a := 0) (b := l.length - (-j).toNat) (Nat.zero_le _) (Nat.sub_le ..)]
  · rw [List.drop_zero, Nat.sub_zero]
  · have a2 : max (0 : Int) (min (j + l.length) (l.length : Int)) = ((l.length - (-j).toNat : Nat) : Int) := by omega
    have a3 : max (0 : Int) (min ((l.length - (-j).toNat : Nat) : Int) (l.length : Int)) = ((l.length - (-j).toNat : Nat) : Int) := by omega
    have a4 : ¬ ((l.length - (-j).toNat : Nat) : Int) < 0 := by omega
    have a5 : max (0 : Int) (min 0 (l.length : Int)) = 0 := by omega
    unfold strSliceIndices
    simp only [h0, a2, a3, a4, a5, if_false, show (1 : Int) > 0 by decide, if_true, Int.ofNat_zero, show ((0 : Nat) : Int) = 0 from rfl, Int.lt_irrefl]
theorem cut_rev (l : List Nat) (u : Tok) : Txt.sliceBy (S l) none none (-1, u) = S l.reverse := by
  apply Str.ext'
  apply Array.toList_inj.mp
  rw [step_rev_list, S_cps, S_len]
  apply List.ext_getElem
  · simp
  · intro i h1 h2
    have h3 : l.length - 1 - i < l.length := by simp at h1; omega
    simp [S, h3, List.getElem_reverse]
theorem itm (l : List Nat) {i : Int} (h0 : 0 ≤ i) (h1 : i.toNat < l.length) : Txt.item (S l) i = S [l.getD i.toNat 0] := by
  unfold Txt.item Txt.charAt
  have e : seqIndex? i (S l).length = some i.toNat := by rw [S_len]; exact seqIndex_of h0 (by omega)
  rw [e, Option.bind_some]
  have : (S l).cps[i.toNat]? = some l[i.toNat] := by
    show l.toArray[i.toNat]? = _
    simp [h1]
  rw [this, List.getD_eq_getElem?_getD, List.getElem?_eq_getElem h1]
  rfl
section
variable {prog : Program} {w : World} {A : Around} {E : Value → Shared → Prop} {s : Shared} {h₀ : Heap} {L : Addr} {m : Str → Option Value} {news : List (Addr × Obj)} {value slice : Expr} {l : List Nat} {t : Tok} {Q : Value → Shared → Prop}
abbrev SubOk (slice : Expr) (v i : Value) : Prop := subscripted slice false v i = operate [v, i] (getItem v i)
theorem itemS {i : Int} {u : Tok} (h0 : 0 ≤ i) (h1 : i.toNat < l.length) (hz : l.length ≤ 1000000) (h : ∀ t' k, Q (.str (S [l.getD i.toNat 0]) t') { s with toks := k })
    (hs : subscripted slice false (.str (S l) t) (.int i u) = operate [.str (S l) t, .int i u] (getItem (.str (S l) t) (.int i u))) (ht : ∀ r, letTemporaryGo value (.str (S l) t) r = pure ()) :
    wpAny (model prog w) A (subscriptTail value slice (.str (S l) t) (.int i u)) Q E s :=
  item_str (fitsSsize_of (N := 9223372036854775808) (by omega) (by omega) (Int.le_refl _)) (by rw [S_len]; omega) (by rw [S_len]; omega) (fun _ => by rw [itm l h0 h1]; exact h _ _) hs ht
theorem fitS (hz : l.length ≤ 1000000) : (S l).length ≤ sizeLine := by rw [S_len]; exact Nat.le_trans hz (by decide)
theorem sliceExact {x : Str} {k : Int} {uk : Tok} (hk : (k == 0) = false) (h : ∀ t' c, Q (.str (Txt.sliceBy x none none (k, uk)) t') { s with heap := s.heap.push { cls := .type "slice", data := .fields #[.none, .none, .int k uk] }, toks := c })
    (hs : subscripted slice false (.str x t) (.ref s.heap.objs.size) = operate [.ref s.heap.objs.size, .str x t] (getItem (.str x t) (.ref s.heap.objs.size))) (ht : ∀ r, letTemporaryGo value (.str x t) r = pure ()) (hsz : x.length ≤ sizeLine) :
    wpAny (model prog w) A (subscriptTail value slice (.str x t) (.ref s.heap.objs.size)) Q E { s with heap := s.heap.push { cls := .type "slice", data := .fields #[.none, .none, .int k uk] } } :=
  tail_of_ItemOn ⟨"str", _, PySem.F.slot_str_getitem.lookup, typeIs_str _ _ _, wpAny_getItem_str_slice (l := none) (u := none) (st := some (k, uk)) ⟨_, Heap.get?_push_size _ rfl, rfl, rfl⟩ hk
    (post_val_or_str ⟨Nat.le_trans (Txt.sliceBy_le x _ _ (k, uk) (by simpa using hk)) hsz, fun t' c => h t' c⟩)⟩ hs ht
theorem keptK {h₁ : Heap} : KeptH (fun h => (Fr h₀ L h m ∧ News h₀ L h news) ∧ Kp h₁ h) := fun h ob a => ⟨keptFrN h ob a.1, fun b o e => Heap.get?_push_of_some _ (a.2 b o e)⟩
theorem cutS_to {j : Int} {uj : Tok} (F : Fr h₀ L s.heap m) (N : News h₀ L s.heap news) (h0 : 0 ≤ j) (hz : l.length ≤ 1000000) (h : ∀ h' t' k, Fr h₀ L h' m → News h₀ L h' news → Kp s.heap h' → Q (.str (S (l.take j.toNat)) t') { s with heap := h', toks := k })
    (hs : subscripted slice false (.str (S l) t) (.ref s.heap.objs.size) = operate [.ref s.heap.objs.size, .str (S l) t] (getItem (.str (S l) t) (.ref s.heap.objs.size))) (ht : ∀ r, letTemporaryGo value (.str (S l) t) r = pure ()) :
    wpAny (model prog w) A (subscriptTail value slice (.str (S l) t) (.ref s.heap.objs.size)) Q E { s with heap := s.heap.push { cls := .type "slice", data := .fields #[.none, .int j uj, .none] } } :=
  tail_of_ItemOn (SBH.sliceItem_ns keptK ⟨⟨F, N⟩, fun _ _ e => e⟩ (fun h' t' k a => by rw [cut_to l h0]; exact h h' t' k a.1.1 a.1.2 a.2) (fitS hz)) hs ht
theorem cutS_neg {j : Int} {uj : Tok} (F : Fr h₀ L s.heap m) (N : News h₀ L s.heap news) (h0 : j < 0) (hz : l.length ≤ 1000000) (h : ∀ h' t' k, Fr h₀ L h' m → News h₀ L h' news → Kp s.heap h' → Q (.str (S (l.take (l.length - (-j).toNat))) t') { s with heap := h', toks := k })
    (hs : subscripted slice false (.str (S l) t) (.ref s.heap.objs.size) = operate [.ref s.heap.objs.size, .str (S l) t] (getItem (.str (S l) t) (.ref s.heap.objs.size))) (ht : ∀ r, letTemporaryGo value (.str (S l) t) r = pure ()) :
    wpAny (model prog w) A (subscriptTail value slice (.str (S l) t) (.ref s.heap.objs.size)) Q E { s with heap := s.heap.push { cls := .type "slice", data := .fields #[.none, .int j uj, .none] } } :=
  tail_of_ItemOn (SBH.sliceItem_ns keptK ⟨⟨F, N⟩, fun _ _ e => e⟩ (fun h' t' k a => by rw [cut_neg l h0]; exact h h' t' k a.1.1 a.1.2 a.2) (fitS hz)) hs ht
theorem cutS_from {i : Int} {ui : Tok} (F : Fr h₀ L s.heap m) (N : News h₀ L s.heap news) (h0 : 0 ≤ i) (hz : l.length ≤ 1000000) (h : ∀ h' t' k, Fr h₀ L h' m → News h₀ L h' news → Kp s.heap h' → Q (.str (S (l.drop i.toNat)) t') { s with heap := h', toks := k })
    (hs : subscripted slice false (.str (S l) t) (.ref s.heap.objs.size) = operate [.ref s.heap.objs.size, .str (S l) t] (getItem (.str (S l) t) (.ref s.heap.objs.size))) (ht : ∀ r, letTemporaryGo value (.str (S l) t) r = pure ()) :
    wpAny (model prog w) A (subscriptTail value slice (.str (S l) t) (.ref s.heap.objs.size)) Q E { s with heap := s.heap.push { cls := .type "slice", data := .fields #[.int i ui, .none, .none] } } :=
  tail_of_ItemOn (SBH.sliceItem_sn keptK ⟨⟨F, N⟩, fun _ _ e => e⟩ (fun h' t' k a => by rw [cut_from l h0]; exact h h' t' k a.1.1 a.1.2 a.2) (fitS hz)) hs ht
theorem cutS_mid {i j : Int} {ui uj : Tok} (F : Fr h₀ L s.heap m) (N : News h₀ L s.heap news) (h0 : 0 ≤ i) (h1 : i ≤ j) (hz : l.length ≤ 1000000) (h : ∀ h' t' k, Fr h₀ L h' m → News h₀ L h' news → Kp s.heap h' → Q (.str (S ((l.drop i.toNat).take (j - i).toNat)) t') { s with heap := h', toks := k })
    (hs : subscripted slice false (.str (S l) t) (.ref s.heap.objs.size) = operate [.ref s.heap.objs.size, .str (S l) t] (getItem (.str (S l) t) (.ref s.heap.objs.size))) (ht : ∀ r, letTemporaryGo value (.str (S l) t) r = pure ()) :
    wpAny (model prog w) A (subscriptTail value slice (.str (S l) t) (.ref s.heap.objs.size)) Q E { s with heap := s.heap.push { cls := .type "slice", data := .fields #[.int i ui, .int j uj, .none] } } :=
  tail_of_ItemOn (SBH.sliceItem_ss keptK ⟨⟨F, N⟩, fun _ _ e => e⟩ (fun h' t' k a => by rw [cut_mid l h0 h1]; exact h h' t' k a.1.1 a.1.2 a.2) (fitS hz)) hs ht
theorem cutS_rev {uk : Tok} (F : Fr h₀ L s.heap m) (N : News h₀ L s.heap news) (hz : l.length ≤ 1000000) (h : ∀ h' t' k, Fr h₀ L h' m → News h₀ L h' news → Kp s.heap h' → Q (.str (S l.reverse) t') { s with heap := h', toks := k })
    (hs : subscripted slice false (.str (S l) t) (.ref s.heap.objs.size) = operate [.ref s.heap.objs.size, .str (S l) t] (getItem (.str (S l) t) (.ref s.heap.objs.size))) (ht : ∀ r, letTemporaryGo value (.str (S l) t) r = pure ()) :
    wpAny (model prog w) A (subscriptTail value slice (.str (S l) t) (.ref s.heap.objs.size)) Q E { s with heap := s.heap.push { cls := .type "slice", data := .fields #[.none, .none, .int (-1) uk] } } :=
  sliceExact (k := -1) (by decide) (fun t' c => by rw [cut_rev l]; exact h _ t' c (keptFrN _ _ ⟨F, N⟩).1 (keptFrN _ _ ⟨F, N⟩).2 fun _ _ e => Heap.get?_push_of_some _ e) hs ht (fitS hz)
end
end Mine
end
section
local macro_rules | `(tactic| walk_at "M none") => `(tactic| skip)
local macro_rules | `(tactic| walk_at "M none") => `(tactic| skip)
local macro_rules | `(tactic| walk_at "M none") => `(tactic| skip)
local macro_rules | `(tactic| walk_at "M enterB") => `(tactic| (k_dflt (refine' Mine.enterB ?h1 ?h2 ?k1 ?k2 ?h3 ?k6 ?k7 ?k8 ?k9 ?kB ?_ ?c2 ?c3 ?c4 ?c5; (case k1 => k_asm); (case k2 => k_asm); (case k6 => k_is); (case k7 => k_is); (case k8 => ktr_room); (case k9 => exact BindsTo.of_eq rfl); (case c5 => decide); (case kB => exact locs rfl); (case c2 => exact rfl); (case c3 => exact rfl); (case c4 => exact rfl); k_whole)))
local macro_rules | `(tactic| walk_at "M enter") => `(tactic| (k_dflt (refine' Mine.enterK ?k1 ?k2 ?k6 ?k7 ?k8 ?k9 ?kB ?_ ?c2 ?c3 ?c4 ?c5; (case k1 => k_asm); (case k2 => k_asm); (case k6 => k_is); (case k7 => k_is); (case k8 => ktr_room); (case k9 => exact BindsTo.of_eq rfl); (case c5 => decide); (case kB => exact locs rfl); (case c2 => exact rfl); (case c3 => exact rfl); (case c4 => exact rfl); k_whole)))
local macro_rules | `(tactic| walk_at "M enterH") => `(tactic| ((case k1 => k_dflt k_asm); (case k2 => k_dflt k_asm); (case k6 => k_dflt k_is); (case k7 => k_dflt k_is); (case k8 => k_dflt ktr_room); (case k9 => k_dflt (first | exact BindsTo.of_eq rfl | exact binds_K (by assumption) rfl (by k_is) rfl rfl rfl)); (case c5 => decide); (case kB => k_dflt (exact locs rfl)); (case c2 => k_dflt (exact rfl)); (case c3 => k_dflt (exact rfl)); (case c4 => k_dflt (exact rfl))))
local macro_rules | `(tactic| walk_at "M list") => `(tactic| first | (refine' Mine.isL_news ?N ?m; (case N => assumption); (case m => k_mem)) | (refine' Mine.isL_base ?F ?l; (case F => assumption); (case l => assumption)) | assumption)
local macro_rules | `(tactic| walk_at "eval Name") => `(tactic| (k_here; k_dflt (refine' Mine.ldG ?F ?v ?_ ?a ?b ?c; (case F => k_asm); (case v => first | assumption | exact rfl); (case a => exact rfl); (case b => exact rfl); (case c => decide); k_whole)))
local macro_rules | `(tactic| walk_at "eval Name") => `(tactic| (k_here; k_dflt (refine' nameG_K ?F ?X ?T ?e ?_ ?g ?k ?x ?d; (case F => k_asm); (case X => k_asm); (case T => k_asm); (case e => k_is); (case g => exact rfl); (case k => exact rfl); (case x => exact rfl); (case d => decide); k_whole)))
local macro_rules | `(tactic| walk_at "eval Name") => `(tactic| (k_here; k_dflt (refine' Mine.nameG_B ?F ?X ?T ?e ?v ?n ?_ ?g ?gb ?k ?x ?d; (case F => k_asm); (case X => k_asm); (case T => k_asm); (case e => k_is); (case v => boot_by_name); (case n => decide); (case g => exact rfl); (case gb => exact rfl); (case k => exact rfl); (case x => exact rfl); (case d => decide); k_whole)))
local macro_rules | `(tactic| walk_at "eval ListComp") => `(tactic| refine Mine.stop ?_)
local macro_rules | `(tactic| walk_at "eval GeneratorExp") => `(tactic| refine Mine.stop ?_)
local macro_rules | `(tactic| walk_at "exec For") => `(tactic| refine Mine.stop ?_)
local macro_rules | `(tactic| walk_at "exec While") => `(tactic| refine Mine.stop ?_)
local macro_rules | `(tactic| walk_at "call ref") => `(tactic| ((fail_if_success (have : Mine.NoStop := by assumption)); refine Mine.stop ?_))
local macro_rules | `(tactic| walk_at "call builtin:str.join") => `(tactic| refine Mine.stop ?_)
local macro_rules | `(tactic| walk_at "binaryOp Add str str") => `(tactic| refine Mine.stop ?_)
local macro_rules | `(tactic| walk_at "truthy ref") => `(tactic| refine Mine.stop ?_)
local macro_rules | `(tactic| walk_at "subscriptTail") => `(tactic| ((with_reducible show wpAny _ _ (subscriptTail _ _ (Value.ref _) _) _ _ _); refine Mine.stop ?_))
local macro_rules | `(tactic| walk_at "call builtin:min") => `(tactic| ((with_reducible show wpAny _ _ (call _ [Value.ref _]) _ _ _); refine Mine.stop ?_))
local macro_rules | `(tactic| walk_at "call builtin:max") => `(tactic| ((with_reducible show wpAny _ _ (call _ [Value.ref _]) _ _ _); refine Mine.stop ?_))
local macro_rules | `(tactic| walk_at "call type:enumerate") => `(tactic| refine Mine.stop ?_)
local macro_rules | `(tactic| walk_at "exec For Name Name cons nil") => `(tactic| refine Mine.stop ?_)
local macro_rules | `(tactic| walk_at "exec For Name Call cons nil") => `(tactic| refine Mine.stop ?_)
local macro_rules | `(tactic| walk_at "exec For Tuple Name cons nil") => `(tactic| refine Mine.stop ?_)
local macro_rules | `(tactic| walk_at "exec For Tuple Call cons nil") => `(tactic| refine Mine.stop ?_)
local macro_rules | `(tactic| walk_at "exec For Name Subscript cons nil") => `(tactic| refine Mine.stop ?_)
local macro_rules | `(tactic| walk_at "exec While BoolOp cons nil") => `(tactic| refine Mine.stop ?_)
local macro_rules | `(tactic| walk_at "exec While Compare cons nil") => `(tactic| refine Mine.stop ?_)
local macro_rules | `(tactic| walk_at "exec While Constant cons nil") => `(tactic| refine Mine.stop ?_)
local macro_rules | `(tactic| walk_at "Exists") => `(tactic| refine Mine.stop ?_)
local macro_rules | `(tactic| walk_at "And") => `(tactic| refine Mine.stop ?_)
local macro_rules | `(tactic| walk_at "binaryOp Add str str") => `(tactic| (with_reducible (refine' Mine.addS ?_ ?sz); (case sz => k_dflt (first | assumption | ((try simp only [Mine.S_len, Mine.len_1, Mine.len_2, Mine.len_3, Mine.len_4, Mine.len_5, Mine.len_6, Mine.len_7, Mine.len_8, Mine.len_0, List.length_append, List.length_cons, List.length_nil, Str.length_append]); omega))); intro _ _))
local macro_rules | `(tactic| walk_at "truthy ref") => `(tactic| (with_reducible (refine' Mine.truthL ?hl ?hf ?_); (case hl => k_dflt (walk_at "M list")); (case hf => ((try simp only [List.length_append, List.length_cons, List.length_nil]); omega)); intro _))
local macro_rules | `(tactic| walk_at "call builtin:len") => `(tactic| ((with_reducible show wpAny _ _ (call _ [Value.ref _]) _ _ _); with_reducible (refine' Mine.lenL ?hl ?hf ?_); (case hl => k_dflt (walk_at "M list")); (case hf => ((try simp only [List.length_append, List.length_cons, List.length_nil]); omega)); intro _ _))
local macro_rules | `(tactic| walk_at "M steps") => `(tactic| repeat' (first | (k_unfold; (try dsimp only)) | walk1 | (dsimp only; walk1)))
local macro_rules | `(tactic| walk_at "M go") => `(tactic| refine Mine.go ?_)
local macro_rules | `(tactic| walk_at "callWith") => `(tactic| ((with_reducible show wpAny _ _ (callWith _ (Value.builtin _) (_ :: _) (backTo _ (starEach (_ :: _) _)) []) _ _ _); refine' Mine.cwM ?k1 ?k2 ?_; (case k1 => k_dflt (exact rfl)); (case k2 => k_dflt (exact rfl))))
local macro_rules | `(tactic| walk_at "callWith") => `(tactic| ((with_reducible show wpAny _ _ (callWith _ (Value.builtin _) [] (backTo _ (starEach (_ :: _) _)) []) _ _ _); refine' Mine.cwB ?k1 ?k2 ?_; (case k1 => k_dflt (exact rfl)); (case k2 => k_dflt (exact rfl))))
local macro_rules | `(tactic| walk_at "subscriptTail Name Name str int") => `(tactic| (with_reducible (refine' Mine.itemS ?h0 ?h1 ?hz ?_ ?hs ?ht); (case h0 => k_dflt omega); (case h1 => k_dflt omega); (case hz => k_dflt ((try simp only [List.length_append, List.length_take, List.length_drop, List.length_cons, List.length_nil]); omega)); (case hs => with_unfolding_all rfl); (case ht => (intro _; with_unfolding_all rfl)); intro _ _))
local macro_rules | `(tactic| walk_at "subscriptTail Name Constant str int") => `(tactic| (with_reducible (refine' Mine.itemS ?h0 ?h1 ?hz ?_ ?hs ?ht); (case h0 => k_dflt omega); (case h1 => k_dflt omega); (case hz => k_dflt ((try simp only [List.length_append, List.length_take, List.length_drop, List.length_cons, List.length_nil]); omega)); (case hs => with_unfolding_all rfl); (case ht => (intro _; with_unfolding_all rfl)); intro _ _))
local macro_rules | `(tactic| walk_at "subscriptTail Name Call str int") => `(tactic| (with_reducible (refine' Mine.itemS ?h0 ?h1 ?hz ?_ ?hs ?ht); (case h0 => k_dflt omega); (case h1 => k_dflt omega); (case hz => k_dflt ((try simp only [List.length_append, List.length_take, List.length_drop, List.length_cons, List.length_nil]); omega)); (case hs => with_unfolding_all rfl); (case ht => (intro _; with_unfolding_all rfl)); intro _ _))
local macro_rules | `(tactic| walk_at "subscriptTail Name Slice str ref") => `(tactic| (with_reducible (refine' Mine.cutS_rev ?F ?N  ?hz ?_ ?hs ?ht); (case F => k_dflt k_asm); (case N => k_dflt k_asm); (case hz => k_dflt ((try simp only [List.length_append, List.length_take, List.length_drop, List.length_cons, List.length_nil]); omega)); (case hs => with_unfolding_all rfl); (case ht => (intro _; with_unfolding_all rfl)); intro _ _ _ _ _ _))
local macro_rules | `(tactic| walk_at "subscriptTail Name Slice str ref") => `(tactic| (with_reducible (refine' Mine.cutS_mid ?F ?N ?h0 ?h1 ?hz ?_ ?hs ?ht); (case F => k_dflt k_asm); (case N => k_dflt k_asm); (case h0 => k_dflt omega); (case h1 => k_dflt omega); (case hz => k_dflt ((try simp only [List.length_append, List.length_take, List.length_drop, List.length_cons, List.length_nil]); omega)); (case hs => with_unfolding_all rfl); (case ht => (intro _; with_unfolding_all rfl)); intro _ _ _ _ _ _))
local macro_rules | `(tactic| walk_at "subscriptTail Name Slice str ref") => `(tactic| (with_reducible (refine' Mine.cutS_from ?F ?N ?h0 ?hz ?_ ?hs ?ht); (case F => k_dflt k_asm); (case N => k_dflt k_asm); (case h0 => k_dflt omega); (case hz => k_dflt ((try simp only [List.length_append, List.length_take, List.length_drop, List.length_cons, List.length_nil]); omega)); (case hs => with_unfolding_all rfl); (case ht => (intro _; with_unfolding_all rfl)); intro _ _ _ _ _ _))
local macro_rules | `(tactic| walk_at "subscriptTail Name Slice str ref") => `(tactic| (with_reducible (refine' Mine.cutS_neg ?F ?N ?h0 ?hz ?_ ?hs ?ht); (case F => k_dflt k_asm); (case N => k_dflt k_asm); (case h0 => k_dflt omega); (case hz => k_dflt ((try simp only [List.length_append, List.length_take, List.length_drop, List.length_cons, List.length_nil]); omega)); (case hs => with_unfolding_all rfl); (case ht => (intro _; with_unfolding_all rfl)); intro _ _ _ _ _ _))
local macro_rules | `(tactic| walk_at "subscriptTail Name Slice str ref") => `(tactic| (with_reducible (refine' Mine.cutS_to ?F ?N ?h0 ?hz ?_ ?hs ?ht); (case F => k_dflt k_asm); (case N => k_dflt k_asm); (case h0 => k_dflt omega); (case hz => k_dflt ((try simp only [List.length_append, List.length_take, List.length_drop, List.length_cons, List.length_nil]); omega)); (case hs => with_unfolding_all rfl); (case ht => (intro _; with_unfolding_all rfl)); intro _ _ _ _ _ _))
local macro_rules | `(tactic| walk_at "M keep") => `(tactic| (refine' Or.inr ⟨?km, Mine.nin ?kn⟩; (case km => k_mem); (case kn => k_all)))
local macro_rules | `(tactic| walk_at "getMethod ref") => `(tactic| (k_here; (with_reducible show wpAny _ _ (getMethod (Value.ref _) (PySem.Str.ofString "_keyfunc") _) _ _ _); k_dflt (refine' Mine.method_slot ?k1 ?k2 ?k3 ?k4 ?k5 ?k6 ?k7 ?k8 ?k9 ?k9b ?k10 ?k11 ?_; (case k1 => k_asm); (case k2 => k_asm); (case k3 => k_inst); (case k4 => k_is); (case k5 => k_is); (case k6 => k_is); (case k7 => k_is); (case k8 => k_is); (case k9 => k_is); (case k9b => k_is); (case k10 => k_slotget); (case k11 => k_handed); k_whole)))
local macro_rules | `(tactic| walk_at "callWith ref") => `(tactic| (k_here; (with_reducible show wpAny _ _ (callWith _ _ _ (backTo _ (starEach [] _)) []) _ _ _); k_dflt (with_reducible refine' callWith_K0 ?k1 ?k2 ?_; (case k1 => k_in); (case k2 => k_is); k_whole)))
local macro_rules | `(tactic| walk_at "M enterC") => `(tactic| ((case k1 => k_dflt k_asm); (case k2 => k_dflt k_asm); (case k6 => k_dflt k_is); (case k7 => k_dflt k_is); (case k8 => k_dflt ktr_room); (case k9 => k_dflt (first | exact BindsTo.of_eq rfl | exact binds_K (by assumption) rfl (by k_is) rfl rfl rfl)); (case kB => k_dflt (exact kindsX rfl)); (case kD => decide +kernel); (case c2 => k_dflt (exact rfl)); (case c3 => k_dflt (exact rfl)); (case c4 => k_dflt (exact rfl))))
local macro_rules | `(tactic| walk_at "subscriptTail Name Constant ref int") => `(tactic| ((refine' Mine.atL ?hl ?h0 ?h1 ?hx ?_ ?hs); (case hl => k_dflt (walk_at "M list")); (case h0 => decide); (case h1 => decide); (case hx => rfl); (case hs => with_unfolding_all rfl)))
local macro_rules | `(tactic| walk_at "subscriptTail Name Slice ref ref") => `(tactic| ((refine' Mine.cutL ?F ?N ?hl ?h0 ?hz ?_ ?hs ?ht); (case F => k_dflt k_asm); (case N => k_dflt k_asm); (case hl => k_dflt (walk_at "M list")); (case h0 => decide); (case hz => k_dflt ((try simp only [List.length_append, List.length_cons, List.length_nil] at *); omega)); (case hs => with_unfolding_all rfl); (case ht => (intro _; with_unfolding_all rfl)); intro _ _ _ _ l1; (try k_lt l1)))
local macro_rules | `(tactic| walk_at "truthy ref") => `(tactic| (with_reducible (refine' Mine.truthCons ?hl ?hf ?_); (case hl => k_dflt (walk_at "M list")); (case hf => (k_dflt ((try simp only [List.length_nil, List.length_cons]); omega))); intro _))
local macro_rules | `(tactic| walk_at "truthy ref") => `(tactic| (with_reducible (refine' Mine.truthNil ?hl ?_); (case hl => k_dflt (walk_at "M list")); intro _))
local macro_rules | `(tactic| walk_at "truthy str") => `(tactic| (with_reducible (refine' Mine.truthS ?hz ?_); (case hz => k_dflt ((try simp only [List.length_append, List.length_take, List.length_drop, List.length_cons, List.length_nil]); omega)); intro _))
local macro_rules | `(tactic| walk_at "call builtin:len") => `(tactic| ((with_reducible show wpAny _ _ (call _ [Value.str _ _]) _ _ _); with_reducible (refine' Mine.lenS ?hz ?_); (case hz => k_dflt ((try simp only [List.length_append, List.length_take, List.length_drop, List.length_cons, List.length_nil]); omega)); intro _ _))
local macro_rules | `(tactic| walk_at "exec If") => `(tactic| ((with_reducible show wpAny _ _ (exec (Stmt.If (Expr.Compare (Expr.Call _ [Expr.Name (PySem.Str.ofString "first") _] _ _) _ _ _) _ _ _) _) _ _ _); (fail_if_success (have : Mine.NoStop := by assumption)); refine Mine.stop ?_))
local macro_rules | `(tactic| walk_at "exec Assign cons ListComp") => `(tactic| refine Mine.stop ?_)
local macro_rules | `(tactic| walk_at "eval Name") => `(tactic| (k_here; k_dflt (refine' Mine.ldC ?N ?c ?m ?d ?_ ?a ?b ?e; (case N => k_asm); (case c => exact rfl); (case m => k_mem); (case d => assumption); (case a => exact rfl); (case b => exact rfl); (case e => decide); k_whole)))
local macro_rules | `(tactic| walk_at "call builtin:sorted") => `(tactic| refine Mine.stop ?_)
local macro_rules | `(tactic| walk_at "eval Name") => `(tactic| (k_here; (with_reducible show wpAny _ _ (eval _ (genEnv _ _ _ _ _ _)) _ _ _); k_dflt (refine' Mine.ldF ?N ?c ?m ?d ?_ ?a ?b ?e ?f; (case N => k_asm); (case c => exact rfl); (case m => k_mem); (case d => assumption); (case a => exact rfl); (case b => exact rfl); (case e => decide); (case f => decide); k_whole)))
local macro_rules | `(tactic| walk_at "eval UnaryOp") => `(tactic| ((with_reducible show wpAny _ _ (eval _ (genEnv _ _ _ _ _ _)) _ _ _); with_reducible refine UnaryOp_ ?_))
local macro_rules | `(tactic| walk_at "eval Lambda") => `(tactic| refine Mine.stop ?_)
theorem Mine.off5 : True := by w_top off; trivial
-- P04_strs
namespace Mine
theorem signs_esc : (Str.ofString "()[]{}?*+-|^$\\.&~# \t\n\x0d\x0b\x0c").cps.toList = escSigns := by decide +kernel
theorem signs_ch : (Str.ofString "[^\\-]").cps.toList = chSigns := by decide +kernel
section
variable {w : World} {dp un : Nat} {fr : Option (List Env)} {gd : Option (List Code)} {s : Shared} {Q E : Value → Shared → Prop} {loose : List Str} {mean : ExcName → Option Value} {mg mb : Str → Option Value}
theorem escape_c {x : List Nat} {t : Tok}
  (X : (hd.heap_39 w.params).In s.heap) (T : Top topProg loose mean mg mb s.heap) (hA : dp + 1 < recursionLimit) (hx : x.length ≤ 100000)
  (ret : ∀ h' tk' t, Kp s.heap h' → Q (.str (S (escL x)) t) {s with heap := h', toks := tk'}) :
  wpAny (model PySem.Challenge.rw_ev0005_01.row.prog w) (Ar dp un fr gd) (call (.ref 26) [.str (S x) t]) Q E s := by
  revert X; k_fill; intro X
  walk_at "M enter"
  intro h₁ tk₁ F N
  walk_at "M steps"
  walk_at "M go"
  with_reducible refine' compStr (fun c => S (escC c)) ?c1 ?c2 ?c3 ?c4 ?c5 ?c6 ?_ ?c7
  (case c1 => exact rfl); (case c2 => exact rfl); (case c3 => decide +kernel); (case c4 => exact rfl); (case c5 => decide +kernel); (case c6 => exact rfl); (case c7 => intro _; rfl)
  walk_at "M steps"
  walk_at "M go"
  refine ⟨_, _, rfl, Nat.le_trans hx (by decide), _, _, _, _, F, N, ?_, ?_⟩
  · intro c C u s₃ m₃ E' hc hk FC NC hm
    clear F N
    walk_at "M steps"
    all_goals (rename _ = _ => hb; rw [noneOne, signs_esc] at hb)
    · have hb' : c ∉ escSigns := by simpa using hb
      refine ⟨⟨_, by rw [escC, if_neg hb']⟩, _, _, rfl, fun _ _ e => e⟩
    · have hb' : c ∈ escSigns := by simpa using hb
      refine ⟨⟨_, by rw [lit_7, S_app, escC, if_pos hb']; rfl⟩, _, _, rfl, fun _ _ e => e⟩
  · intro D h' tk' ys n F N hD hys hk
    rw [S_cps, show x.map (fun c => S (escC c)) = (x.map escC).map S by rw [List.map_map]; rfl] at hys
    walk_at "M steps"
    walk_at "M go"
    refine join_listW ⟨_, N.get (.head _), rfl, n, rfl⟩ hys (by decide) ?_ ?_
    · have := sum_le (fun c => (escC c).length) 2 escC_len x
      simp only [List.map_map, List.length_map, Function.comp_def, S_len] at this ⊢
      omega
    · intro t' k
      rw [join_S]
      walk_at "M steps"
      exact ret _ _ _ F.keep
theorem charset_c {l : Addr} {vs : List Value} {xs : List (List Nat)}
  (X : (hd.heap_39 w.params).In s.heap) (T : Top topProg loose mean mg mb s.heap) (hA : dp + 1 < recursionLimit)
  (hl : s.heap.IsList l vs.toArray) (hvs : StrsAre vs (xs.map S)) (hx : msr xs ≤ 100000)
  (ret : ∀ h' tk' t, Kp s.heap h' → Q (.str (S (charset xs)) t) {s with heap := h', toks := tk'}) :
  wpAny (model PySem.Challenge.rw_ev0005_01.row.prog w) (Ar dp un fr gd) (call (.ref 38) [.ref l]) Q E s := by
  revert X; k_fill; intro X
  have hfl : ∀ xs : List (List Nat), xs.flatten.length + xs.length = msr xs := by
    intro xs
    induction xs with
    | nil => rfl
    | cons a r ih => simp only [List.flatten_cons, List.length_append, List.length_cons, msr, List.map_cons, List.sum_cons] at ih ⊢; omega
  have hf := hfl xs
  have hch := flat_len chC chC_len xs.flatten
  walk_at "M enter"
  intro h₁ tk₁ F N
  walk_at "M steps"
  walk_at "M go"
  with_reducible refine' compStr (fun c => S (chC c)) ?c1 ?c2 ?c3 ?c4 ?c5 ?c6 ?_ ?c7
  (case c1 => exact rfl); (case c2 => exact rfl); (case c3 => decide +kernel); (case c4 => exact rfl); (case c5 => decide +kernel); (case c6 => exact rfl); (case c7 => intro _; rfl)
  walk_at "M steps"
  walk_at "M go"
  refine join_listW (hl.at (F.keep _)) hvs (by decide) ?_ fun t' k => ?_
  · simp only [List.map_map, Function.comp_def, S_len, List.length_map]
    have h2 : ∀ xs : List (List Nat), (xs.map fun x => x.length).sum + xs.length = msr xs := by
      intro xs
      induction xs with
      | nil => rfl
      | cons a r ih => simp only [List.length_cons, msr, List.map_cons, List.sum_cons] at ih ⊢; omega
    rw [h2]; omega
  rw [join_S]
  refine ⟨_, _, rfl, ?_, _, _, _, _, F, N, ?_, ?_⟩
  · show (S xs.flatten).length ≤ sizeLine
    rw [S_len]
    exact Nat.le_trans (show _ ≤ 100000 by omega) (by decide)
  · intro c C u s₃ m₃ E' hc hk FC NC hm
    clear F N
    walk_at "M steps"
    all_goals (rename _ = _ => hb; rw [noneOne, signs_ch] at hb)
    · have hb' : c ∉ chSigns := by simpa using hb
      refine ⟨⟨_, by rw [chC, if_neg hb']⟩, _, _, rfl, fun _ _ e => e⟩
    · have hb' : c ∈ chSigns := by simpa using hb
      refine ⟨⟨_, by rw [lit_7, S_app, chC, if_pos hb']; rfl⟩, _, _, rfl, fun _ _ e => e⟩
  · intro D h' tk' ys n F N hD hys hk
    rw [S_cps, show xs.flatten.map (fun c => S (chC c)) = (xs.flatten.map chC).map S by rw [List.map_map]; rfl] at hys
    walk_at "M steps"
    walk_at "M go"
    refine join_listW ⟨_, N.get (.head _), rfl, n, rfl⟩ hys (by decide) ?_ ?_
    · have := sum_le (fun c => (chC c).length) 2 chC_len xs.flatten
      simp only [List.map_map, List.length_map, Function.comp_def, S_len] at this ⊢
      omega
    · intro t' k
      rw [join_S, ← List.flatMap_def]
      walk_at "M steps"
      rw [lit_1, lit_2, S_app, S_app]
      exact ret _ _ _ F.keep
end
end Mine
theorem Mine.off6 : True := by w_top off; trivial
-- P05_min
namespace Mine
theorem ltL_trans {a b c : List Nat} (h : a < b) (k : b < c) : a < c := List.lt_trans h k
theorem argBest_spec (g : Nat → List Nat) (r : List Nat → List Nat → Prop) [DecidableRel r] (irr : ∀ a, ¬ r a a) (tr : ∀ a b c, r a b → r b c → r a c) :
    ∀ k, argBest (fun i j => decide (r (g i) (g j))) k ≤ k ∧ ∀ j, j ≤ k → ¬ r (g j) (g (argBest (fun i j => decide (r (g i) (g j))) k))
  | 0 => ⟨Nat.le_refl _, fun j hj => by
    have : j = 0 := by omega
    subst this; exact irr _⟩
  | k + 1 => by
    obtain ⟨hb, ih⟩ := argBest_spec g r irr tr k
    rw [argBest]
    by_cases hc : r (g (k + 1)) (g (argBest (fun i j => decide (r (g i) (g j))) k))
    · rw [if_pos (decide_eq_true hc)]
      refine ⟨Nat.le_refl _, fun j hj q => ?_⟩
      by_cases e : j = k + 1
      · subst e; exact irr _ q
      · exact ih j (by omega) (tr _ _ _ q hc)
    · rw [if_neg (by simpa using hc)]
      refine ⟨Nat.le_succ_of_le hb, fun j hj q => ?_⟩
      by_cases e : j = k + 1
      · subst e; exact hc q
      · exact ih j (by omega) q
theorem strsAt : ∀ {vs : List Value} {xs : List (List Nat)}, StrsAre vs (xs.map S) → ∀ {i : Nat} {v : Value}, vs[i]? = some v → i < xs.length ∧ ∃ t, v = .str (S (xs.getD i [])) t
  | [], [], _, i, v, h => by simp at h
  | _ :: _, x :: xs, .cons _ t hr, 0, v, h => by
    simp only [List.getElem?_cons_zero, Option.some.injEq] at h
    exact ⟨Nat.succ_pos _, t, h.symm⟩
  | _ :: _, x :: xs, .cons _ t hr, i + 1, v, h => by
    simp only [List.getElem?_cons_succ] at h
    obtain ⟨h1, t', e⟩ := strsAt hr h
    exact ⟨Nat.succ_lt_succ h1, t', by rw [e]; rfl⟩
theorem strsLen {vs : List Value} {ys : List Str} (h : StrsAre vs ys) : vs.length = ys.length := by
  induction h with
  | nil => rfl
  | cons _ _ _ ih => simp [ih]
section
variable {prog : Program} {w : World} {A : Around} {E : Value → Shared → Prop} {s : Shared} {l : Addr} {vs : List Value} {xs : List (List Nat)} {Q : Value → Shared → Prop}
theorem minS (hh : A.handled = none) (hl : s.heap.IsList l vs.toArray) (hi : StrsAre vs (xs.map S)) (hne : xs ≠ [])
    (h : ∀ h' tk t M, Kp s.heap h' → M ∈ xs → (∀ x ∈ xs, ¬ x < M) → Q (.str (S M) t) { s with heap := h', toks := tk }) : wpAny (model prog w) A (call (.builtin "min") [.ref l]) Q E s := by
  have hlen : vs.length = xs.length := by rw [strsLen hi, List.length_map]
  have hpos : 0 < xs.length := List.length_pos_iff.mpr hne
  refine call_min_walk (Flt.iter_list_ hl fun s₂ e st hfp hlI => ?_)
  subst e
  have W := Walks.list (prog := prog) (w := w) (A := A.in1) hh _ l hlI vs.toArray
  refine ⟨_, _, _, _, _, _, fun i j => decide (xs.getD i [] < xs.getD j []), rfl, W, st, hfp, by simpa [hlen] using hpos, fun i j vi vj s Q E hvi hvj h => ?_, fun v h' tk hP hk => ?_⟩
  · obtain ⟨_, t, rfl⟩ := strsAt hi (by simpa using hvi)
    obtain ⟨_, u, rfl⟩ := strsAt hi (by simpa using hvj)
    exact PyProof.Rows.lt_str (by simpa [S_cps] using h)
  · obtain ⟨h1, t, rfl⟩ := strsAt hi (by simpa using hP)
    have sp := argBest_spec (fun i => xs.getD i []) (· < ·) lt_irr (fun _ _ _ => ltL_trans) (vs.toArray.size - 1)
    have kp := Flt.kept_iter hk
    refine h h' tk t _ kp ?_ ?_
    · rw [List.getD_eq_getElem?_getD, List.getElem?_eq_getElem h1]; exact List.getElem_mem h1
    · intro x hx
      obtain ⟨j, hj, rfl⟩ := List.mem_iff_getElem.mp hx
      have := sp.2 j (by simp [hlen]; omega)
      simpa [List.getD_eq_getElem?_getD, List.getElem?_eq_getElem hj] using this
theorem maxS (hh : A.handled = none) (hl : s.heap.IsList l vs.toArray) (hi : StrsAre vs (xs.map S)) (hne : xs ≠ [])
    (h : ∀ h' tk t M, Kp s.heap h' → M ∈ xs → (∀ x ∈ xs, ¬ M < x) → Q (.str (S M) t) { s with heap := h', toks := tk }) : wpAny (model prog w) A (call (.builtin "max") [.ref l]) Q E s := by
  have hlen : vs.length = xs.length := by rw [strsLen hi, List.length_map]
  have hpos : 0 < xs.length := List.length_pos_iff.mpr hne
  refine call_max_walk (Flt.iter_list_ hl fun s₂ e st hfp hlI => ?_)
  subst e
  have W := Walks.list (prog := prog) (w := w) (A := A.in1) hh _ l hlI vs.toArray
  refine ⟨_, _, _, _, _, _, fun i j => decide (xs.getD j [] < xs.getD i []), rfl, W, st, hfp, by simpa [hlen] using hpos, fun i j vi vj s Q E hvi hvj h => ?_, fun v h' tk hP hk => ?_⟩
  · obtain ⟨_, t, rfl⟩ := strsAt hi (by simpa using hvi)
    obtain ⟨_, u, rfl⟩ := strsAt hi (by simpa using hvj)
    exact P.gt_str (by simpa [S_cps] using h)
  · obtain ⟨h1, t, rfl⟩ := strsAt hi (by simpa using hP)
    have sp := argBest_spec (fun i => xs.getD i []) (fun a b => b < a) lt_irr (fun _ _ _ h k => ltL_trans k h) (vs.toArray.size - 1)
    have kp := Flt.kept_iter hk
    refine h h' tk t _ kp ?_ ?_
    · rw [List.getD_eq_getElem?_getD, List.getElem?_eq_getElem h1]; exact List.getElem_mem h1
    · intro x hx
      obtain ⟨j, hj, rfl⟩ := List.mem_iff_getElem.mp hx
      have := sp.2 j (by simp [hlen]; omega)
      simpa [List.getD_eq_getElem?_getD, List.getElem?_eq_getElem hj] using this
end
end Mine
theorem Mine.off7 : True := by w_top off; trivial
-- P05b_lcp
namespace Mine
theorem lcp_left : ∀ a b : List Nat, lcp a b <+: a
  | [], _ => by unfold lcp; exact List.nil_prefix
  | a :: x, [] => by simp [lcp]
  | a :: x, b :: y => by
    unfold lcp
    split
    · exact (List.prefix_cons_inj a).mpr (lcp_left x y)
    · exact List.nil_prefix
theorem lcp_right : ∀ a b : List Nat, lcp a b <+: b
  | [], _ => by unfold lcp; exact List.nil_prefix
  | a :: x, [] => by simp [lcp]
  | a :: x, b :: y => by
    unfold lcp
    split
    · rename_i h; subst h
      exact (List.prefix_cons_inj a).mpr (lcp_right x y)
    · exact List.nil_prefix
theorem lcp_great : ∀ {p a b : List Nat}, p <+: a → p <+: b → p <+: lcp a b
  | [], _, _, _, _ => List.nil_prefix
  | c :: p, a, b, h, k => by
    obtain ⟨a', rfl⟩ := h
    obtain ⟨b', rfl⟩ := k
    simp only [List.cons_append, lcp, if_true]
    exact (List.prefix_cons_inj c).mpr (lcp_great (List.prefix_append ..) (List.prefix_append ..))
theorem pre_antisymm {a b : List Nat} (h : a <+: b) (k : b <+: a) : a = b := h.eq_of_length (Nat.le_antisymm h.length_le k.length_le)
theorem foldl_lcp : ∀ (xs : List (List Nat)) (x : List Nat), xs.foldl lcp x <+: x ∧ ∀ y ∈ xs, xs.foldl lcp x <+: y
  | [], x => ⟨List.prefix_refl x, fun _ h => nomatch h⟩
  | y :: r, x => by
    obtain ⟨h1, h2⟩ := foldl_lcp r (lcp x y)
    refine ⟨h1.trans (lcp_left x y), fun z hz => ?_⟩
    rcases List.mem_cons.mp hz with rfl | hz
    · exact h1.trans (lcp_right x z)
    · exact h2 z hz
theorem cpAll_pre : ∀ {xs : List (List Nat)} {x : List Nat}, x ∈ xs → cpAll xs <+: x
  | x :: xs, y, h => by
    rcases List.mem_cons.mp h with rfl | h
    · exact (foldl_lcp xs y).1
    · exact (foldl_lcp xs x).2 y h
theorem foldl_great {p : List Nat} : ∀ (xs : List (List Nat)) (x : List Nat), p <+: x → (∀ y ∈ xs, p <+: y) → p <+: xs.foldl lcp x
  | [], x, h, _ => h
  | y :: r, x, h, k => foldl_great r (lcp x y) (lcp_great h (k y (.head _))) fun z hz => k z (.tail _ hz)
theorem cpAll_great {xs : List (List Nat)} {p : List Nat} (hne : xs ≠ []) (h : ∀ x ∈ xs, p <+: x) : p <+: cpAll xs := by
  cases xs with
  | nil => exact absurd rfl hne
  | cons x r => exact foldl_great r x (h x (.head _)) fun y hy => h y (.tail _ hy)
theorem pre_between : ∀ {p a b x : List Nat}, p <+: a → p <+: b → ¬ x < a → ¬ b < x → p <+: x
  | [], _, _, _, _, _, _, _ => List.nil_prefix
  | c :: p, a, b, x, ha, hb, h1, h2 => by
    obtain ⟨a', rfl⟩ := ha
    obtain ⟨b', rfl⟩ := hb
    cases x with
    | nil => exact absurd (List.nil_lt_cons ..) h1
    | cons d x =>
      simp only [List.cons_append, List.cons_lt_cons_iff, not_or, not_and] at h1 h2
      have e : d = c := by omega
      subst e
      exact (List.prefix_cons_inj d).mpr (pre_between (List.prefix_append ..) (List.prefix_append ..) (h1.2 rfl) (h2.2 rfl))
theorem lcp_minmax {xs : List (List Nat)} {a b : List Nat} (ha : a ∈ xs) (hb : b ∈ xs) (h1 : ∀ x ∈ xs, ¬ x < a) (h2 : ∀ x ∈ xs, ¬ b < x) : lcp a b = cpAll xs :=
  pre_antisymm (cpAll_great (List.ne_nil_of_mem ha) fun x hx => pre_between (lcp_left a b) (lcp_right a b) (h1 x hx) (h2 x hx)) (lcp_great (cpAll_pre ha) (cpAll_pre hb))
theorem lt_of_pre : ∀ {a b : List Nat}, a <+: b → a.length < b.length → a < b
  | [], b, _, h => by
    cases b with
    | nil => simp at h
    | cons _ _ => exact List.nil_lt_cons ..
  | c :: a, b, h, k => by
    obtain ⟨t, rfl⟩ := h
    rw [List.cons_append, List.cons_lt_cons_iff]
    refine .inr ⟨rfl, lt_of_pre (List.prefix_append ..) ?_⟩
    simpa using k
theorem lcp_at : ∀ {i : Nat} {a b : List Nat}, a.take i = b.take i → (h1 : i < a.length) → (h2 : i < b.length) → a[i] ≠ b[i] → lcp a b = a.take i
  | 0, a :: x, b :: y, _, _, _, h => by
    unfold lcp
    rw [if_neg (by simpa using h)]
    rfl
  | i + 1, a :: x, b :: y, e, h1, h2, h => by
    simp only [List.take_succ_cons, List.cons.injEq] at e
    unfold lcp
    rw [if_pos e.1, List.take_succ_cons, lcp_at e.2 (by simpa using h1) (by simpa using h2) (by simpa using h)]
theorem lcp_whole {a b : List Nat} (h : a = b.take a.length) : lcp a b = a :=
  pre_antisymm (lcp_left a b) (lcp_great (List.prefix_refl a) (by rw [h]; exact List.take_prefix ..))
end Mine
theorem Mine.off8 : True := by w_top off; trivial
-- P05c_len
namespace Mine
theorem msr_cons (a : List Nat) (r : List (List Nat)) : msr (a :: r) = a.length + 1 + msr r := by simp [msr]
theorem msr_nil : msr [] = 0 := rfl
theorem msr_pos {xs : List (List Nat)} (h : xs ≠ []) : 1 ≤ msr xs := by
  cases xs with
  | nil => exact absurd rfl h
  | cons a r => rw [msr_cons]; omega
theorem msr_split (q : List Nat → Bool) : ∀ xs : List (List Nat), msr (xs.filter q) + msr (xs.filter fun a => !q a) = msr xs
  | [] => rfl
  | a :: r => by
    have := msr_split q r
    cases h : q a <;> simp only [List.filter_cons, h, Bool.not_true, Bool.not_false, if_true, Bool.false_eq_true, if_false, msr_cons] <;> omega
theorem msr_map (g : List Nat → List Nat) (c : Nat) : ∀ xs : List (List Nat), (∀ a ∈ xs, (g a).length + c = a.length) → msr (xs.map g) + c * xs.length = msr xs
  | [], _ => rfl
  | a :: r, h => by
    have := msr_map g c r fun b hb => h b (.tail _ hb)
    have := h a (.head _)
    simp only [List.map_cons, msr_cons, List.length_cons, Nat.mul_succ]; omega
theorem msr_perm {xs ys : List (List Nat)} (h : xs.Perm ys) : msr xs = msr ys := by
  induction h with
  | nil => rfl
  | cons a _ ih => rw [msr_cons, msr_cons, ih]
  | swap a b l => simp only [msr_cons]; omega
  | trans _ _ h1 h2 => exact h1.trans h2
theorem srt_perm (xs : List (List Nat)) : (srt xs).Perm xs := List.mergeSort_perm ..
theorem msr_srt (xs : List (List Nat)) : msr (srt xs) = msr xs := msr_perm (srt_perm xs)
theorem ones_msr : ∀ xs : List (List Nat), (∀ a ∈ xs, a.length = 1) → msr xs = 2 * xs.length ∧ xs.flatten.length = xs.length
  | [], _ => ⟨rfl, rfl⟩
  | a :: r, h => by
    obtain ⟨i1, i2⟩ := ones_msr r fun b hb => h b (.tail _ hb)
    have := h a (.head _)
    simp only [msr_cons, List.length_cons, List.flatten_cons, List.length_append]
    omega
theorem charset_len {xs : List (List Nat)} (h : ∀ a ∈ xs, a.length = 1) : (charset xs).length ≤ 2 + 2 * xs.length := by
  have := flat_len _ chC_len xs.flatten
  have := (ones_msr xs h).2
  simp only [charset, List.length_cons, List.length_append, List.length_nil]
  omega
theorem cls_len (p : List Nat) : (cls p).length ≤ 1 := by unfold cls; split <;> simp
theorem filter_ne (xs : List (List Nat)) (q : List Nat → Prop) [DecidablePred q] : (xs.filter fun a => decide (¬ q a)) = xs.filter fun a => !decide (q a) := by
  congr 1; funext a; simp
theorem srt_ne {xs : List (List Nat)} (h : xs ≠ []) : srt xs ≠ [] := fun e => h (by
  have := srt_perm xs
  rw [e] at this
  exact this.nil_eq.symm)
theorem others_ne {x : List Nat} {l : List (List Nat)} (hx : x ≠ []) (hc : cpAll (x :: l) = []) : ((x :: l).filter fun s => decide (s.head? ≠ x.head?)) ≠ [] := fun e => by
  cases x with
  | nil => exact hx rfl
  | cons c x =>
    have hall : ∀ a ∈ (c :: x) :: l, [c] <+: a := fun a ha => by
      have := List.filter_eq_nil_iff.mp e a ha
      cases a with
      | nil => simp at this
      | cons d a =>
        have : d = c := by simpa using this
        subst this
        exact List.prefix_append [d] a
    have := cpAll_great (by simp) hall
    rw [hc] at this
    have := this.length_le
    simp at this
theorem roi_len : ∀ (n : Nat) (xs : List (List Nat)) (p : List Nat), xs ≠ [] → (roi n xs p).length + 4 ≤ p.length + 8 * msr xs
  | 0, xs, p, h => by
    have := msr_pos h
    simp only [roi, List.length_nil]; omega
  | n + 1, [x], p, _ => by
    have := escL_len x
    have := cls_len p
    simp only [roi, msr_cons, msr_nil, List.length_append]; omega
  | n + 1, x :: y :: r, p, _ => by
    have hc := cls_len p
    unfold roi
    split
    · rename_i hx
      have := roi_len n (y :: r) opn (by simp)
      have ho : opn.length = 3 := rfl
      subst hx
      simp only [msr_cons, List.length_append, List.length_cons, List.length_nil] at *
      omega
    · split
      · rename_i h1 h2
        have hs := msr_split (fun s => decide (s.length = 1)) (x :: y :: r)
        have hone := ones_msr ((x :: y :: r).filter fun s => decide (s.length = 1)) (fun a ha => by simpa using (List.mem_filter.mp ha).2)
        have hcl := charset_len (xs := (x :: y :: r).filter fun s => decide (s.length = 1)) (fun a ha => by simpa using (List.mem_filter.mp ha).2)
        have hk : 1 < ((x :: y :: r).filter fun s => decide (s.length = 1)).length := h2.2
        have hne := filter_ne (x :: y :: r) (fun s => s.length = 1)
        split
        · simp only [List.length_append]
          omega
        · rename_i h3
          have h4 := roi_len n ((x :: y :: r).filter fun s => decide (s.length ≠ 1)) [] h3
          have e : msr ((x :: y :: r).filter fun s => decide (s.length ≠ 1)) = msr ((x :: y :: r).filter fun s => !decide (s.length = 1)) := by rw [← hne]
          simp only [List.length_append, List.length_cons, List.length_nil] at *
          omega
      · split
        · rename_i h3
          generalize hcp : cpAll (x :: y :: r) = c at *
          have hcl : 1 ≤ c.length := List.length_pos_iff.mpr h3
          have hm := msr_map (fun s => s.drop c.length) c.length (x :: y :: r) (fun a ha => by
            have := (hcp ▸ cpAll_pre ha).length_le
            simp only [List.length_drop]; omega)
          have h4 := roi_len n ((x :: y :: r).map fun s => s.drop c.length) opn (by simp)
          have he := escL_len c
          have ho : opn.length = 3 := rfl
          have hl2 : c.length * 2 ≤ c.length * (x :: y :: r).length := Nat.mul_le_mul_left _ (by simp)
          simp only [List.length_append]
          omega
        · split
          · rename_i h3
            generalize hcp : cpAll ((x :: y :: r).map List.reverse) = c at *
            have hcl : 1 ≤ c.length := List.length_pos_iff.mpr h3
            have hm := msr_map (fun s => s.take (s.length - c.length)) c.length (x :: y :: r) (fun a ha => by
              have := (hcp ▸ cpAll_pre (List.mem_map_of_mem ha)).length_le
              simp only [List.length_take, List.length_reverse] at *; omega)
            have h4 := roi_len n (srt ((x :: y :: r).map fun s => s.take (s.length - c.length))) opn (srt_ne (by simp))
            rw [msr_srt] at h4
            have he := escL_len c.reverse
            have ho : opn.length = 3 := rfl
            have hl2 : c.length * 2 ≤ c.length * (x :: y :: r).length := Nat.mul_le_mul_left _ (by simp)
            simp only [List.length_append, List.length_reverse] at *
            omega
          · have hs := msr_split (fun s => decide (s.head? = x.head?)) (x :: y :: r)
            have hne := filter_ne (x :: y :: r) (fun s => s.head? = x.head?)
            have h4 := roi_len n ((x :: y :: r).filter fun s => decide (s.head? = x.head?)) [] (by simp)
            have e : msr ((x :: y :: r).filter fun s => decide (s.head? ≠ x.head?)) = msr ((x :: y :: r).filter fun s => !decide (s.head? = x.head?)) := by rw [← hne]
            rename_i hx0 _ hc0 _
            have h5 := others_ne (x := x) (l := y :: r) hx0 (by simpa using hc0)
            · have h6 := roi_len n ((x :: y :: r).filter fun s => decide (s.head? ≠ x.head?)) [] h5
              simp only [List.length_append, List.length_cons, List.length_nil] at *
              omega
end Mine
theorem Mine.off9 : True := by w_top off; trivial
-- P06_cpre
namespace Mine
theorem signs_at {a : List Nat} {i : Nat} {x : Str} (h : (signs (S a))[i]? = some x) : ∃ h : i < a.length, x = S [a[i]] := by
  have e : signs (S a) = a.map fun c => S [c] := rfl
  rw [e, List.getElem?_map] at h
  by_cases hi : i < a.length
  · rw [List.getElem?_eq_getElem hi] at h
    exact ⟨hi, (Option.some.inj h).symm⟩
  · rw [List.getElem?_eq_none (by omega)] at h; cases h
theorem signs_len (a : List Nat) : (signs (S a)).length = a.length := by
  have e : signs (S a) = a.map fun c => S [c] := rfl
  rw [e, List.length_map]
section
variable {w : World} {dp un : Nat} {fr : Option (List Env)} {gd : Option (List Code)} {s : Shared} {Q E : Value → Shared → Prop} {loose : List Str} {mean : ExcName → Option Value} {mg mb : Str → Option Value}
theorem cprefix_c {l : Addr} {vs : List Value} {xs : List (List Nat)}
  (X : (hd.heap_39 w.params).In s.heap) (T : Top topProg loose mean mg mb s.heap) (hA : dp + 1 < recursionLimit)
  (hl : s.heap.IsList l vs.toArray) (hvs : StrsAre vs (xs.map S)) (hne : xs ≠ []) (hx : msr xs ≤ 100000)
  (ret : ∀ h' tk' t, Kp s.heap h' → Q (.str (S (cpAll xs)) t) {s with heap := h', toks := tk'}) :
  wpAny (model PySem.Challenge.rw_ev0005_01.row.prog w) (Ar dp un fr gd) (call (.ref 33) [.ref l]) Q E s := by
  revert X; k_fill; intro X
  have hlen : vs.length = xs.length := by rw [strsLen hvs, List.length_map]
  have hpos : 0 < xs.length := List.length_pos_iff.mpr hne
  have hml := len_le_msr xs
  walk_at "M enter"
  intro h₁ tk₁ F N
  walk_at "M steps"
  · exfalso
    rename vs.isEmpty = true => he
    rw [List.isEmpty_iff.mp he] at hlen; simp at hlen; omega
  walk_at "M go"
  refine minS rfl (isL_base F hl) hvs hne fun h₂ tk₂ t₂ a hk₂ ha1 ha2 => ?_
  obtain ⟨F2, N2⟩ := frK F N hk₂
  clear F N hk₂
  walk_at "M steps"
  walk_at "M go"
  (with_reducible rename Fr _ _ _ _ => F); (with_reducible rename News _ _ _ _ => N)
  refine maxS rfl (isL_base F hl) hvs hne fun h₃ tk₃ t₃ b hk₃ hb1 hb2 => ?_
  obtain ⟨F2, N2⟩ := frK F N hk₃
  clear F N hk₃
  walk_at "M steps"
  walk_at "M go"
  (with_reducible rename Fr _ _ _ _ => F); (with_reducible rename News _ _ _ _ => N)
  with_reducible refine' For_pair3 s.heap ?c1 ?c2 ?c3 ?c4 ?_ ?c5 PassesOwn.never
  (case c1 => exact rfl); (case c2 => exact rfl); (case c3 => exact rfl); (case c4 => exact rfl); (case c5 => intro _; rfl)
  walk_at "M steps"
  walk_at "M go"
  refine call_enum_str rfl F N fun h₄ e F4 N4 Sr => ?_
  dsimp only
  refine Sr.at _ rfl _ _ _ _ (fun i m _ => m (Str.ofString "s1") = some (.str (S a) t₂) ∧ m (Str.ofString "s2") = some (.str (S b) t₃) ∧ a.take i = b.take i) ⟨rfl, rfl, rfl⟩ ?_ ?_
  · intro i x t v m₁ news₁ s₁ own hs₁ hx hv hJ hn hown F N
    obtain ⟨hh₁, tkk, rfl⟩ := hs₁
    obtain ⟨j1, j2, j3⟩ := hJ
    obtain ⟨u, rfl⟩ := ItemKind.str_is hv
    clear F4 N4 Sr hv
    obtain ⟨hi, rfl⟩ := signs_at hx
    have hbz : b.length + 1 ≤ msr xs := mem_le_msr hb1
    have haz : a.length + 1 ≤ msr xs := mem_le_msr ha1
    have hib : i < b.length := by
      refine Nat.lt_of_not_le fun q => ?_
      rw [List.take_of_length_le q] at j3
      exact ha2 b hb1 (lt_of_pre (j3 ▸ List.take_prefix i a) (by omega))
    have hgb : b.getD (Int.toNat (i : Int)) 0 = b[i] := by
      rw [Int.toNat_natCast, List.getD_eq_getElem?_getD, List.getElem?_eq_getElem hib]; rfl
    walk_at "M steps"
    · rename _ = true => hne
      rw [hgb] at hne
      have hne' : a[i] ≠ b[i] := fun q => by rw [q] at hne; simp at hne
      have e : a.take (Int.toNat (i : Int)) = cpAll xs := by
        rw [Int.toNat_natCast, ← lcp_at j3 hi hib hne', lcp_minmax ha1 hb1 ha2 hb2]
      rw [e]
      exact ret _ _ _ (by (with_reducible rename Fr _ _ _ _ => F); exact F.keep)
    · walk_at "M go"
      rename _ = false => hne
      rw [hgb] at hne
      have hne' : a[i] = b[i] := by
        have : S [a[i]] = S [b[i]] := by simpa using hne
        simpa using S_inj this
      exact ⟨j1, j2, by rw [List.take_add_one, List.take_add_one, j3, List.getElem?_eq_getElem hi, List.getElem?_eq_getElem hib, hne']⟩
  · intro h' tk' m' news' F N _ hJ
    obtain ⟨j1, j2, j3⟩ := hJ
    dsimp only
    walk_at "M steps"
    rw [signs_len, List.take_length] at j3
    have e : a = cpAll xs := (lcp_whole j3).symm.trans (lcp_minmax ha1 hb1 ha2 hb2)
    rw [← e] at ret
    exact ret _ _ _ F.keep
end
end Mine
theorem Mine.off10 : True := by w_top off; trivial
-- P06b_fl
namespace Mine
/-- the frames' places -/
abbrev fa (fr : List Env) : List Addr := fr.filterMap (·.frame)
/-- all stays but what is told, the frames up to their slots -/
structure Kw (fr : List Env) (mu : List Addr) (h h' : Heap) : Prop where
  keep : ∀ b o, b ∉ fa fr → b ∉ mu → h.get? b = some o → h'.get? b = some o
  slot : ∀ b o, b ∈ fa fr → h.get? b = some o → ∃ sl, h'.get? b = some { o with slots := sl }
theorem Kw.of {fr : List Env} {mu : List Addr} {h h' : Heap} (k : Kp h h') : Kw fr mu h h' := ⟨fun b o _ _ e => k b o e, fun b o _ e => ⟨o.slots, k b o e⟩⟩
theorem Kw.refl {fr : List Env} {mu : List Addr} {h : Heap} : Kw fr mu h h := .of fun _ _ e => e
theorem Kw.trans {fr : List Env} {mu : List Addr} {h h₂ h₃ : Heap} (x : Kw fr mu h h₂) (y : Kw fr mu h₂ h₃) : Kw fr mu h h₃ :=
  ⟨fun b o p q e => y.keep b o p q (x.keep b o p q e), fun b o p e => by
    obtain ⟨sl, e2⟩ := x.slot b o p e
    obtain ⟨sl3, e3⟩ := y.slot b _ p e2
    exact ⟨sl3, e3⟩⟩
theorem Kw.then {fr : List Env} {mu : List Addr} {h h₂ h₃ : Heap} (x : Kw fr mu h h₂) (y : Kp h₂ h₃) : Kw fr mu h h₃ := x.trans (.of y)
theorem Kw.more {fr : List Env} {mu mu2 : List Addr} {h h₂ : Heap} (x : Kw fr mu h h₂) (hm : ∀ a ∈ mu, a ∈ mu2) : Kw fr mu2 h h₂ := ⟨fun b o p q e => x.keep b o p (fun z => q (hm _ z)) e, x.slot⟩

theorem notFreed {h : Heap} {a : Addr} {o : Obj} (e : h.get? a = some o) : o.isFreed = false := by simpa using (Heap.get?_some_iff.mp e).2
/-- h with the places told as h' has them -/
def swp (h' : Heap) : List Addr → Heap → Heap
  | [], h => h
  | a :: r, h => swp h' r (h.update a fun o => (h'.get? a).getD o)
theorem swp_size (h' : Heap) : ∀ (l : List Addr) (h : Heap), (swp h' l h).objs.size = h.objs.size
  | [], _ => rfl
  | a :: r, h => (swp_size h' r _).trans (Heap.size_after_update ..)
theorem swp_other (h' : Heap) : ∀ (l : List Addr) (h : Heap) {b : Addr}, b ∉ l → (swp h' l h).get? b = h.get? b
  | [], _, _, _ => rfl
  | a :: r, h, b, n => (swp_other h' r _ fun q => n (.tail _ q)).trans (Heap.get?_update_other _ _ fun q => n (by rw [q]; exact .head _))
theorem swp_at (h' : Heap) : ∀ (l : List Addr) (h : Heap) {b : Addr}, b ∈ l → (∀ a ∈ l, ∃ o, h.get? a = some o) → (∀ a ∈ l, ∃ o, h'.get? a = some o) → (swp h' l h).get? b = h'.get? b
  | a :: r, h, b, hb, h1, h2 => by
    obtain ⟨o, ho⟩ := h1 a (.head _)
    obtain ⟨o', ho'⟩ := h2 a (.head _)
    have self : (h.update a fun o => (h'.get? a).getD o).get? a = some o' := by
      have := Heap.get?_update_self (fun o => (h'.get? a).getD o) ho (by rw [ho']; exact notFreed ho')
      rw [this, ho']; rfl
    by_cases hr : b ∈ r
    · refine swp_at h' r _ hr (fun c hc => ?_) fun c hc => h2 c (.tail _ hc)
      by_cases e : c = a
      · exact ⟨o', by rw [e]; exact self⟩
      · obtain ⟨oc, hoc⟩ := h1 c (.tail _ hc)
        exact ⟨oc, (Heap.get?_update_other _ _ (Ne.symm e)).trans hoc⟩
    · rcases List.mem_cons.mp hb with e | hb
      · subst e
        show (swp h' r _).get? b = _
        rw [swp_other h' r _ hr, self, ho']
      · exact absurd hb hr

/-- the ground and the frames above it -/
structure Fl (B : Heap) (fr : List Env) (h : Heap) : Prop where
  kp : Kp B h
  ff : h.FunFrames B fr
section
variable {B h₀ h h' b₀ : Heap} {fr : List Env} {L : Addr} {m : Str → Option Value} {news news' : List (Addr × Obj)} {mu : List Addr} {env : Env}
theorem Fl.grow (G : Fl B fr h) (k : Kp h h') : Fl B fr h' := ⟨fun b o e => k b o (G.kp b o e), G.ff.of_keeps fun b o e _ => ⟨o, k b o e, rfl⟩⟩
theorem Fl.frame (G : Fl B fr h) {b : Addr} (hb : b ∈ fa fr) : B.get? b = none ∧ ∃ o, h.get? b = some o ∧ ∀ vs, o.data ≠ .fields vs := G.ff.mem hb
theorem Fl.kw (G : Fl B fr h) (W : Kw fr mu h h') (hm : ∀ a ∈ mu, B.get? a = none ∧ a ∉ fa fr) : Fl B fr h' := by
  refine ⟨fun b o e => W.keep b o (fun q => ?_) (fun q => ?_) (G.kp b o e), ?_⟩
  · rw [(G.frame q).1] at e; cases e
  · rw [(hm b q).1] at e; cases e
  · have aux : ∀ l : List Env, (∀ b ∈ fa l, b ∈ fa fr) → h.FunFrames B l → h'.FunFrames B l := by
      intro l
      induction l with
      | nil => exact fun _ _ => trivial
      | cons e l ih =>
        intro hs hl
        obtain ⟨hk, ⟨L, o, hf, hn, ho, hd⟩, hr⟩ := hl
        have hmem : L ∈ fa (e :: l) := by simp [fa, List.filterMap_cons, hf]
        obtain ⟨sl, e2⟩ := W.slot L o (hs L hmem) ho
        refine ⟨hk, ⟨L, _, hf, hn, e2, hd⟩, ih (fun b hb => hs b ?_) hr⟩
        simp only [fa, List.filterMap_cons, hf] at hb ⊢
        exact List.mem_cons_of_mem _ hb
    exact aux fr (fun _ q => q) G.ff
theorem Fl.push (G : Fl B fr h₀) (F : Fr h₀ L h m) (hf : env.frame = some L) (hk' : env.scope.kind = .function) : Fl B (env :: fr) h := by
  have hk : env.scope.kind ≠ .module := by rw [hk']; decide
  have G2 := G.grow F.keep
  have hnew : B.get? L = none := by
    cases q : B.get? L with
    | none => rfl
    | some o => exact absurd (Nat.lt_of_lt_of_le (Heap.lt_size (G.kp L o q)) F.above) (Nat.lt_irrefl _)
  exact ⟨G2.kp, .cons hk hf F.ns hnew G2.ff⟩
theorem Fl.apart (G : Fl B fr h₀) (N : News h₀ L h news) (hf : env.frame = some L) {p : Addr × Obj} (hp : p ∈ news) : p.1 ∉ fa (env :: fr) := by
  intro q
  simp only [fa, List.filterMap_cons, hf] at q
  rcases List.mem_cons.mp q with e | q
  · exact (N p hp).2.1 e
  · obtain ⟨o, ho, _⟩ := (G.frame q).2
    rw [(N p hp).2.2] at ho; cases ho
theorem Fl.but {s : Shared} (G : Fl B fr s.heap) (hN : ∀ p ∈ news, B.get? p.1 = none ∧ p.1 ∉ fa fr) : Fl B fr (But s news) := by
  have aux : ∀ b o, b ∉ news.map (·.1) → s.heap.get? b = some o → (But s news).get? b = some o := fun b o q e => but_of e q
  refine ⟨but_base G.kp fun p hp => (hN p hp).1, ?_⟩
  have aux2 : ∀ l : List Env, (∀ b ∈ fa l, b ∈ fa fr) → s.heap.FunFrames B l → (But s news).FunFrames B l := by
    intro l
    induction l with
    | nil => exact fun _ _ => trivial
    | cons e l ih =>
      intro hs hl
      obtain ⟨hk, ⟨L, o, hf, hn, ho, hd⟩, hr⟩ := hl
      have hmem : L ∈ fa (e :: l) := by simp [fa, List.filterMap_cons, hf]
      refine ⟨hk, ⟨L, _, hf, hn, aux L o (fun q => ?_) ho, hd⟩, ih (fun b hb => hs b ?_) hr⟩
      · obtain ⟨p, hp, e⟩ := List.mem_map.mp q
        exact (hN p hp).2 (e ▸ hs L hmem)
      · simp only [fa, List.filterMap_cons, hf] at hb ⊢
        exact List.mem_cons_of_mem _ hb
  exact aux2 fr (fun _ q => q) G.ff
/-- after a call that keeps all but frames' slots and the places told: the ground is laid anew -/
theorem frW {K : Frag} {p : Program} {loose : List Str} {mean : ExcName → Option Value} {mg mb : Str → Option Value} (G : Fl B fr h₀) (XB : K.In B) (TB : Top p loose mean mg mb B) (W₀ : Kw fr [] b₀ h₀) (F : Fr h₀ L h m) (N : News h₀ L h news)
    (W : Kw (env :: fr) mu h h') (hf : env.frame = some L) (hmu : ∀ a ∈ mu, h₀.get? a = none ∧ a ≠ L)
    (hN : ∀ p ∈ news', (h'.get? p.1 = some p.2 ∧ (h.get? p.1 = none ∨ p.1 ∈ mu)) ∨ (p ∈ news ∧ p.1 ∉ mu)) :
    ∃ h₁, Kw fr [] b₀ h₁ ∧ Fl B fr h₁ ∧ K.In h₁ ∧ Top p loose mean mg mb h₁ ∧ Fr h₁ L h' m ∧ News h₁ L h' news' := by
  have hfa : fa (env :: fr) = L :: fa fr := by simp [fa, List.filterMap_cons, hf]
  have inL : ∀ b ∈ fa fr, b ∈ fa (env :: fr) := fun b hb => by rw [hfa]; exact .tail _ hb
  have hfr0 : ∀ b ∈ fa fr, ∃ o, h₀.get? b = some o := fun b hb => let ⟨_, o, ho, _⟩ := G.frame hb; ⟨o, ho⟩
  have hfr1 : ∀ b ∈ fa fr, ∃ o, h'.get? b = some o := fun b hb => by
    obtain ⟨o, ho⟩ := hfr0 b hb
    obtain ⟨sl, e⟩ := W.slot b o (inL b hb) (F.keep b o ho)
    exact ⟨_, e⟩
  have hne : ∀ b o, h₀.get? b = some o → b ≠ L := fun b o e => Nat.ne_of_lt (Nat.lt_of_lt_of_le (Heap.lt_size e) F.above)
  have hat : ∀ b ∈ fa fr, (swp h' (fa fr) h₀).get? b = h'.get? b := fun b hb => swp_at h' (fa fr) h₀ hb hfr0 hfr1
  have hot : ∀ b, b ∉ fa fr → (swp h' (fa fr) h₀).get? b = h₀.get? b := fun b hb => swp_other h' (fa fr) h₀ hb
  have W1 : Kw fr [] h₀ (swp h' (fa fr) h₀) := by
    refine ⟨fun b o p _ e => (hot b p).trans e, fun b o p e => ?_⟩
    obtain ⟨sl, e2⟩ := W.slot b o (inL b p) (F.keep b o e)
    exact ⟨sl, (hat b p).trans e2⟩
  have G1 := G.kw W1 (fun _ q => nomatch q)
  have nsL : h'.Ns L m := by
    obtain ⟨o, es, ep, ho, hd, r⟩ := F.ns
    obtain ⟨sl, e2⟩ := W.slot L o (by rw [hfa]; exact .head _) ho
    exact ⟨_, es, ep, e2, hd, r⟩
  refine ⟨_, W₀.trans W1, G1, XB.keeps G1.kp, TB.keeps G1.kp, ⟨nsL, fun b o e => ?_, by rw [swp_size]; exact F.above⟩, fun p hp => ?_⟩
  · by_cases hb : b ∈ fa fr
    · rw [hat b hb] at e; exact e
    · rw [hot b hb] at e
      refine W.keep b o (fun q => ?_) (fun q => ?_) (F.keep b o e)
      · rw [hfa] at q
        rcases List.mem_cons.mp q with q | q
        · exact hne b o e q
        · exact hb q
      · rw [(hmu b q).1] at e; cases e
  · have hL : ∃ o, h.get? L = some o := let ⟨o, _, _, ho, _⟩ := F.ns; ⟨o, ho⟩
    have base : p.1 ≠ L ∧ h₀.get? p.1 = none := by
      rcases hN p hp with ⟨_, b | b⟩ | ⟨a, _⟩
      · refine ⟨fun q => ?_, ?_⟩
        · obtain ⟨o, ho⟩ := hL; rw [q, ho] at b; cases b
        · cases e : h₀.get? p.1 with
          | none => rfl
          | some o => rw [F.keep _ _ e] at b; cases b
      · exact ⟨(hmu _ b).2, (hmu _ b).1⟩
      · exact (N p a).2
    have ha2 : p.1 ∉ fa fr := fun q => by obtain ⟨o, ho⟩ := hfr0 _ q; rw [base.2] at ho; cases ho
    have ha : p.1 ∉ fa (env :: fr) := fun q => by
      rw [hfa] at q
      rcases List.mem_cons.mp q with q | q
      · exact base.1 q
      · exact ha2 q
    refine ⟨?_, base.1, (hot _ ha2).trans base.2⟩
    rcases hN p hp with ⟨a, _⟩ | ⟨a, b⟩
    · exact a
    · exact W.keep _ _ ha b (N _ a).1
/-- at a contract's end -/
theorem Kw.fin {s : Shared} {h₁ h' : Heap} (W : Kw fr [] (But s news) h₁) (k : Kp h₁ h') (hN : ∀ p ∈ news, p.1 ∉ fa fr) : Kw fr (news.map (·.1)) s.heap h' := by
  refine ⟨fun b o p q e => k _ _ (W.keep b o p (fun z => nomatch z) (but_of e q)), fun b o p e => ?_⟩
  obtain ⟨sl, e2⟩ := W.slot b o p (but_of e fun q => by obtain ⟨x, hx, rfl⟩ := List.mem_map.mp q; exact hN x hx p)
  exact ⟨sl, k _ _ e2⟩

/-- an end of the turns flies -/
def Rz (fr : List Env) (mu : List Addr) (news : List (Addr × Obj)) (h : Heap) (e : Addr) (h' : Heap) : Prop :=
  ∃ Bh a0, Heap.FlyingW Bh fr e (.type "StopIteration") a0 h' ∧ (∀ b o, b ∉ fa fr → b ∉ mu → h.get? b = some o → Bh.get? b = some o) ∧ (∀ q ∈ news, Bh.get? q.1 = some q.2) ∧
    ∀ b o, b ∈ fa fr → h.get? b = some o → ∃ sl, h'.get? b = some { o with slots := sl }
theorem Rz.kw {e : Addr} (R : Rz fr mu news h e h') : Kw fr mu h h' := by
  obtain ⟨Bh, a0, fl, k1, k2, k3⟩ := R
  exact ⟨fun b o p q x => fl.1 _ _ (k1 b o p q x), k3⟩
theorem Rz.get {e : Addr} (R : Rz fr mu news h e h') {q : Addr × Obj} (hq : q ∈ news) : h'.get? q.1 = some q.2 := by
  obtain ⟨Bh, a0, fl, k1, k2, k3⟩ := R
  exact fl.1 _ _ (k2 q hq)
theorem Rz.there {e : Addr} (R : Rz fr mu news h e h') : ∃ o, h'.get? e = some o ∧ o.cls = .type "StopIteration" := by
  obtain ⟨Bh, a0, fl, k1, k2, k3⟩ := R
  exact fl.there
end
section
variable {M : Model} {A : Around} {s s' : Shared} {Q : Unit → Shared → Prop} {E : Value → Shared → Prop} {B h₀ h : Heap} {fr : List Env} {L e : Addr} {m : Str → Option Value} {news news' out muts : List (Addr × Obj)} {mu : List Addr} {env : Env}
theorem leaveW (G : Fl B fr h₀) (W₀ : Kw fr [] (But s muts) h₀) (F : Fr h₀ L h m) (N : News h₀ L h news) (hf : env.frame = some L) (hA : A.frames = some fr)
    (R : Rz (env :: fr) mu news' h e s'.heap) (hmu : ∀ a ∈ mu, h₀.get? a = none) (hM : ∀ p ∈ muts, p.1 ∉ fa fr) (hout : ∀ q ∈ out, q ∈ news' ∨ (q ∈ news ∧ q.1 ∉ mu))
    (hQ : ∀ h', Rz fr (muts.map (·.1)) out s.heap e h' → Q () { s' with heap := h' }) : wpAny M (A.deeper env) (leaving env (.ref e)) Q E s' := by
  have hfa : fa (env :: fr) = L :: fa fr := by simp [fa, List.filterMap_cons, hf]
  obtain ⟨Bh, a0, fl, k1, k2, k3⟩ := R
  refine wpAny_leaves_onW (outer := fr) (Around.frames_deeper hA) hf fl fun h' x1 x2 => hQ h' ⟨Bh, a0, x1, fun b o p q x => ?_, fun q hq => ?_, fun b o p x => ?_⟩
  · have e1 := W₀.keep b o p (fun z => nomatch z) (but_of x q)
    refine k1 b o (fun z => ?_) (fun z => ?_) (F.keep b o e1)
    · rw [hfa] at z
      rcases List.mem_cons.mp z with z | z
      · exact Nat.ne_of_lt (Nat.lt_of_lt_of_le (Heap.lt_size e1) F.above) z
      · exact p z
    · rw [hmu b z] at e1; cases e1
  · rcases hout q hq with a | ⟨a, b⟩
    · exact k2 q a
    · exact k1 _ _ (G.apart N hf a) b (N q a).1
  · obtain ⟨sl, e1⟩ := W₀.slot b o p (but_of x fun q => by obtain ⟨y, hy, rfl⟩ := List.mem_map.mp q; exact hM y hy p)
    obtain ⟨sl2, e2⟩ := k3 b _ (by rw [hfa]; exact .tail _ p) (F.keep _ _ e1)
    obtain ⟨_, o', ho', hd'⟩ := G.frame p
    obtain rfl : o' = { o with slots := sl } := Option.some.inj (ho'.symm.trans e1)
    obtain ⟨sl3, e3⟩ := x2 b _ e2 hd'
    exact ⟨sl3, e3⟩
theorem raiseW {args : List Value} (G : Fl B fr h₀) (W₀ : Kw fr [] (But s muts) h₀) (F : Fr h₀ L h m) (N : News h₀ L h news) (hf : env.frame = some L) (hk : env.scope.kind = .function) (hA : A.frames = some fr)
    (R : Heap.MadeExcOf h s'.heap e (.type "StopIteration") args) (hM : ∀ p ∈ muts, p.1 ∉ fa fr) (hout : ∀ q ∈ out, q ∈ news)
    (hQ : ∀ h', Rz fr (muts.map (·.1)) out s.heap e h' → Q () { s' with heap := h' }) : wpAny M (A.deeper env) (leaving env (.ref e)) Q E s' := by
  have hfa : fa (env :: fr) = L :: fa fr := by simp [fa, List.filterMap_cons, hf]
  have G2 := G.push F hf hk
  have hin : ∀ x ∈ env :: fr, ∀ a, x.frame = some a → a ∈ fa (env :: fr) := fun x hx a ha => List.mem_filterMap.mpr ⟨x, hx, ha⟩
  refine wpAny_leaves_madeW (base := hideAll h (fa (env :: fr))) (outer := fr) (Around.frames_deeper hA) hf (fun b o x => of_hideAll _ x) (funFrames_hide G2.ff hin) R fun h' t x1 x2 x3 x4 =>
    hQ h' ⟨_, _, x1, fun b o p q x => ?_, fun q hq => ?_, fun b o p x => ?_⟩
  · have e1 := W₀.keep b o p (fun z => nomatch z) (but_of x q)
    refine hideAll_get _ (F.keep b o e1) fun z => ?_
    rw [hfa] at z
    rcases List.mem_cons.mp z with z | z
    · exact Nat.ne_of_lt (Nat.lt_of_lt_of_le (Heap.lt_size e1) F.above) z
    · exact p z
  · exact hideAll_get _ (N q (hout q hq)).1 (G.apart N hf (hout q hq))
  · obtain ⟨sl, e1⟩ := W₀.slot b o p (but_of x fun q => by obtain ⟨y, hy, rfl⟩ := List.mem_map.mp q; exact hM y hy p)
    obtain ⟨_, o', ho', hd'⟩ := G.frame p
    obtain rfl : o' = { o with slots := sl } := Option.some.inj (ho'.symm.trans e1)
    obtain ⟨sl3, e3⟩ := x4 b _ (R.keeps _ _ (F.keep _ _ e1)) hd'
    exact ⟨sl3, e3⟩
end
end Mine
namespace Mine
section
variable {prog : Program} {w : World} {A₀ : Around} {E : Value → Shared → Prop} {s' : Shared} {B b₀ h₀ h : Heap} {fr : List Env} {L a e : Addr} {m : Str → Option Value} {name : Str} {scope : Scope} {cd : Value}
  {suite1 : Stmt} {suite : List Stmt} {pos np : Pos} {rest : List ExceptHandler} {Q : Flow → Shared → Prop} {news news' : List (Addr × Obj)} {mu : List Addr}
  {K : Frag} {p : Program} {loose : List Str} {mean : ExcName → Option Value} {mg mb : Str → Option Value}
theorem stopExc : isSubtype (.type "StopIteration") (.type "BaseException") = pure true := by rw [isSubtype_type]; kernel_rfl
theorem stopNotTup : isSubtype (.type ((Manifest.find? "StopIteration").elim "type" fun y => y.metatype)) (.type "tuple") = pure false := by
  rw [show ((Manifest.find? "StopIteration").elim "type" fun y => y.metatype) = "type" from by kernel_rfl, isSubtype_type]; kernel_rfl
/-- a fresh StopIteration of a builtin is caught in the frame -/
theorem catchNew {x : Str} {ob : Obj} {vs : Array Value} {t0 : Value} (hx : x = "StopIteration") (G : Fl B fr h₀) (XB : K.In B) (TB : Top p loose mean mg mb B) (W₀ : Kw fr [] b₀ h₀) (X : K.In h₀) (T : Top p loose mean mg mb h₀)
    (F : Fr h₀ L h m) (N : News h₀ L h news) (hA : A₀.frames = some fr)
    (hkeep : ∀ b o, b ∉ mu → h.get? b = some o → s'.heap.get? b = some o) (hmu : ∀ b ∈ mu, ∃ o, (b, o) ∈ news)
    (hnew : h.get? e = none) (he : s'.heap.get? e = some ob) (hcls : ob.cls = .type "StopIteration") (hd : ob.data = .fields vs) (h1 : vs[1]? = some .none) (h0 : vs[0]? = some t0)
    (hN : ∀ p ∈ news', p.1 ∈ mu ∧ s'.heap.get? p.1 = some p.2 ∨ p ∈ news ∧ p.1 ∉ mu)
    (k : ∀ h₁ h', Kw fr [] b₀ h₁ → Fl B fr h₁ → K.In h₁ → Top p loose mean mg mb h₁ → Fr h₁ L h' m → News h₁ L h' news' →
      wpAny (model prog w) ((A₀.deeper (envOf name scope L a cd)).mark (some (.ref e))) (execs (suite1 :: suite) (envOf name scope L a cd)) Q E { s' with heap := h' })
    (hfx : nsIn K mainGlobals "StopIteration" = some none)
    (hk : scope.kind = .function := by rfl) (hgi : (envOf name scope L a cd).kindOf "StopIteration" = some .globalImplicit := by rfl)
    (hE : PassesOwnAt (model prog w) ((A₀.deeper (envOf name scope L a cd)).mark (some (.ref e))) (A₀.deeper (envOf name scope L a cd)) (envOf name scope L a cd) E := by passes_own) :
    wpAny (model prog w) (A₀.deeper (envOf name scope L a cd)) (noteFrame (.ref e) (envOf name scope L a cd))
      (fun _ s₂ => wpAny (model prog w) (A₀.deeper (envOf name scope L a cd)) (setFlight (.ref e) none) (fun _ s₃ =>
        wpAny (model prog w) (A₀.deeper (envOf name scope L a cd)) (handleBy (.ref e) (envOf name scope L a cd) (.ExceptHandler (some (.Name x np)) none (suite1 :: suite) pos :: rest)) Q E s₃) E s₂) E s' := by
  subst hx
  generalize hg : envOf name scope L a cd = env at *
  have hf : env.frame = some L := by rw [← hg]; rfl
  have hkm : env.scope.kind = .function := by rw [← hg]; exact hk
  have hfa : fa (env :: fr) = L :: fa fr := by simp [fa, hf]
  have G2 := G.push F hf hkm
  have hein : e ∉ fa (env :: fr) := fun q => by
    obtain ⟨_, o, ho, _⟩ := G2.frame q
    rw [hnew] at ho; cases ho
  have hemu : e ∉ mu := fun q => by
    obtain ⟨o, ho⟩ := hmu e q
    have := (N _ ho).1
    rw [hnew] at this; cases this
  have hfrs : ∀ b o, b ∈ fa (env :: fr) → h.get? b = some o → s'.heap.get? b = some o := fun b o hb e => hkeep b o (fun q => by
    obtain ⟨o, ho⟩ := hmu b q
    exact G.apart N hf ho hb) e
  -- the base: all but the exception and the frames
  have ff1 : s'.heap.FunFrames (hideAll s'.heap (e :: fa (env :: fr))) (env :: fr) := by
    refine funFrames_hide (base := B) ?_ fun x hx a ha => .tail _ (List.mem_filterMap.mpr ⟨x, hx, ha⟩)
    refine (G2.kw (mu := mu) ⟨fun b o _ q e => hkeep b o q e, fun b o q e => ⟨o.slots, hfrs b o q e⟩⟩ fun b hb => ?_).ff
    obtain ⟨o, ho⟩ := hmu b hb
    refine ⟨?_, G.apart N hf ho⟩
    cases q : B.get? b with
    | none => rfl
    | some o' => have := G.kp b o' q; rw [(N _ ho).2.2] at this; cases this
  have toKw : ∀ h₆, (hideAll s'.heap (e :: fa (env :: fr))).StaysIn h₆ → s'.heap.UpToSlots h₆ → Kw (env :: fr) mu h h₆ := fun h₆ hs up =>
    ⟨fun b o q1 q2 x => hs b o (hideAll_get _ (hkeep b o q2 x) fun z => by
      rcases List.mem_cons.mp z with z | z
      · rw [z, hnew] at x; cases x
      · exact q1 z), fun b o q x => by
      obtain ⟨_, o', ho', hd'⟩ := G2.frame q
      obtain rfl : o' = o := Option.some.inj (ho'.symm.trans x)
      exact up b _ (hfrs b _ q x) hd'⟩
  have hmu2 : ∀ a ∈ mu, h₀.get? a = none ∧ a ≠ L := fun a ha => by
    obtain ⟨o, ho⟩ := hmu a ha
    exact ⟨(N _ ho).2.2, (N _ ho).2.1⟩
  have hN2 : ∀ h₆, (hideAll s'.heap (e :: fa (env :: fr))).StaysIn h₆ → ∀ p ∈ news', (h₆.get? p.1 = some p.2 ∧ (h.get? p.1 = none ∨ p.1 ∈ mu)) ∨ (p ∈ news ∧ p.1 ∉ mu) := fun h₆ hs p hp => by
    rcases hN p hp with ⟨hm, hv⟩ | h
    · obtain ⟨o, ho⟩ := hmu _ hm
      refine .inl ⟨hs _ _ (hideAll_get _ hv fun z => ?_), .inr hm⟩
      rcases List.mem_cons.mp z with z | z
      · have := (N _ ho).1
        rw [z, hnew] at this; cases this
      · exact G.apart N hf ho z
    · exact .inr h
  unfold noteFrame
  simp only [hf]
  refine wpAny_bind (wpAny_field he hd h1 ?_)
  rw [if_neg (by decide)]
  refine wpAny_entryW (base := hideAll s'.heap (e :: fa (env :: fr))) (outer := fr) (Around.frames_deeper hA) ff1 hf he (fun b o x => of_hideAll _ x) (hideAll_none _ (.head _)) hd (Array.getElem?_eq_some_iff.mp h1).1 h0 fun h₄ hN4 => ?_
  obtain ⟨k1, k2, k3, k4⟩ := hN4
  rw [hcls] at k3
  refine wpAny_landsW ⟨k1, hideAll_none _ (.head _), k2, k3⟩ fun h₅ hfl5 up5 => ?_
  have up5' : s'.heap.UpToSlots h₅ := Heap.UpToSlots.trans k4 up5
  obtain ⟨h₁, W1, G1, X1, T1, F1, N1⟩ := frW (news' := news') G XB TB W₀ F N (toKw _ hfl5.1 up5') hf hmu2 (hN2 _ hfl5.1)
  obtain ⟨o5, ho5, hc5⟩ := hfl5.there
  refine wpAny_handleBy_builtin (X := "StopIteration") (T := "StopIteration") (b := true) stopExc stopNotTup owsi_facts.sub ?_
  refine nameG_B (env := env) F1 X1 (topRead_of T1) hfx (v := .type "StopIteration") (by first | rfl | decide +kernel) (by decide) ⟨rfl, ⟨o5, ho5, hc5⟩, ?_⟩ (by rw [← hg]; rfl) (by rw [← hg]; rfl) (by rw [← hg]; exact hk) (by rw [← hg]; rw [← hg] at hgi; exact hgi) (by decide)
  refine lands_againW hfl5 fun h₆ hfl6 up6 => ?_
  obtain ⟨h₂, W2, G2', X2, T2, F2, N2⟩ := frW (news' := news') G XB TB W₀ F N (toKw _ hfl6.1 (Heap.UpToSlots.trans up5' up6)) hf hmu2 (hN2 _ hfl6.1)
  exact wpAny_passesOwnAt hE (k h₂ h₆ W2 G2' X2 T2 F2 N2)
end
end Mine
namespace Mine
section
variable {prog : Program} {w : World} {A : Around} {E : Value → Shared → Prop} {s : Shared}
abbrev itObj (l : Addr) (i : Nat) : Obj := { cls := .type "list_iterator", data := .fields #[.ref l, .int i 0] }
/-- an iterator that has told all -/
abbrev itEnd (k : Value) : Obj := { cls := .type "list_iterator", data := .fields #[.none, k] }
theorem next_item {it l : Addr} {i : Nat} {items : Array Value} {x : Value} {Q : Value → Shared → Prop} (hI : s.heap.get? it = some (itObj l i)) (hl : s.heap.IsList l items) (hx : items[i]? = some x)
    (hQ : ∀ h', h'.get? it = some (itObj l (i + 1)) → Heap.SameBut it s.heap h' → Q x { s with heap := h' }) :
    wpAny (model prog w) A (call (.builtin "next") [.ref it]) Q E s := by
  have hit : s.heap.IsListIter it l i := ⟨_, hI, rfl, rfl⟩
  obtain ⟨ol, hol, _, nl, hdl⟩ := hl
  refine call_function_entry (by decide +kernel) (by decide +kernel) kdk_entry_next (kdk_args_next _) ?_
  unfold Builtin.«next»
  refine wpAny_bind (m := someArgs "next" 1 2 _) (wpAny_of_eq (a := [Value.ref it]) (by first | rfl | kernel_rfl!) ?_)
  dsimp only
  refine wpAny_bind (wpAny_specialOf (name := Str.ofString "__next__") hit.typeIs slot_listiter_next.lookup ?_)
  refine wpAny_ite_split (fun hab => absurd hab (by decide)) (fun _ => ?_)
  refine wpAny_bind (wpAny_callSpecial?_slot (name := Str.ofString "__next__") hit.typeIs slot_listiter_next
    (wpAny_call_entry slot_listiter_next hit.typeIs entry_listiter_next ?_ (args_listiter_next _)))
  show wpAny _ _ (field (.ref it) 0 >>= _) _ _ s
  refine wpAny_bind (wpAny_field hI rfl (x := .ref l) rfl ?_)
  show wpAny _ _ (if (Value.ref l == Value.none) = true then _ else _) _ _ s
  rw [if_neg (show ¬ ((Value.ref l == Value.none) = true) from Bool.false_ne_true)]
  show wpAny _ _ (field (.ref it) 1 >>= _) _ _ s
  refine wpAny_bind (wpAny_field hI rfl (x := .int i 0) rfl ?_)
  show wpAny _ _ (seqItems? (.ref l) >>= _) _ _ s
  refine wpAny_bind (wpAny_seqItems hol hdl ?_)
  simp only [Int.toNat_natCast, hx]
  refine wpAny_bind (wpAny_setField hI rfl (by simp) (wpAny_pure ⟨x, rfl, wpAny_pure ⟨_, rfl, hQ _ ?_ (Heap.SameBut.update ..)⟩⟩))
  exact (Heap.get?_update_self _ hI (by rfl)).trans (by simp [Obj.mapFields, rawInt])
theorem next_end {it l : Addr} {i : Nat} {items : Array Value} {Q : Value → Shared → Prop} (hh : A.handled = none) (hI : s.heap.get? it = some (itObj l i)) (hl : s.heap.IsList l items) (hx : items[i]? = none)
    (hE : ∀ h' e, (∃ k, h'.get? it = some (itEnd k)) → Heap.ExtBut it s.heap h' → s.heap.get? e = none → (∃ t, h'.get? e = some { cls := .type "StopIteration", data := .fields #[.ref t, .none, .none, .none, .bool false, .none] }) → E (.ref e) { s with heap := h' }) :
    wpAny (model prog w) A (call (.builtin "next") [.ref it]) Q E s := by
  have hit : s.heap.IsListIter it l i := ⟨_, hI, rfl, rfl⟩
  obtain ⟨ol, hol, _, nl, hdl⟩ := hl
  refine call_function_entry (by decide +kernel) (by decide +kernel) kdk_entry_next (kdk_args_next _) ?_
  unfold Builtin.«next»
  refine wpAny_bind (m := someArgs "next" 1 2 _) (wpAny_of_eq (a := [Value.ref it]) (by first | rfl | kernel_rfl!) ?_)
  dsimp only
  refine wpAny_bind (wpAny_specialOf (name := Str.ofString "__next__") hit.typeIs slot_listiter_next.lookup ?_)
  refine wpAny_ite_split (fun hab => absurd hab (by decide)) (fun _ => ?_)
  refine wpAny_bind (wpAny_callSpecial?_slot (name := Str.ofString "__next__") hit.typeIs slot_listiter_next
    (wpAny_call_entry slot_listiter_next hit.typeIs entry_listiter_next ?_ (args_listiter_next _)))
  show wpAny _ _ (field (.ref it) 0 >>= _) _ _ s
  refine wpAny_bind (wpAny_field hI rfl (x := .ref l) rfl ?_)
  show wpAny _ _ (if (Value.ref l == Value.none) = true then _ else _) _ _ s
  rw [if_neg (show ¬ ((Value.ref l == Value.none) = true) from Bool.false_ne_true)]
  show wpAny _ _ (field (.ref it) 1 >>= _) _ _ s
  refine wpAny_bind (wpAny_field hI rfl (x := .int i 0) rfl ?_)
  show wpAny _ _ (seqItems? (.ref l) >>= _) _ _ s
  refine wpAny_bind (wpAny_seqItems hol hdl ?_)
  simp only [Int.toNat_natCast, hx]
  refine wpAny_bind (wpAny_rule (wpAny_bind (wpAny_setField hI rfl (by simp) ?_)))
  show wpAny _ _ (newExc (.type "StopIteration") [] >>= _) _ _ _
  refine wpAny_bind ?_
  simp only [newExc, newTuple]
  refine wpAny_bind (wpAny_newObj_type ?_ (by size_fits))
  refine wpAny_bind (m := firstArgMember _ _) (wpAny_of_eq (a := Value.none) (by first | rfl | (simp only [firstArgMember]; rfl)) ?_)
  refine wpAny_newObj_type ?_ (by size_fits)
  simp only [raiseNew]
  refine wpAny_bind (wpAny_handled ?_)
  first | rw [show A.in1.handled = none from hh] | rw [hh]
  refine wpAny_bind (wpAny_pure (wpAny_throw ?_))
  have e0 : (s.heap.update it (Obj.mapFields (·.setIfInBounds 0 Value.none))).get? it = some (itEnd (.int i 0)) := (Heap.get?_update_self _ hI (by rfl)).trans (by simp [Obj.mapFields])
  have hnw : ∀ b, s.heap.objs.size ≤ b → s.heap.get? b = none := fun b hb => by
    cases q : s.heap.get? b with
    | none => rfl
    | some o => exact absurd (Heap.lt_size q) (Nat.not_lt.mpr hb)
  refine hE _ _ ⟨_, Heap.get?_push_of_some _ (Heap.get?_push_of_some _ e0)⟩ (((Heap.SameBut.update ..).extBut.push _).push _) (hnw _ ?_) ⟨_, Heap.get?_push_size _ rfl⟩
  rw [Heap.size_push, Heap.size_after_update]; exact Nat.le_succ _
theorem next_done {it : Addr} {k : Value} {Q : Value → Shared → Prop} (hh : A.handled = none) (hI : s.heap.get? it = some (itEnd k))
    (hE : ∀ h' e, (∀ b o, s.heap.get? b = some o → h'.get? b = some o) → s.heap.get? e = none → (∃ t, h'.get? e = some { cls := .type "StopIteration", data := .fields #[.ref t, .none, .none, .none, .bool false, .none] }) → E (.ref e) { s with heap := h' }) :
    wpAny (model prog w) A (call (.builtin "next") [.ref it]) Q E s := by
  have hit : s.TypeIs (.ref it) "list_iterator" := ⟨_, hI, rfl⟩
  refine call_function_entry (by decide +kernel) (by decide +kernel) kdk_entry_next (kdk_args_next _) ?_
  unfold Builtin.«next»
  refine wpAny_bind (m := someArgs "next" 1 2 _) (wpAny_of_eq (a := [Value.ref it]) (by first | rfl | kernel_rfl!) ?_)
  dsimp only
  refine wpAny_bind (wpAny_specialOf (name := Str.ofString "__next__") hit slot_listiter_next.lookup ?_)
  refine wpAny_ite_split (fun hab => absurd hab (by decide)) (fun _ => ?_)
  refine wpAny_bind (wpAny_callSpecial?_slot (name := Str.ofString "__next__") hit slot_listiter_next
    (wpAny_call_entry slot_listiter_next hit entry_listiter_next ?_ (args_listiter_next _)))
  show wpAny _ _ (field (.ref it) 0 >>= _) _ _ s
  refine wpAny_bind (wpAny_field hI rfl (x := .none) rfl ?_)
  show wpAny _ _ (if (Value.none == Value.none) = true then _ else _) _ _ s
  rw [if_pos (by rfl)]
  first | refine wpAny_bind (wpAny_rule ?_) | skip
  refine wpAny_bind ?_
  show wpAny _ _ (newExc (.type "StopIteration") [] >>= _) _ _ _
  refine wpAny_bind ?_
  simp only [newExc, newTuple]
  refine wpAny_bind (wpAny_newObj_type ?_ (by size_fits))
  refine wpAny_bind (m := firstArgMember _ _) (wpAny_of_eq (a := Value.none) (by first | rfl | (simp only [firstArgMember]; rfl)) ?_)
  refine wpAny_newObj_type ?_ (by size_fits)
  simp only [raiseNew]
  refine wpAny_bind (wpAny_handled ?_)
  first | rw [show A.in1.handled = none from hh] | rw [hh]
  refine wpAny_bind (wpAny_pure (wpAny_throw ?_))
  have hnw : ∀ b, s.heap.objs.size ≤ b → s.heap.get? b = none := fun b hb => by
    cases q : s.heap.get? b with
    | none => rfl
    | some o => exact absurd (Heap.lt_size q) (Nat.not_lt.mpr hb)
  refine hE _ _ (fun b o e => Heap.get?_push_of_some _ (Heap.get?_push_of_some _ e)) (hnw _ ?_) ⟨_, Heap.get?_push_size _ rfl⟩
  rw [Heap.size_push]; exact Nat.le_succ _
end
end Mine
namespace Mine
/-- the ground for a call: all that stands but the frames and the places told -/
theorem inner {B h₀ h : Heap} {fr : List Env} {L : Addr} {m : Str → Option Value} {news : List (Addr × Obj)} {env : Env} (M : List Addr) (G : Fl B fr h₀) (F : Fr h₀ L h m) (N : News h₀ L h news) (hf : env.frame = some L) (hk : env.scope.kind = .function)
    (hM : ∀ a ∈ M, ∃ o, (a, o) ∈ news) :
    Fl (hideAll h (M ++ fa (env :: fr))) (env :: fr) h ∧ Kp B (hideAll h (M ++ fa (env :: fr))) ∧ (∀ a ∈ M, (hideAll h (M ++ fa (env :: fr))).get? a = none ∧ a ∉ fa (env :: fr)) ∧
      (∀ q ∈ news, q.1 ∉ M → (hideAll h (M ++ fa (env :: fr))).get? q.1 = some q.2) ∧ (∀ b o, h₀.get? b = some o → b ∉ fa fr → (hideAll h (M ++ fa (env :: fr))).get? b = some o) := by
  have G2 := G.push F hf hk
  have hfa : fa (env :: fr) = L :: fa fr := by simp [fa, hf]
  have key : ∀ b o, h₀.get? b = some o → b ∉ fa fr → (hideAll h (M ++ fa (env :: fr))).get? b = some o := fun b o e hb => by
    refine hideAll_get _ (F.keep b o e) fun q => ?_
    rcases List.mem_append.mp q with q | q
    · obtain ⟨o', ho'⟩ := hM b q
      rw [(N _ ho').2.2] at e; cases e
    · rw [hfa] at q
      rcases List.mem_cons.mp q with q | q
      · exact Nat.ne_of_lt (Nat.lt_of_lt_of_le (Heap.lt_size e) F.above) q
      · exact hb q
  refine ⟨⟨fun b o e => of_hideAll _ e, funFrames_hide G2.ff fun x hx a ha => List.mem_append_right _ (List.mem_filterMap.mpr ⟨x, hx, ha⟩)⟩, fun b o e => ?_, fun a ha => ?_, fun q hq hn => ?_, key⟩
  · exact key b o (G.kp b o e) fun q => by rw [(G.frame q).1] at e; cases e
  · obtain ⟨o, ho⟩ := hM a ha
    exact ⟨hideAll_none _ (List.mem_append_left _ ha), G.apart N hf ho⟩
  · refine hideAll_get _ (N q hq).1 fun z => ?_
    rcases List.mem_append.mp z with z | z
    · exact hn z
    · exact G.apart N hf hq z
end Mine
theorem Mine.off11 : True := by w_top off; trivial
-- P07_pull
namespace Mine
theorem isL_but {s : Shared} {news : List (Addr × Obj)} {l : Addr} {its : Array Value} (hl : s.heap.IsList l its) (hn : l ∉ news.map (·.1)) : (But s news).IsList l its := hl.at fun _ e => but_of e hn
theorem l_ne_it {h : Heap} {l it : Addr} {its : Array Value} {o : Obj} (hl : h.IsList l its) (hI : h.get? it = some o) (hc : ∀ vs n, o.data ≠ .seq vs n) : l ≠ it := by
  obtain ⟨ol, hol, _, nl, hdl⟩ := hl
  intro e
  rw [e, hI] at hol
  obtain rfl := Option.some.inj hol
  exact hc _ _ hdl
theorem newsOne {h₀ h h' : Heap} {L : Addr} {a : Addr} {o o' : Obj} (N : News h₀ L h [(a, o)]) (e : h'.get? a = some o') : News h₀ L h' [(a, o')] := fun p hp => by
  rw [List.mem_singleton.mp hp]
  exact ⟨e, (N _ (.head _)).2⟩
abbrev tupObj (vs : Array Value) : Obj := { cls := .type "tuple", data := .seq vs }
theorem but_none {s : Shared} {news : List (Addr × Obj)} {b : Addr} (e : (But s news).get? b = none) (h : ∀ p ∈ news, p.1 ≠ b) : s.heap.get? b = none := by
  cases q : s.heap.get? b with
  | none => rfl
  | some o =>
    have := but_of q (news := news) fun z => by
      obtain ⟨p, hp, e⟩ := List.mem_map.mp z
      exact h p hp e
    rw [e] at this; cases this
theorem Kw.none {fr : List Env} {h h' : Heap} (W : Kw fr [] h h') {b : Addr} (e : h'.get? b = none) : h.get? b = none := by
  cases q : h.get? b with
  | none => rfl
  | some o =>
    by_cases hb : b ∈ fa fr
    · obtain ⟨sl, e2⟩ := W.slot b o hb q
      rw [e] at e2; cases e2
    · have := W.keep b o hb (fun z => nomatch z) q
      rw [e] at this; cases this
section
variable {w : World} {dp un : Nat} {fr : List Env} {gd : Option (List Code)} {s : Shared} {Q E : Value → Shared → Prop} {loose : List Str} {mean : ExcName → Option Value} {mg mb : Str → Option Value}
theorem pull_item {B : Heap} {it l : Addr} {i : Nat} {items : Array Value} {v : Value} (G : Fl B fr s.heap)
  (X : (hd.heap_39 w.params).In B) (T : Top topProg loose mean mg mb B) (hA : dp + 1 < recursionLimit)
  (hI : s.heap.get? it = some (itObj l i)) (hn : B.get? it = none ∧ it ∉ fa fr) (hl : s.heap.IsList l items) (hx : items[i]? = some v)
  (ret : ∀ h' tk' T, Kw fr [it] s.heap h' → h'.get? it = some (itObj l (i + 1)) → h'.get? T = some (tupObj #[.bool true, v]) → s.heap.get? T = none → Q (.ref T) {s with heap := h', toks := tk'}) :
  wpAny (model PySem.Challenge.rw_ev0005_01.row.prog w) (Ar dp un (some fr) gd) (call (.ref 45) [.ref it]) Q E s := by
  have hle : l ≠ it := l_ne_it hl hI (fun vs n q => by cases q)
  revert X; k_fill; intro X
  refine' enterH [(it, itObj l i)] G.kp ?hN ?k1 ?k2 ?k6 ?k7 ?k8 ?k9 ?kB ?_ ?c2 ?c3 ?c4 ?c5
  walk_at "M enterH"
  · intro p hp
    rw [List.mem_singleton.mp hp]
    exact ⟨hI, hn.1⟩
  intro h₁ tk₁ XB TB F N
  walk_at "M steps"
  refine next_item (N.get (.head _)) (l := l) (items := items) (i := i) (isL_base F (isL_but hl (by simpa using hle))) hx fun h₂ hi2 hs2 => ?_
  have F2 := F.change hs2 (N _ (.head _)).2.1 (N _ (.head _)).2.2
  have N2 := newsOne N hi2
  clear F N hs2
  walk_at "M steps"
  (with_reducible rename Fr _ _ _ _ => F); (with_reducible rename News _ _ _ _ => N); rename it < _ => hlt
  have hN : ∀ p ∈ [(it, itObj l i)], p.1 ∉ fa fr := fun p hp => by rw [List.mem_singleton.mp hp]; exact hn.2
  exact ret _ _ _ (Kw.fin .refl F.keep hN) (N.get (.tail _ (.head _))) (N.get (.head _))
    (but_none (N _ (.head _)).2.2 fun p hp => by rw [List.mem_singleton.mp hp]; exact Nat.ne_of_lt hlt)
theorem pull_end {B : Heap} {it l : Addr} {i : Nat} {items : Array Value} (G : Fl B fr s.heap)
  (X : (hd.heap_39 w.params).In B) (T : Top topProg loose mean mg mb B) (hA : dp + 1 < recursionLimit)
  (hI : s.heap.get? it = some (itObj l i)) (hn : B.get? it = none ∧ it ∉ fa fr) (hl : s.heap.IsList l items) (hx : items[i]? = none)
  (ret : ∀ h' tk' T k, Kw fr [it] s.heap h' → h'.get? it = some (itEnd k) → h'.get? T = some (tupObj #[.bool false, .none]) → s.heap.get? T = none → Q (.ref T) {s with heap := h', toks := tk'}) :
  wpAny (model PySem.Challenge.rw_ev0005_01.row.prog w) (Ar dp un (some fr) gd) (call (.ref 45) [.ref it]) Q E s := by
  have hle : l ≠ it := l_ne_it hl hI (fun vs n q => by cases q)
  have hN : ∀ p ∈ [(it, itObj l i)], B.get? p.1 = none ∧ p.1 ∉ fa fr := fun p hp => by rw [List.mem_singleton.mp hp]; exact hn
  have G0 := G.but (s := s) hN
  revert X; k_fill; intro X
  refine' enterH [(it, itObj l i)] G.kp ?hN ?k1 ?k2 ?k6 ?k7 ?k8 ?k9 ?kB ?_ ?c2 ?c3 ?c4 ?c5
  walk_at "M enterH"
  · intro p hp
    rw [List.mem_singleton.mp hp]
    exact ⟨hI, hn.1⟩
  intro h₁ tk₁ XB TB F N
  walk_at "M steps"
  refine next_end rfl (N.get (.head _)) (l := l) (items := items) (i := i) (isL_base F (isL_but hl (by simpa using hle))) hx fun h₂ e hi2 hk2 hne he => ?_
  walk_at "M steps"
  obtain ⟨k, hi2⟩ := hi2
  obtain ⟨t, he⟩ := he
  refine catchNew (m := _) (news := [(it, itObj l i)]) (news' := [(it, itEnd k)]) (mu := [it]) rfl G0 X T .refl XB TB F N rfl ?_ ?_ hne he rfl rfl rfl rfl ?_ ?_ ?_
  · exact fun b o hb e => hk2 b o (by simpa using hb) e
  · exact fun b hb => by rw [List.mem_singleton.mp hb]; exact ⟨_, .head _⟩
  · exact fun p hp => by rw [List.mem_singleton.mp hp]; exact .inl ⟨.head _, hi2⟩
  · intro h₃ h₄ W₃ G₃ X₃ T₃ F₃ N₃
    walk_at "M steps"
    (with_reducible rename Fr _ _ _ _ => F₄); (with_reducible rename News _ _ _ _ => N₄); rename it < _ => hlt
    have hMf : ∀ p ∈ [(it, itObj l i)], p.1 ∉ fa fr := fun p hp => (hN p hp).2
    refine ret _ _ _ k (W₃.fin F₄.keep hMf) (N₄.get (.tail _ (.head _))) (N₄.get (.head _))
      (but_none (W₃.none (N₄ _ (.head _)).2.2) fun p hp => by rw [List.mem_singleton.mp hp]; exact Nat.ne_of_lt hlt)
  · k_is
theorem pull_done {B : Heap} {it : Addr} {k : Value} (G : Fl B fr s.heap)
  (X : (hd.heap_39 w.params).In B) (T : Top topProg loose mean mg mb B) (hA : dp + 1 < recursionLimit)
  (hI : s.heap.get? it = some (itEnd k)) (hn : B.get? it = none ∧ it ∉ fa fr)
  (ret : ∀ h' tk' T, Kw fr [it] s.heap h' → h'.get? it = some (itEnd k) → h'.get? T = some (tupObj #[.bool false, .none]) → s.heap.get? T = none → Q (.ref T) {s with heap := h', toks := tk'}) :
  wpAny (model PySem.Challenge.rw_ev0005_01.row.prog w) (Ar dp un (some fr) gd) (call (.ref 45) [.ref it]) Q E s := by
  have hN : ∀ p ∈ [(it, itEnd k)], B.get? p.1 = none ∧ p.1 ∉ fa fr := fun p hp => by rw [List.mem_singleton.mp hp]; exact hn
  have G0 := G.but (s := s) hN
  revert X; k_fill; intro X
  refine' enterH [(it, itEnd k)] G.kp ?hN ?k1 ?k2 ?k6 ?k7 ?k8 ?k9 ?kB ?_ ?c2 ?c3 ?c4 ?c5
  walk_at "M enterH"
  · intro p hp
    rw [List.mem_singleton.mp hp]
    exact ⟨hI, hn.1⟩
  intro h₁ tk₁ XB TB F N
  walk_at "M steps"
  refine next_done rfl (N.get (.head _)) fun h₂ e hk2 hne he => ?_
  walk_at "M steps"
  obtain ⟨t, he⟩ := he
  refine catchNew (m := _) (news := [(it, itEnd k)]) (news' := [(it, itEnd k)]) (mu := [it]) rfl G0 X T .refl XB TB F N rfl ?_ ?_ hne he rfl rfl rfl rfl ?_ ?_ ?_
  · exact fun b o hb e => hk2 b o e
  · exact fun b hb => by rw [List.mem_singleton.mp hb]; exact ⟨_, .head _⟩
  · exact fun p hp => by rw [List.mem_singleton.mp hp]; exact .inl ⟨.head _, hk2 _ _ (N.get (.head _))⟩
  · intro h₃ h₄ W₃ G₃ X₃ T₃ F₃ N₃
    walk_at "M steps"
    (with_reducible rename Fr _ _ _ _ => F₄); (with_reducible rename News _ _ _ _ => N₄); rename it < _ => hlt
    have hMf : ∀ p ∈ [(it, itEnd k)], p.1 ∉ fa fr := fun p hp => (hN p hp).2
    refine ret _ _ _ (W₃.fin F₄.keep hMf) (N₄.get (.tail _ (.head _))) (N₄.get (.head _))
      (but_none (W₃.none (N₄ _ (.head _)).2.2) fun p hp => by rw [List.mem_singleton.mp hp]; exact Nat.ne_of_lt hlt)
  · k_is
/-- the iterator has no more -/
def Dry (h : Heap) (oi : Obj) : Prop := (∃ l i items, oi = itObj l i ∧ h.IsList l items ∧ items[i]? = none) ∨ ∃ k, oi = itEnd k
theorem pull_stop {B : Heap} {it : Addr} {oi : Obj} (G : Fl B fr s.heap)
  (X : (hd.heap_39 w.params).In B) (T : Top topProg loose mean mg mb B) (hA : dp + 1 < recursionLimit)
  (hI : s.heap.get? it = some oi) (hn : B.get? it = none ∧ it ∉ fa fr) (hd' : Dry s.heap oi)
  (ret : ∀ h' tk' T k, Kw fr [it] s.heap h' → h'.get? it = some (itEnd k) → h'.get? T = some (tupObj #[.bool false, .none]) → s.heap.get? T = none → Q (.ref T) {s with heap := h', toks := tk'}) :
  wpAny (model PySem.Challenge.rw_ev0005_01.row.prog w) (Ar dp un (some fr) gd) (call (.ref 45) [.ref it]) Q E s := by
  rcases hd' with ⟨l, i, items, rfl, hl, hx⟩ | ⟨k, rfl⟩
  · exact pull_end G X T hA hI hn hl hx ret
  · exact pull_done G X T hA hI hn fun h' tk' T a b c d => ret h' tk' T k a b c d
end
end Mine
theorem Mine.off12 : True := by w_top off; trivial
-- P08_gb
namespace Mine
/-- as enterH, at a call's code -/
theorem enterHc {K : Frag} {B : Heap} (news : List (Addr × Obj)) {prog : Program} {w : World} {A : Around} {s : Shared} {R : Result → Shared → Prop} {p : Program} {loose : List Str} {mean : ExcName → Option Value} {mg mb : Str → Option Value} {name qual : Str} {params : Arguments} {body : List Stmt} {scope : Scope} {dV kV doc pm cdv ct oc : Value} {an od : Option Addr} {osl : Array (Option Value)} {f : Addr} {args : List Value} {kw : List (Str × Value)} {binds : List (Str × Value)}
    (hB : Kp B s.heap) (hN : ∀ p ∈ news, s.heap.get? p.1 = some p.2 ∧ B.get? p.1 = none) (X : K.In B) (T : Top p loose mean mg mb B)
    (ho : K.lookup f = some ⟨oc, od, .func (fnOf name qual params body scope dV kV doc pm an cdv ct), osl⟩) (hcd : codeIn K cdv qual = true) (hroom : A.depth < recursionLimit)
    (hbind : BindsTo s (fnOf name qual params body scope dV kV doc pm an cdv ct) ⟨args, kw⟩ binds) (hloc : ∀ y ∈ binds, scope.names.lookup y.1 = some .local)
    (h : ∀ h₁ tk₁, K.In (But s news) → Top p loose mean mg mb (But s news) → Fr (But s news) s.heap.objs.size h₁ (fun y => binds.reverse.lookup y) → News (But s news) s.heap.objs.size h₁ news →
      wpAny (model prog w) (A.deeper (envOf qual scope s.heap.objs.size f cdv)) (execs body (envOf qual scope s.heap.objs.size f cdv))
        (fun fl s' => R (.ok (.ret (match fl with | .ret v => v | _ => .none))) s')
        (fun e s' => wpAny (model prog w) (A.deeper (envOf qual scope s.heap.objs.size f cdv)) (leaving (envOf qual scope s.heap.objs.size f cdv) e) (fun _ s'' => R (.error e) s'') (fun e' s'' => R (.error e') s'') s')
        { s with heap := h₁, toks := tk₁ })
    (hco : scope.isCoroutine = false := by rfl) (hgen : scope.isGenerator = false := by rfl) (hk : scope.kind = .function := by rfl)
    (hcell : ∀ x ∈ scope.names, x.2 ≠ .cell := by decide) : codeAny (model prog w) A (.call (.ref f) ⟨args, kw⟩) R s := by
  have st : Kp B (But s news) := but_base hB fun p hp => (hN p hp).2
  refine codeAny_call_def (fd := fnOf name qual params body scope dV kV doc pm an cdv ct) (body := body) (binds := binds) hroom (hB _ _ (X _ _ ho)) rfl (T.nolimit.keeps hB) (codeRec_of (X.keeps hB) hcd) rfl hbind hcell hloc (fun h₁ hns hk₁ => ?_) hco hgen hk
  refine h h₁ _ (X.keeps st) (T.keeps st) ⟨hns, fun b o e => hk₁ b o (of_hideAll _ e), Nat.le_of_eq (hideAll_size _ _)⟩ fun p hp => ⟨hk₁ _ _ (hN p hp).1, Nat.ne_of_lt (Heap.lt_size (hN p hp).1), hideAll_none _ (List.mem_map_of_mem hp)⟩
/-- back in the caller's frame, when all but some of its own objects stand -/
theorem backB {h₀ h h' : Heap} {L : Addr} {m : Str → Option Value} {news news' : List (Addr × Obj)} {mu : List Addr} (F : Fr h₀ L h m) (N : News h₀ L h news) (k : ∀ b o, b ∉ mu → h.get? b = some o → h'.get? b = some o)
    (hmu : ∀ a ∈ mu, h₀.get? a = none ∧ a ≠ L) (hN : ∀ p ∈ news', (h'.get? p.1 = some p.2 ∧ (h.get? p.1 = none ∨ p.1 ∈ mu)) ∨ (p ∈ news ∧ p.1 ∉ mu)) : Fr h₀ L h' m ∧ News h₀ L h' news' := by
  have hL : L ∉ mu := fun q => (hmu L q).2 rfl
  obtain ⟨oL, es, ep, hoL, r⟩ := F.ns
  refine ⟨⟨⟨oL, es, ep, k _ _ hL hoL, r⟩, fun b o e => k _ _ (fun q => ?_) (F.keep b o e), F.above⟩, fun p hp => ?_⟩
  · rw [(hmu b q).1] at e; cases e
  · rcases hN p hp with ⟨a, b | b⟩ | ⟨a, b⟩
    · refine ⟨a, fun q => ?_, ?_⟩
      · rw [q, hoL] at b; cases b
      · cases e : h₀.get? p.1 with
        | none => rfl
        | some o => rw [F.keep _ _ e] at b; cases b
    · exact ⟨a, (hmu _ b).2, (hmu _ b).1⟩
    · exact ⟨k _ _ b (N p a).1, (N p a).2⟩
abbrev gbO (dx it kf : Addr) (cg : Int) (u : Tok) (ck cv : Value) (hk hv ht : Bool) (ser : Int) (u2 : Tok) (tk : Value) : Obj :=
  { cls := .ref 93, dict := some dx, slots := #[some (.int cg u), some ck, some cv, some (.bool hk), some (.bool hv), some (.bool ht), some (.ref it), some (.ref kf), some (.int ser u2), some tk] }
section
variable {prog : Program} {w : World} {A : Around} {E : Value → Shared → Prop} {s : Shared} {h₀ : Heap} {L : Addr} {m : Str → Option Value} {news : List (Addr × Obj)}
theorem iter_list {l : Addr} {items : Array Value} {Q : Value → Shared → Prop} (F : Fr h₀ L s.heap m) (N : News h₀ L s.heap news) (hl : s.heap.IsList l items)
    (h : ∀ (I : Addr) h', Fr h₀ L h' m → News h₀ L h' ((I, itObj l 0) :: news) → (∀ p ∈ news, p.1 < I) → Q (.ref I) { s with heap := h' }) :
    wpAny (model prog w) A (call (.builtin "iter") [.ref l]) Q E s := by
  refine call_function_entry (by decide +kernel) (by decide +kernel) kdk_entry_iter (kdk_args_iter _) ?_
  unfold Builtin.«iter»
  refine wpAny_bind (m := someArgs "iter" 1 2 _) (wpAny_of_eq (a := [Value.ref l]) (by first | rfl | kernel_rfl!) ?_)
  show wpAny _ _ (pyIter (.ref l) >>= _) _ _ _
  refine wpAny_bind (wpAny_pyIter_list hl ?_)
  exact wpAny_pure ⟨_, rfl, h _ _ (F.push _) (News.push F N _ rfl) (fun q hq => Heap.lt_size (N q hq).1)⟩
end
section
variable {w : World} {dp un : Nat} {fr : List Env} {gd : Option (List Code)} {s : Shared} {Q E : Value → Shared → Prop} {loose : List Str} {mean : ExcName → Option Value} {mg mb : Str → Option Value}
theorem gb_new {h₀ : Heap} {L : Addr} {m : Str → Option Value} {news : List (Addr × Obj)} {l kf : Addr} {items : Array Value} (F : Fr h₀ L s.heap m) (N : News h₀ L s.heap news)
  (X : (hd.heap_39 w.params).In h₀) (T : Top topProg loose mean mg mb h₀) (hA : dp + 3 < recursionLimit)
  (hl : ∀ h', Fr h₀ L h' m → News h₀ L h' news → h'.IsList l items)
  (ret : ∀ h' tk' x dx I u u2, Fr h₀ L h' m → News h₀ L h' ((x, gbO dx I kf 0 u .none .none false false false 0 u2 .none) :: (dx, dictOf [] 0) :: (I, itObj l 0) :: news) → (∀ p ∈ news, p.1 < dx) → dx < x → x < I → Q (.ref x) {s with heap := h', toks := tk'}) :
  wpAny (model PySem.Challenge.rw_ev0005_01.row.prog w) (Ar dp un (some fr) gd) (call (.ref 93) [.ref l, .ref kf]) Q E s := by
  revert X; k_fill; intro X
  refine' call_cls F X N ?k4 ?k5 ?k6 ?_
  (case k4 => k_is); (case k5 => k_is); (case k6 => k_is)
  intro x dx h' F' N' l1 hlt
  k_lt2 hlt
  have XS := X.keeps F'.keep
  have hl' := hl _ F' fun p hp => N' p (by simp [hp])
  have hlx : l ≠ x := by
    obtain ⟨ol, hol, _, nl, hdl⟩ := hl'
    intro e
    have := (N' _ (.head _)).1
    rw [← e] at this
    rw [this] at hol
    obtain rfl := Option.some.inj hol
    cases hdl
  have hldx : l ≠ dx := by
    obtain ⟨ol, hol, _, nl, hdl⟩ := hl'
    intro e
    have := (N' _ (.tail _ (.head _))).1
    rw [← e] at this
    rw [this] at hol
    obtain rfl := Option.some.inj hol
    cases hdl
  refine' enterHc [(x, instObj 93 dx), (dx, dictOf [] 0)] F'.keep ?hN ?k1 ?k2 ?k6 ?k7 ?k8 ?k9 ?kB ?_ ?c2 ?c3 ?c4 ?c5
  walk_at "M enterH"
  · intro p hp
    have := N' p (by simp at hp; rcases hp with rfl | rfl <;> simp)
    exact ⟨this.1, this.2.2⟩
  intro h₁ tk₁ XB TB F N
  walk_at "M steps"
  (with_reducible rename Fr (But _ _) _ _ _ => F)
  (with_reducible rename News (But _ _) _ _ _ => N)
  refine iter_list F N (items := items) ?_ ?_
  · exact isL_base F (isL_but hl' (by simp [hlx, hldx]))
  intro I h₂ F2 N2 l2
  clear F N
  k_lt l2
  walk_at "M steps"
  (with_reducible rename Fr (But _ _) _ _ _ => F)
  (with_reducible rename News (But _ _) _ _ _ => N)
  obtain ⟨l2x, l2d⟩ := l2
  refine ⟨rfl, ?_⟩
  obtain ⟨F3, N3⟩ := backB (news' := (x, gbO dx I kf 0 _ .none .none false false false 0 _ .none) :: (dx, dictOf [] 0) :: (I, itObj l 0) :: news) (mu := [x, dx]) F' N' (fun b o hb e => F.keep _ _ (but_of e (by simpa using hb)))
    (fun a ha => by
      have hm : ∃ o, (a, o) ∈ (x, instObj 93 dx) :: (dx, dictOf [] 0) :: news := by
        rcases List.mem_cons.mp ha with rfl | ha
        · exact ⟨_, .head _⟩
        · rw [List.mem_singleton.mp ha]; exact ⟨_, .tail _ (.head _)⟩
      obtain ⟨o, hm⟩ := hm
      exact ⟨(N' _ hm).2.2, (N' _ hm).2.1⟩)
    (fun p hp => by
      rcases List.mem_cons.mp hp with rfl | hp
      · exact .inl ⟨N.get (.tail _ (.head _)), .inr (.head _)⟩
      rcases List.mem_cons.mp hp with rfl | hp
      · exact .inl ⟨N.get (.tail _ (.tail _ (.head _))), .inr (.tail _ (.head _))⟩
      rcases List.mem_cons.mp hp with rfl | hp
      · refine .inl ⟨N.get (.head _), .inl (but_none (N _ (.head _)).2.2 fun p hp => ?_)⟩
        rcases List.mem_cons.mp hp with rfl | hp
        · exact Nat.ne_of_lt l2x
        · rw [List.mem_singleton.mp hp]; exact Nat.ne_of_lt l2d
      · have := l1 p hp
        refine .inr ⟨.tail _ (.tail _ hp), fun q => ?_⟩
        rcases List.mem_cons.mp q with q | q
        · rw [q] at this; exact absurd (Nat.lt_trans this hlt) (Nat.lt_irrefl _)
        · rw [List.mem_singleton.mp q] at this; exact absurd this (Nat.lt_irrefl _))
  exact ret _ _ x dx I _ _ F3 N3 l1 hlt l2x
end
end Mine
theorem Mine.off13 : True := by w_top off; trivial
-- P09_step
namespace Mine
/-- what a call of the key function gives -/
def KeyFn (w : World) (B : Heap) (kf : Addr) (f : List Nat → Bool) : Prop :=
  ∀ {dp un : Nat} {fr : List Env} {gd : Option (List Code)} {s : Shared} {Q E : Value → Shared → Prop} {a : List Nat} {t : Tok}, a ≠ [] → a.length ≤ 100000 → dp + 1 < recursionLimit → Kp B s.heap →
    (∀ h' tk', Kp s.heap h' → Q (.bool (f a)) { s with heap := h', toks := tk' }) →
    wpAny (model PySem.Challenge.rw_ev0005_01.row.prog w) (Ar dp un (some fr) gd) (call (.ref kf) [.str (S a) t]) Q E s
theorem fnAt_keeps {q : Addr} {h h' : Heap} (x : FnAt q h) (k : Kp h h') : FnAt q h' := let ⟨oc, od, fd, sl, e⟩ := x; ⟨oc, od, fd, sl, k _ _ e⟩
theorem nin3 {l x y z : Addr} (h1 : x ≠ l) (h2 : y ≠ l) (h3 : z ≠ l) : l ∉ [x, y, z] := nin (List.forall_mem_cons.mpr ⟨h1, List.forall_mem_cons.mpr ⟨h2, List.forall_mem_singleton.mpr h3⟩⟩)
structure Gb (h : Heap) (x dx I : Addr) (ox oi : Obj) : Prop where
  gx : h.get? x = some ox
  gd : h.get? dx = some (dictOf [] 0)
  gi : h.get? I = some oi
  dx_x : dx < x
  x_I : x < I
structure Out (B : Heap) (fr : List Env) (x dx I : Addr) : Prop where
  x : B.get? x = none ∧ x ∉ fa fr
  d : B.get? dx = none ∧ dx ∉ fa fr
  i : B.get? I = none ∧ I ∉ fa fr
section
variable {w : World} {dp un : Nat} {fr : List Env} {gd : Option (List Code)} {s : Shared} {Q E : Value → Shared → Prop} {loose : List Str} {mean : ExcName → Option Value} {mg mb : Str → Option Value}
  {B : Heap} {x dx I l kf : Addr} {i : Nat} {items : Array Value}
theorem step_item {cg ser : Int} {u u2 : Tok} {ck cv tg : Value} {hk hv ht : Bool} {a : List Nat} {t : Tok} {f : List Nat → Bool} (G : Fl B fr s.heap)
  (X : (hd.heap_39 w.params).In B) (T : Top topProg loose mean mg mb B) (hA : dp + 2 < recursionLimit)
  (hg : Gb s.heap x dx I (gbO dx I kf cg u ck cv hk hv ht ser u2 tg) (itObj l i)) (ho : Out B fr x dx I) (hl : s.heap.IsList l items) (hx : items[i]? = some (.str (S a) t)) (ha : a ≠ [] ∧ a.length ≤ 100000) (hkf : KeyFn w B kf f) (hko : FnAt kf B)
  (ret : ∀ h' tk', Kw fr [x, dx, I] s.heap h' → Gb h' x dx I (gbO dx I kf cg u (.bool (f a)) (.str (S a) t) true true ht ser u2 tg) (itObj l (i + 1)) → Q .none {s with heap := h', toks := tk'}) :
  wpAny (model PySem.Challenge.rw_ev0005_01.row.prog w) (Ar dp un (some fr) gd) (call (.ref 82) [.ref x]) Q E s := by
  obtain ⟨gx, gdd, gi, l1, l2⟩ := hg
  k_lt2 l1
  k_lt2 l2
  revert X; k_fill; intro X
  have hlI : l ≠ I := l_ne_it hl gi (fun vs n q => by cases q)
  have hlx : l ≠ x := l_ne_it hl gx (fun vs n q => by cases q)
  have hld : l ≠ dx := l_ne_it hl gdd (fun vs n q => by cases q)
  have hN : ∀ p ∈ [(x, gbO dx I kf cg u ck cv hk hv ht ser u2 tg), (dx, dictOf [] 0), (I, itObj l i)], s.heap.get? p.1 = some p.2 ∧ B.get? p.1 = none ∧ p.1 ∉ fa fr := by
    simp only [List.forall_mem_cons]
    exact ⟨⟨gx, ho.x⟩, ⟨gdd, ho.d⟩, ⟨gi, ho.i⟩, fun _ h => nomatch h⟩
  have G0 := G.but (s := s) fun p hp => (hN p hp).2
  refine' enterH [(x, gbO dx I kf cg u ck cv hk hv ht ser u2 tg), (dx, dictOf [] 0), (I, itObj l i)] G.kp ?hN ?k1 ?k2 ?k6 ?k7 ?k8 ?k9 ?kB ?_ ?c2 ?c3 ?c4 ?c5
  walk_at "M enterH"
  · exact fun p hp => ⟨(hN p hp).1, (hN p hp).2.1⟩
  intro h₁ tk₁ XB TB F N
  walk_at "M steps"
  walk_at "M go"
  refine ⟨by k_in, ?_⟩
  refine pull_item (B := B) (G0.push F rfl rfl) X T (by omega) (N.get (.tail _ (.tail _ (.head _)))) ⟨ho.i.1, G0.apart N rfl (.tail _ (.tail _ (.head _)))⟩
    (isL_base F (isL_but hl (nin (by simp only [List.map_cons, List.map_nil, List.forall_mem_cons]; exact ⟨hlx.symm, hld.symm, hlI.symm, fun _ h => nomatch h⟩)))) hx fun h₂ tk₂ P W2 hI2 hP hPn => ?_
  have hne := fresh_ne N hPn
  simp only [List.forall_mem_cons, List.forall_mem_nil, and_true] at hne
  obtain ⟨h₃, W3, G3, X3, T3, F3, N3⟩ := frW (news' := (P, tupObj #[.bool true, .str (S a) t]) :: (x, gbO dx I kf cg u ck cv hk hv ht ser u2 tg) :: (dx, dictOf [] 0) :: (I, itObj l (i + 1)) :: []) G0 X T .refl F N W2 rfl
    (List.forall_mem_singleton.mpr ⟨(N _ (.tail _ (.tail _ (.head _)))).2.2, (N _ (.tail _ (.tail _ (.head _)))).2.1⟩)
    (by
      simp only [List.forall_mem_cons]
      refine ⟨.inl ⟨hP, .inl hPn⟩, ?_, ?_, .inl ⟨hI2, .inr (.head _)⟩, fun _ h => nomatch h⟩
      · walk_at "M keep"
      · walk_at "M keep")
  clear F N XB TB G0
  walk_at "M steps"
  (with_reducible rename Fr _ _ _ _ => F); (with_reducible rename News _ _ _ _ => N)
  have hkB : Kp B _ := fun b o e => F.keep _ _ (G3.kp _ _ e)
  refine' callWith_F ?k1 ?_
  (case k1 => exact fnAt_keeps hko hkB)
  walk_at "M steps"
  walk_at "M go"
  refine ⟨fnAt_keeps hko hkB, ?_⟩
  refine hkf ha.1 ha.2 (by omega) hkB fun h₄ tk₄ hk4 => ?_
  obtain ⟨F4, N4⟩ := frK F N hk4
  clear F N hkB
  walk_at "M steps"
  (with_reducible rename Fr _ _ _ _ => F); (with_reducible rename News _ _ _ _ => N)
  refine ret _ _ (Kw.fin W3 F.keep fun p hp => (hN p hp).2.2) ⟨N.get (.tail _ (.head _)), N.get (.tail _ (.tail _ (.head _))), N.get (.tail _ (.tail _ (.tail _ (.head _)))), l1, l2⟩
theorem step_stop {cg ser : Int} {u u2 : Tok} {ck cv tg : Value} {hk hv ht : Bool} {oi : Obj} (G : Fl B fr s.heap)
  (X : (hd.heap_39 w.params).In B) (T : Top topProg loose mean mg mb B) (hA : dp + 2 < recursionLimit)
  (hg : Gb s.heap x dx I (gbO dx I kf cg u ck cv hk hv ht ser u2 tg) oi) (ho : Out B fr x dx I) (hdry : Dry s.heap oi)
  (ret : ∀ h' tk' e k, Rz fr [x, dx, I] [(x, gbO dx I kf cg u ck cv hk hv ht ser u2 tg), (dx, dictOf [] 0), (I, itEnd k)] s.heap e h' → E (.ref e) {s with heap := h', toks := tk'}) :
  wpAny (model PySem.Challenge.rw_ev0005_01.row.prog w) (Ar dp un (some fr) gd) (call (.ref 82) [.ref x]) Q E s := by
  obtain ⟨gx, gdd, gi, l1, l2⟩ := hg
  k_lt2 l1
  k_lt2 l2
  revert X; k_fill; intro X
  have hN : ∀ p ∈ [(x, gbO dx I kf cg u ck cv hk hv ht ser u2 tg), (dx, dictOf [] 0), (I, oi)], s.heap.get? p.1 = some p.2 ∧ B.get? p.1 = none ∧ p.1 ∉ fa fr := by
    simp only [List.forall_mem_cons]
    exact ⟨⟨gx, ho.x⟩, ⟨gdd, ho.d⟩, ⟨gi, ho.i⟩, fun _ h => nomatch h⟩
  have G0 := G.but (s := s) fun p hp => (hN p hp).2
  refine' enterH [(x, gbO dx I kf cg u ck cv hk hv ht ser u2 tg), (dx, dictOf [] 0), (I, oi)] G.kp ?hN ?k1 ?k2 ?k6 ?k7 ?k8 ?k9 ?kB ?_ ?c2 ?c3 ?c4 ?c5
  walk_at "M enterH"
  · exact fun p hp => ⟨(hN p hp).1, (hN p hp).2.1⟩
  intro h₁ tk₁ XB TB F N
  have hdry1 : Dry h₁ oi := by
    rcases hdry with ⟨l, i, items, rfl, hl, hx⟩ | h
    · have hlI : l ≠ I := l_ne_it hl gi (fun vs n q => by cases q)
      have hlx : l ≠ x := l_ne_it hl gx (fun vs n q => by cases q)
      have hld : l ≠ dx := l_ne_it hl gdd (fun vs n q => by cases q)
      exact .inl ⟨l, i, items, rfl, (isL_but (s := s) (news := [(x, gbO dx I kf cg u ck cv hk hv ht ser u2 tg), (dx, dictOf [] 0), (I, itObj l i)]) hl (nin3 hlx.symm hld.symm hlI.symm)).at fun o e => F.keep _ o e, hx⟩
    · exact .inr h
  walk_at "M steps"
  walk_at "M go"
  refine ⟨by k_in, ?_⟩
  refine pull_stop (B := B) (G0.push F rfl rfl) X T (by omega) (N.get (.tail _ (.tail _ (.head _)))) ⟨ho.i.1, G0.apart N rfl (.tail _ (.tail _ (.head _)))⟩
    hdry1 fun h₂ tk₂ P k W2 hI2 hP hPn => ?_
  have hne := fresh_ne N hPn
  simp only [List.forall_mem_cons, List.forall_mem_nil, and_true] at hne
  obtain ⟨h₃, W3, G3, X3, T3, F3, N3⟩ := frW (news' := (P, tupObj #[.bool false, .none]) :: (x, gbO dx I kf cg u ck cv hk hv ht ser u2 tg) :: (dx, dictOf [] 0) :: (I, itEnd k) :: []) G0 X T .refl F N W2 rfl
    (List.forall_mem_singleton.mpr ⟨(N _ (.tail _ (.tail _ (.head _)))).2.2, (N _ (.tail _ (.tail _ (.head _)))).2.1⟩)
    (by
      simp only [List.forall_mem_cons]
      refine ⟨.inl ⟨hP, .inl hPn⟩, ?_, ?_, .inl ⟨hI2, .inr (.head _)⟩, fun _ h => nomatch h⟩
      · walk_at "M keep"
      · walk_at "M keep")
  clear F N XB TB G0
  walk_at "M steps"
  (with_reducible rename Fr _ _ _ _ => F); (with_reducible rename News _ _ _ _ => N); rename Heap.MadeExc _ _ _ _ _ => hm
  refine raiseW (s := s) (muts := [(x, gbO dx I kf cg u ck cv hk hv ht ser u2 tg), (dx, dictOf [] 0), (I, oi)]) (out := [(x, gbO dx I kf cg u ck cv hk hv ht ser u2 tg), (dx, dictOf [] 0), (I, itEnd k)]) G3 W3 F N rfl rfl rfl hm.of (fun p hp => (hN p hp).2.2) (fun q hq => .tail _ hq) fun h₅ R => ?_
  exact ret _ _ _ k R
end
end Mine
theorem Mine.off14 : True := by w_top off; trivial
-- P10_gr
namespace Mine
abbrev grO (dy x : Addr) (n : Int) (u : Tok) (tg : Value) : Obj := { cls := .ref 138, dict := some dy, slots := #[some (.int n u), some (.ref x), some tg] }
section
variable {w : World} {dp un : Nat} {fr : List Env} {gd : Option (List Code)} {s : Shared} {Q E : Value → Shared → Prop} {loose : List Str} {mean : ExcName → Option Value} {mg mb : Str → Option Value}
  {B : Heap} {x dx I l kf : Addr} {i : Nat} {items : Array Value}
theorem same_c {a b r : Bool} (hr : (a == b) = r) (X : (hd.heap_39 w.params).In s.heap) (T : Top topProg loose mean mg mb s.heap) (hA : dp + 1 < recursionLimit)
  (ret : ∀ h' tk', Kp s.heap h' → Q (.bool r) {s with heap := h', toks := tk'}) :
  wpAny (model PySem.Challenge.rw_ev0005_01.row.prog w) (Ar dp un (some fr) gd) (call (.ref 52) [.bool a, .bool b]) Q E s := by
  revert X; k_fill; intro X
  walk_at "M enter"
  intro h₁ tk₁ F N
  subst hr
  cases a <;> cases b <;> walk_at "M steps" <;> exact ret _ _ F.keep
theorem gr_new {h₀ : Heap} {L : Addr} {m : Str → Option Value} {news : List (Addr × Obj)} {cg ser : Int} {u u2 : Tok} {ck cv tg v : Value} {hk hv ht : Bool} (F : Fr h₀ L s.heap m) (N : News h₀ L s.heap ((x, gbO dx I kf cg u ck cv hk hv ht ser u2 tg) :: (dx, dictOf [] 0) :: news))
  (X : (hd.heap_39 w.params).In h₀) (T : Top topProg loose mean mg mb h₀) (hA : dp + 3 < recursionLimit) (l1 : dx < x) (hap : ∀ p ∈ news, p.1 ≠ x ∧ p.1 ≠ dx)
  (ret : ∀ h' tk' y dy u u2 u3, Fr h₀ L h' m → News h₀ L h' ((y, grO dy x (ser + 1) u v) :: (dy, dictOf [] 0) :: (x, gbO dx I kf (ser + 1) u2 ck cv hk hv ht (ser + 1) u3 tg) :: (dx, dictOf [] 0) :: news) → x < dy → (∀ p ∈ news, p.1 < dy) → dy < y → Q (.ref y) {s with heap := h', toks := tk'}) :
  wpAny (model PySem.Challenge.rw_ev0005_01.row.prog w) (Ar dp un (some fr) gd) (call (.ref 138) [.ref x, v]) Q E s := by
  revert X; k_fill; intro X
  refine' call_cls F X N ?k4 ?k5 ?k6 ?_
  (case k4 => k_is); (case k5 => k_is); (case k6 => k_is)
  intro y dy h' F' N' l3 hlt
  k_lt2 hlt
  k_lt2 l1
  have lx : @LT.lt Nat _ x dy := l3 _ (.head _)
  have ldx : @LT.lt Nat _ dx dy := l3 _ (.tail _ (.head _))
  have XS := X.keeps F'.keep
  refine' enterHc [(y, instObj 138 dy), (dy, dictOf [] 0), (x, gbO dx I kf cg u ck cv hk hv ht ser u2 tg), (dx, dictOf [] 0)] F'.keep ?hN ?k1 ?k2 ?k6 ?k7 ?k8 ?k9 ?kB ?_ ?c2 ?c3 ?c4 ?c5
  walk_at "M enterH"
  · intro p hp
    have := N' p (by simp at hp; rcases hp with rfl | rfl | rfl | rfl <;> simp)
    exact ⟨this.1, this.2.2⟩
  intro h₁ tk₁ XB TB F N
  have XH : (hd.heap_39 w.params).In h₁ := XB.keeps F.keep
  walk_at "M steps"
  (with_reducible rename Fr (But _ _) _ _ _ => F)
  (with_reducible rename News (But _ _) _ _ _ => N)
  refine ⟨rfl, ?_⟩
  obtain ⟨F3, N3⟩ := backB (news' := (y, grO dy x (ser + 1) _ v) :: (dy, dictOf [] 0) :: (x, gbO dx I kf (ser + 1) _ ck cv hk hv ht (ser + 1) _ tg) :: (dx, dictOf [] 0) :: news) (mu := [y, dy, x, dx]) F' N' (fun b o hb e => F.keep _ _ (but_of e (by simpa using hb)))
    (fun a ha => by
      have hm : ∃ o, (a, o) ∈ (y, instObj 138 dy) :: (dy, dictOf [] 0) :: (x, gbO dx I kf cg u ck cv hk hv ht ser u2 tg) :: (dx, dictOf [] 0) :: news := by
        simp only [List.mem_cons, List.not_mem_nil, or_false] at ha
        rcases ha with rfl | rfl | rfl | rfl
        · exact ⟨_, .head _⟩
        · exact ⟨_, .tail _ (.head _)⟩
        · exact ⟨_, .tail _ (.tail _ (.head _))⟩
        · exact ⟨_, .tail _ (.tail _ (.tail _ (.head _)))⟩
      obtain ⟨o, hm⟩ := hm
      exact ⟨(N' _ hm).2.2, (N' _ hm).2.1⟩)
    (fun p hp => by
      rcases List.mem_cons.mp hp with rfl | hp
      · exact .inl ⟨N.get (.head _), .inr (.head _)⟩
      rcases List.mem_cons.mp hp with rfl | hp
      · exact .inl ⟨N.get (.tail _ (.head _)), .inr (.tail _ (.head _))⟩
      rcases List.mem_cons.mp hp with rfl | hp
      · exact .inl ⟨N.get (.tail _ (.tail _ (.head _))), .inr (.tail _ (.tail _ (.head _)))⟩
      rcases List.mem_cons.mp hp with rfl | hp
      · exact .inl ⟨N.get (.tail _ (.tail _ (.tail _ (.head _)))), .inr (.tail _ (.tail _ (.tail _ (.head _))))⟩
      · have h1 : @LT.lt Nat _ p.1 dy := l3 p (.tail _ (.tail _ hp))
        have h2 := hap p hp
        refine .inr ⟨.tail _ (.tail _ (.tail _ (.tail _ hp))), fun q => ?_⟩
        simp only [List.mem_cons, List.not_mem_nil, or_false] at q
        rcases q with q | q | q | q
        · rw [q] at h1; exact absurd (Nat.lt_trans h1 hlt) (Nat.lt_irrefl _)
        · rw [q] at h1; exact absurd h1 (Nat.lt_irrefl _)
        · exact h2.1 q
        · exact h2.2 q)
  exact ret _ _ y dy _ _ _ F3 N3 lx (fun p hp => l3 p (.tail _ (.tail _ hp))) hlt
end
end Mine
theorem Mine.off15 : True := by w_top off; trivial
-- P11_next
namespace Mine
structure Gr (h : Heap) (y dy I : Addr) (oy : Obj) : Prop where
  gy : h.get? y = some oy
  gd : h.get? dy = some (dictOf [] 0)
  I_d : I < dy
  d_y : dy < y
structure OutG (B : Heap) (fr : List Env) (y dy : Addr) : Prop where
  y : B.get? y = none ∧ y ∉ fa fr
  d : B.get? dy = none ∧ dy ∉ fa fr
section
variable {w : World} {dp un : Nat} {fr : List Env} {gd : Option (List Code)} {s : Shared} {Q E : Value → Shared → Prop} {loose : List Str} {mean : ExcName → Option Value} {mg mb : Str → Option Value}
  {B : Heap} {x dx I l kf y dy : Addr} {i : Nat} {items : Array Value}
/-- the first of a run, or one that was seen already -/
theorem gr_kept {n ser : Int} {u u2 u3 : Tok} {a : List Nat} {t : Tok} {b c ht : Bool} {oi : Obj} (G : Fl B fr s.heap)
  (X : (hd.heap_39 w.params).In B) (T : Top topProg loose mean mg mb B) (hA : dp + 3 < recursionLimit)
  (hg : Gb s.heap x dx I (gbO dx I kf n u (.bool c) (.str (S a) t) true true ht ser u2 (.bool b)) oi) (hr : Gr s.heap y dy I (grO dy x n u3 (.bool b))) (ho : Out B fr x dx I) (hq : OutG B fr y dy) (hbc : b = c)
  (ret : ∀ h' tk', Kw fr [y, dy, x, dx, I] s.heap h' → Gb h' x dx I (gbO dx I kf n u .none .none false false ht ser u2 (.bool b)) oi → Gr h' y dy I (grO dy x n u3 (.bool b)) → Q (.str (S a) t) {s with heap := h', toks := tk'}) :
  wpAny (model PySem.Challenge.rw_ev0005_01.row.prog w) (Ar dp un (some fr) gd) (call (.ref 134) [.ref y]) Q E s := by
  obtain ⟨gx, gdd, gi, l1, l2⟩ := hg
  obtain ⟨gy, gdy, l3, l4⟩ := hr
  have hdp : (Ar dp un (some fr) gd).depth = dp := rfl
  k_lt2 l1
  k_lt2 l2
  k_lt2 l3
  k_lt2 l4
  subst hbc
  revert X; k_fill; intro X
  have hN : ∀ p ∈ [(y, grO dy x n u3 (.bool b)), (dy, dictOf [] 0), (x, gbO dx I kf n u (.bool b) (.str (S a) t) true true ht ser u2 (.bool b)), (dx, dictOf [] 0), (I, oi)], s.heap.get? p.1 = some p.2 ∧ B.get? p.1 = none ∧ p.1 ∉ fa fr := by
    simp only [List.forall_mem_cons]
    exact ⟨⟨gy, hq.y⟩, ⟨gdy, hq.d⟩, ⟨gx, ho.x⟩, ⟨gdd, ho.d⟩, ⟨gi, ho.i⟩, fun _ h => nomatch h⟩
  have G0 := G.but (s := s) fun p hp => (hN p hp).2
  refine' enterH [(y, grO dy x n u3 (.bool b)), (dy, dictOf [] 0), (x, gbO dx I kf n u (.bool b) (.str (S a) t) true true ht ser u2 (.bool b)), (dx, dictOf [] 0), (I, oi)] G.kp ?hN ?k1 ?k2 ?k6 ?k7 ?k8 ?k9 ?kB ?_ ?c2 ?c3 ?c4 ?c5
  walk_at "M enterH"
  · exact fun p hp => ⟨(hN p hp).1, (hN p hp).2.1⟩
  intro h₁ tk₁ XB TB F N
  walk_at "M steps"
  · exfalso
    rename _ ≠ _ => hc
    exact hc rfl
  walk_at "M go"
  (with_reducible rename Fr _ _ _ _ => F); (with_reducible rename News _ _ _ _ => N)
  refine ⟨by k_in, ?_⟩
  refine same_c (r := true) (by simp) (XB.keeps F.keep) (TB.keeps F.keep) (by omega) fun h₂ tk₂ hk2 => ?_
  obtain ⟨F2, N2⟩ := frK F N hk2
  clear F N
  walk_at "M steps"
  (with_reducible rename Fr _ _ _ _ => F); (with_reducible rename News _ _ _ _ => N)
  exact ret _ _ (Kw.fin .refl F.keep fun p hp => (hN p hp).2.2) ⟨N.get (.tail _ (.tail _ (.head _))), N.get (.tail _ (.tail _ (.tail _ (.head _)))), N.get (.tail _ (.tail _ (.tail _ (.tail _ (.head _))))), l1, l2⟩
    ⟨N.get (.head _), N.get (.tail _ (.head _)), l3, l4⟩
/-- the next one of the run -/
theorem gr_item {n ser : Int} {u u2 u3 : Tok} {cv0 ck0 : Value} {a : List Nat} {t : Tok} {b hk0 ht : Bool} {f : List Nat → Bool} (G : Fl B fr s.heap)
  (X : (hd.heap_39 w.params).In B) (T : Top topProg loose mean mg mb B) (hA : dp + 3 < recursionLimit)
  (hg : Gb s.heap x dx I (gbO dx I kf n u ck0 cv0 hk0 false ht ser u2 (.bool b)) (itObj l i)) (hr : Gr s.heap y dy I (grO dy x n u3 (.bool b))) (ho : Out B fr x dx I) (hq : OutG B fr y dy)
  (hl : s.heap.IsList l items) (hx : items[i]? = some (.str (S a) t)) (ha : a ≠ [] ∧ a.length ≤ 100000) (hkf : KeyFn w B kf f) (hko : FnAt kf B) (hbc : f a = b)
  (ret : ∀ h' tk', Kw fr [y, dy, x, dx, I] s.heap h' → Gb h' x dx I (gbO dx I kf n u .none .none false false ht ser u2 (.bool b)) (itObj l (i + 1)) → Gr h' y dy I (grO dy x n u3 (.bool b)) → Q (.str (S a) t) {s with heap := h', toks := tk'}) :
  wpAny (model PySem.Challenge.rw_ev0005_01.row.prog w) (Ar dp un (some fr) gd) (call (.ref 134) [.ref y]) Q E s := by
  obtain ⟨gx, gdd, gi, l1, l2⟩ := hg
  obtain ⟨gy, gdy, l3, l4⟩ := hr
  have hdp : (Ar dp un (some fr) gd).depth = dp := rfl
  k_lt2 l1
  k_lt2 l2
  k_lt2 l3
  k_lt2 l4
  revert X; k_fill; intro X
  have hlI : l ≠ I := l_ne_it hl gi (fun vs n q => by cases q)
  have hlx : l ≠ x := l_ne_it hl gx (fun vs n q => by cases q)
  have hld : l ≠ dx := l_ne_it hl gdd (fun vs n q => by cases q)
  have hly : l ≠ y := l_ne_it hl gy (fun vs n q => by cases q)
  have hldy : l ≠ dy := l_ne_it hl gdy (fun vs n q => by cases q)
  have hN : ∀ p ∈ [(y, grO dy x n u3 (.bool b)), (dy, dictOf [] 0), (x, gbO dx I kf n u ck0 cv0 hk0 false ht ser u2 (.bool b)), (dx, dictOf [] 0), (I, itObj l i)], s.heap.get? p.1 = some p.2 ∧ B.get? p.1 = none ∧ p.1 ∉ fa fr := by
    simp only [List.forall_mem_cons]
    exact ⟨⟨gy, hq.y⟩, ⟨gdy, hq.d⟩, ⟨gx, ho.x⟩, ⟨gdd, ho.d⟩, ⟨gi, ho.i⟩, fun _ h => nomatch h⟩
  have G0 := G.but (s := s) fun p hp => (hN p hp).2
  refine' enterH [(y, grO dy x n u3 (.bool b)), (dy, dictOf [] 0), (x, gbO dx I kf n u ck0 cv0 hk0 false ht ser u2 (.bool b)), (dx, dictOf [] 0), (I, itObj l i)] G.kp ?hN ?k1 ?k2 ?k6 ?k7 ?k8 ?k9 ?kB ?_ ?c2 ?c3 ?c4 ?c5
  walk_at "M enterH"
  · exact fun p hp => ⟨(hN p hp).1, (hN p hp).2.1⟩
  intro h₁ tk₁ XB TB F N
  walk_at "M steps"
  · exfalso
    rename _ ≠ _ => hc
    exact hc rfl
  walk_at "M go"
  (with_reducible rename Fr _ _ _ _ => F); (with_reducible rename News _ _ _ _ => N)
  show wpAny _ _ (call (.ref 82) [.ref x]) _ _ _
  refine step_item (B := B) (G0.push F rfl rfl) X T (by omega) ⟨N.get (.tail _ (.tail _ (.head _))), N.get (.tail _ (.tail _ (.tail _ (.head _)))), N.get (.tail _ (.tail _ (.tail _ (.tail _ (.head _))))), l1, l2⟩
    ⟨⟨ho.x.1, G0.apart N rfl (.tail _ (.tail _ (.head _)))⟩, ⟨ho.d.1, G0.apart N rfl (.tail _ (.tail _ (.tail _ (.head _))))⟩, ⟨ho.i.1, G0.apart N rfl (.tail _ (.tail _ (.tail _ (.tail _ (.head _)))))⟩⟩
    ((isL_but (s := s) (news := [(y, grO dy x n u3 (.bool b)), (dy, dictOf [] 0), (x, gbO dx I kf n u ck0 cv0 hk0 false ht ser u2 (.bool b)), (dx, dictOf [] 0), (I, itObj l i)]) hl (nin (List.forall_mem_cons.mpr ⟨hly.symm, List.forall_mem_cons.mpr ⟨hldy.symm, List.forall_mem_cons.mpr ⟨hlx.symm, List.forall_mem_cons.mpr ⟨hld.symm, List.forall_mem_singleton.mpr hlI.symm⟩⟩⟩⟩))).at fun o e => F.keep _ o e)
    hx ha hkf hko fun h₂ tk₂ W2 g2 => ?_
  obtain ⟨h₃, W3, G3, X3, T3, F3, N3⟩ := frW (news' := (y, grO dy x n u3 (.bool b)) :: (dy, dictOf [] 0) :: (x, gbO dx I kf n u (.bool (f a)) (.str (S a) t) true true ht ser u2 (.bool b)) :: (dx, dictOf [] 0) :: (I, itObj l (i + 1)) :: []) G0 X T .refl F N W2 rfl
    (List.forall_mem_cons.mpr ⟨(N _ (.tail _ (.tail _ (.head _)))).2.symm, List.forall_mem_cons.mpr ⟨(N _ (.tail _ (.tail _ (.tail _ (.head _))))).2.symm, List.forall_mem_singleton.mpr (N _ (.tail _ (.tail _ (.tail _ (.tail _ (.head _)))))).2.symm⟩⟩)
    (by
      simp only [List.forall_mem_cons]
      refine ⟨?_, ?_, .inl ⟨g2.gx, .inr (.head _)⟩, .inl ⟨g2.gd, .inr (.tail _ (.head _))⟩, .inl ⟨g2.gi, .inr (.tail _ (.tail _ (.head _)))⟩, fun _ h => nomatch h⟩
      · walk_at "M keep"
      · walk_at "M keep")
  clear F N XB TB G0
  walk_at "M steps"
  walk_at "M go"
  (with_reducible rename Fr _ _ _ _ => F); (with_reducible rename News _ _ _ _ => N)
  refine ⟨by k_in, ?_⟩
  refine same_c (r := true) (by simp [hbc]) (X3.keeps F.keep) (T3.keeps F.keep) (by omega) fun h₂ tk₂ hk2 => ?_
  obtain ⟨F2, N2⟩ := frK F N hk2
  clear F N
  walk_at "M steps"
  (with_reducible rename Fr _ _ _ _ => F); (with_reducible rename News _ _ _ _ => N)
  exact ret _ _ (Kw.fin W3 F.keep fun p hp => (hN p hp).2.2) ⟨N.get (.tail _ (.tail _ (.head _))), N.get (.tail _ (.tail _ (.tail _ (.head _)))), N.get (.tail _ (.tail _ (.tail _ (.tail _ (.head _))))), l1, l2⟩
    ⟨N.get (.head _), N.get (.tail _ (.head _)), l3, l4⟩
/-- the run ends, another begins -/
theorem gr_differ {n ser : Int} {u u2 u3 : Tok} {cv0 ck0 : Value} {a : List Nat} {t : Tok} {b hk0 ht : Bool} {f : List Nat → Bool} (G : Fl B fr s.heap)
  (X : (hd.heap_39 w.params).In B) (T : Top topProg loose mean mg mb B) (hA : dp + 3 < recursionLimit)
  (hg : Gb s.heap x dx I (gbO dx I kf n u ck0 cv0 hk0 false ht ser u2 (.bool b)) (itObj l i)) (hr : Gr s.heap y dy I (grO dy x n u3 (.bool b))) (ho : Out B fr x dx I) (hq : OutG B fr y dy)
  (hl : s.heap.IsList l items) (hx : items[i]? = some (.str (S a) t)) (ha : a ≠ [] ∧ a.length ≤ 100000) (hkf : KeyFn w B kf f) (hko : FnAt kf B) (hbc : f a ≠ b)
  (ret : ∀ h' tk' e, Rz fr [y, dy, x, dx, I] [(y, grO dy x n u3 (.bool b)), (dy, dictOf [] 0), (x, gbO dx I kf n u (.bool (f a)) (.str (S a) t) true true ht ser u2 (.bool b)), (dx, dictOf [] 0), (I, itObj l (i + 1))] s.heap e h' → E (.ref e) {s with heap := h', toks := tk'}) :
  wpAny (model PySem.Challenge.rw_ev0005_01.row.prog w) (Ar dp un (some fr) gd) (call (.ref 134) [.ref y]) Q E s := by
  obtain ⟨gx, gdd, gi, l1, l2⟩ := hg
  obtain ⟨gy, gdy, l3, l4⟩ := hr
  have hdp : (Ar dp un (some fr) gd).depth = dp := rfl
  k_lt2 l1
  k_lt2 l2
  k_lt2 l3
  k_lt2 l4
  revert X; k_fill; intro X
  have hlI : l ≠ I := l_ne_it hl gi (fun vs n q => by cases q)
  have hlx : l ≠ x := l_ne_it hl gx (fun vs n q => by cases q)
  have hld : l ≠ dx := l_ne_it hl gdd (fun vs n q => by cases q)
  have hly : l ≠ y := l_ne_it hl gy (fun vs n q => by cases q)
  have hldy : l ≠ dy := l_ne_it hl gdy (fun vs n q => by cases q)
  have hN : ∀ p ∈ [(y, grO dy x n u3 (.bool b)), (dy, dictOf [] 0), (x, gbO dx I kf n u ck0 cv0 hk0 false ht ser u2 (.bool b)), (dx, dictOf [] 0), (I, itObj l i)], s.heap.get? p.1 = some p.2 ∧ B.get? p.1 = none ∧ p.1 ∉ fa fr := by
    simp only [List.forall_mem_cons]
    exact ⟨⟨gy, hq.y⟩, ⟨gdy, hq.d⟩, ⟨gx, ho.x⟩, ⟨gdd, ho.d⟩, ⟨gi, ho.i⟩, fun _ h => nomatch h⟩
  have G0 := G.but (s := s) fun p hp => (hN p hp).2
  refine' enterH [(y, grO dy x n u3 (.bool b)), (dy, dictOf [] 0), (x, gbO dx I kf n u ck0 cv0 hk0 false ht ser u2 (.bool b)), (dx, dictOf [] 0), (I, itObj l i)] G.kp ?hN ?k1 ?k2 ?k6 ?k7 ?k8 ?k9 ?kB ?_ ?c2 ?c3 ?c4 ?c5
  walk_at "M enterH"
  · exact fun p hp => ⟨(hN p hp).1, (hN p hp).2.1⟩
  intro h₁ tk₁ XB TB F N
  walk_at "M steps"
  · exfalso
    rename _ ≠ _ => hc
    exact hc rfl
  walk_at "M go"
  (with_reducible rename Fr _ _ _ _ => F); (with_reducible rename News _ _ _ _ => N)
  show wpAny _ _ (call (.ref 82) [.ref x]) _ _ _
  refine step_item (B := B) (G0.push F rfl rfl) X T (by omega) ⟨N.get (.tail _ (.tail _ (.head _))), N.get (.tail _ (.tail _ (.tail _ (.head _)))), N.get (.tail _ (.tail _ (.tail _ (.tail _ (.head _))))), l1, l2⟩
    ⟨⟨ho.x.1, G0.apart N rfl (.tail _ (.tail _ (.head _)))⟩, ⟨ho.d.1, G0.apart N rfl (.tail _ (.tail _ (.tail _ (.head _))))⟩, ⟨ho.i.1, G0.apart N rfl (.tail _ (.tail _ (.tail _ (.tail _ (.head _)))))⟩⟩
    ((isL_but (s := s) (news := [(y, grO dy x n u3 (.bool b)), (dy, dictOf [] 0), (x, gbO dx I kf n u ck0 cv0 hk0 false ht ser u2 (.bool b)), (dx, dictOf [] 0), (I, itObj l i)]) hl (nin (List.forall_mem_cons.mpr ⟨hly.symm, List.forall_mem_cons.mpr ⟨hldy.symm, List.forall_mem_cons.mpr ⟨hlx.symm, List.forall_mem_cons.mpr ⟨hld.symm, List.forall_mem_singleton.mpr hlI.symm⟩⟩⟩⟩))).at fun o e => F.keep _ o e)
    hx ha hkf hko fun h₂ tk₂ W2 g2 => ?_
  obtain ⟨h₃, W3, G3, X3, T3, F3, N3⟩ := frW (news' := (y, grO dy x n u3 (.bool b)) :: (dy, dictOf [] 0) :: (x, gbO dx I kf n u (.bool (f a)) (.str (S a) t) true true ht ser u2 (.bool b)) :: (dx, dictOf [] 0) :: (I, itObj l (i + 1)) :: []) G0 X T .refl F N W2 rfl
    (List.forall_mem_cons.mpr ⟨(N _ (.tail _ (.tail _ (.head _)))).2.symm, List.forall_mem_cons.mpr ⟨(N _ (.tail _ (.tail _ (.tail _ (.head _))))).2.symm, List.forall_mem_singleton.mpr (N _ (.tail _ (.tail _ (.tail _ (.tail _ (.head _)))))).2.symm⟩⟩)
    (by
      simp only [List.forall_mem_cons]
      refine ⟨?_, ?_, .inl ⟨g2.gx, .inr (.head _)⟩, .inl ⟨g2.gd, .inr (.tail _ (.head _))⟩, .inl ⟨g2.gi, .inr (.tail _ (.tail _ (.head _)))⟩, fun _ h => nomatch h⟩
      · walk_at "M keep"
      · walk_at "M keep")
  clear F N XB TB G0
  walk_at "M steps"
  walk_at "M go"
  (with_reducible rename Fr _ _ _ _ => F); (with_reducible rename News _ _ _ _ => N)
  refine ⟨by k_in, ?_⟩
  refine same_c (r := false) (by simp; exact fun q => hbc q.symm) (X3.keeps F.keep) (T3.keeps F.keep) (by omega) fun h₂ tk₂ hk2 => ?_
  obtain ⟨F2, N2⟩ := frK F N hk2
  clear F N
  walk_at "M steps"
  (with_reducible rename Fr _ _ _ _ => F); (with_reducible rename News _ _ _ _ => N); rename Heap.MadeExc _ _ _ _ _ => hm
  refine raiseW (s := s) (muts := [(y, grO dy x n u3 (.bool b)), (dy, dictOf [] 0), (x, gbO dx I kf n u ck0 cv0 hk0 false ht ser u2 (.bool b)), (dx, dictOf [] 0), (I, itObj l i)]) (out := [(y, grO dy x n u3 (.bool b)), (dy, dictOf [] 0), (x, gbO dx I kf n u (.bool (f a)) (.str (S a) t) true true ht ser u2 (.bool b)), (dx, dictOf [] 0), (I, itObj l (i + 1))]) G3 W3 F N rfl rfl rfl hm.of (fun p hp => (hN p hp).2.2) (fun q hq => hq) fun h₅ R => ?_
  exact ret _ _ _ R
/-- all is told -/
theorem gr_end {n ser : Int} {u u2 u3 : Tok} {cv0 ck0 : Value} {b hk0 ht : Bool} {oi : Obj} (G : Fl B fr s.heap)
  (X : (hd.heap_39 w.params).In B) (T : Top topProg loose mean mg mb B) (hA : dp + 3 < recursionLimit)
  (hg : Gb s.heap x dx I (gbO dx I kf n u ck0 cv0 hk0 false ht ser u2 (.bool b)) (oi)) (hr : Gr s.heap y dy I (grO dy x n u3 (.bool b))) (ho : Out B fr x dx I) (hq : OutG B fr y dy)
  (hdry : Dry s.heap oi)
  (ret : ∀ h' tk' e k, Rz fr [y, dy, x, dx, I] [(y, grO dy x n u3 (.bool b)), (dy, dictOf [] 0), (x, gbO dx I kf n u ck0 cv0 hk0 false ht ser u2 (.bool b)), (dx, dictOf [] 0), (I, itEnd k)] s.heap e h' → E (.ref e) {s with heap := h', toks := tk'}) :
  wpAny (model PySem.Challenge.rw_ev0005_01.row.prog w) (Ar dp un (some fr) gd) (call (.ref 134) [.ref y]) Q E s := by
  obtain ⟨gx, gdd, gi, l1, l2⟩ := hg
  obtain ⟨gy, gdy, l3, l4⟩ := hr
  have hdp : (Ar dp un (some fr) gd).depth = dp := rfl
  k_lt2 l1
  k_lt2 l2
  k_lt2 l3
  k_lt2 l4
  revert X; k_fill; intro X
  have hN : ∀ p ∈ [(y, grO dy x n u3 (.bool b)), (dy, dictOf [] 0), (x, gbO dx I kf n u ck0 cv0 hk0 false ht ser u2 (.bool b)), (dx, dictOf [] 0), (I, oi)], s.heap.get? p.1 = some p.2 ∧ B.get? p.1 = none ∧ p.1 ∉ fa fr := by
    simp only [List.forall_mem_cons]
    exact ⟨⟨gy, hq.y⟩, ⟨gdy, hq.d⟩, ⟨gx, ho.x⟩, ⟨gdd, ho.d⟩, ⟨gi, ho.i⟩, fun _ h => nomatch h⟩
  have G0 := G.but (s := s) fun p hp => (hN p hp).2
  refine' enterH [(y, grO dy x n u3 (.bool b)), (dy, dictOf [] 0), (x, gbO dx I kf n u ck0 cv0 hk0 false ht ser u2 (.bool b)), (dx, dictOf [] 0), (I, oi)] G.kp ?hN ?k1 ?k2 ?k6 ?k7 ?k8 ?k9 ?kB ?_ ?c2 ?c3 ?c4 ?c5
  walk_at "M enterH"
  · exact fun p hp => ⟨(hN p hp).1, (hN p hp).2.1⟩
  intro h₁ tk₁ XB TB F N
  have hdry1 : ∀ h₂, (∀ b' o, (But s [(y, grO dy x n u3 (.bool b)), (dy, dictOf [] 0), (x, gbO dx I kf n u ck0 cv0 hk0 false ht ser u2 (.bool b)), (dx, dictOf [] 0), (I, oi)]).get? b' = some o → h₂.get? b' = some o) → Dry h₂ oi := by
    intro h₂ hk₂
    rcases hdry with ⟨l, i, items, rfl, hl, hx⟩ | h
    · have hlI : l ≠ I := l_ne_it hl gi (fun vs n q => by cases q)
      have hlx : l ≠ x := l_ne_it hl gx (fun vs n q => by cases q)
      have hld : l ≠ dx := l_ne_it hl gdd (fun vs n q => by cases q)
      have hly : l ≠ y := l_ne_it hl gy (fun vs n q => by cases q)
      have hldy : l ≠ dy := l_ne_it hl gdy (fun vs n q => by cases q)
      exact .inl ⟨l, i, items, rfl, (isL_but (s := s) (news := [(y, grO dy x n u3 (.bool b)), (dy, dictOf [] 0), (x, gbO dx I kf n u ck0 cv0 hk0 false ht ser u2 (.bool b)), (dx, dictOf [] 0), (I, itObj l i)]) hl (nin (List.forall_mem_cons.mpr ⟨hly.symm, List.forall_mem_cons.mpr ⟨hldy.symm, List.forall_mem_cons.mpr ⟨hlx.symm, List.forall_mem_cons.mpr ⟨hld.symm, List.forall_mem_singleton.mpr hlI.symm⟩⟩⟩⟩))).at fun o e => hk₂ _ o e, hx⟩
    · exact .inr h
  walk_at "M steps"
  · exfalso
    rename _ ≠ _ => hc
    exact hc rfl
  walk_at "M go"
  (with_reducible rename Fr _ _ _ _ => F); (with_reducible rename News _ _ _ _ => N)
  show wpAny _ _ (call (.ref 82) [.ref x]) _ _ _
  refine step_stop (B := B) (G0.push F rfl rfl) X T (by omega) ⟨N.get (.tail _ (.tail _ (.head _))), N.get (.tail _ (.tail _ (.tail _ (.head _)))), N.get (.tail _ (.tail _ (.tail _ (.tail _ (.head _))))), l1, l2⟩
    ⟨⟨ho.x.1, G0.apart N rfl (.tail _ (.tail _ (.head _)))⟩, ⟨ho.d.1, G0.apart N rfl (.tail _ (.tail _ (.tail _ (.head _))))⟩, ⟨ho.i.1, G0.apart N rfl (.tail _ (.tail _ (.tail _ (.tail _ (.head _)))))⟩⟩
    (hdry1 _ F.keep) fun h₂ tk₂ e k R => ?_
  refine leaveW (s := s) (muts := [(y, grO dy x n u3 (.bool b)), (dy, dictOf [] 0), (x, gbO dx I kf n u ck0 cv0 hk0 false ht ser u2 (.bool b)), (dx, dictOf [] 0), (I, oi)]) (out := [(y, grO dy x n u3 (.bool b)), (dy, dictOf [] 0), (x, gbO dx I kf n u ck0 cv0 hk0 false ht ser u2 (.bool b)), (dx, dictOf [] 0), (I, itEnd k)]) G0 .refl F N rfl rfl R ?_ (fun p hp => (hN p hp).2.2) ?_ fun h₅ R' => ?_
  · exact List.forall_mem_cons.mpr ⟨(N _ (.tail _ (.tail _ (.head _)))).2.2, List.forall_mem_cons.mpr ⟨(N _ (.tail _ (.tail _ (.tail _ (.head _))))).2.2, List.forall_mem_singleton.mpr (N _ (.tail _ (.tail _ (.tail _ (.tail _ (.head _)))))).2.2⟩⟩
  · simp only [List.forall_mem_cons]
    refine ⟨?_, ?_, .inl (.head _), .inl (.tail _ (.head _)), .inl (.tail _ (.tail _ (.head _))), fun _ h => nomatch h⟩
    · walk_at "M keep"
    · walk_at "M keep"
  · exact ret _ _ _ k R'
end
end Mine
theorem Mine.off16 : True := by w_top off; trivial
-- P12_gbnext
namespace Mine
section
variable {w : World} {dp un : Nat} {fr : List Env} {gd : Option (List Code)} {s : Shared} {Q E : Value → Shared → Prop} {loose : List Str} {mean : ExcName → Option Value} {mg mb : Str → Option Value}
  {B : Heap} {x dx I l kf : Addr} {i : Nat} {items : Array Value}
theorem gb_first {cg ser : Int} {u u2 : Tok} {ck cv tg : Value} {hv : Bool} {a : List Nat} {t : Tok} {f : List Nat → Bool} (G : Fl B fr s.heap)
  (X : (hd.heap_39 w.params).In B) (T : Top topProg loose mean mg mb B) (hA : dp + 4 < recursionLimit)
  (hg : Gb s.heap x dx I (gbO dx I kf cg u ck cv false hv false ser u2 tg) (itObj l i)) (ho : Out B fr x dx I)
  (hl : s.heap.IsList l items) (hx : items[i]? = some (.str (S a) t)) (ha : a ≠ [] ∧ a.length ≤ 100000) (hkf : KeyFn w B kf f) (hko : FnAt kf B)
  (ret : ∀ h' tk' P y dy u u2 u3, Kw fr [x, dx, I] s.heap h' → Gb h' x dx I (gbO dx I kf (ser + 1) u (.bool (f a)) (.str (S a) t) true true true (ser + 1) u2 (.bool (f a))) (itObj l (i + 1)) → Gr h' y dy I (grO dy x (ser + 1) u3 (.bool (f a))) →
    h'.get? P = some (tupObj #[.bool (f a), .ref y]) → s.heap.get? P = none → s.heap.get? y = none → s.heap.get? dy = none → Q (.ref P) {s with heap := h', toks := tk'}) :
  wpAny (model PySem.Challenge.rw_ev0005_01.row.prog w) (Ar dp un (some fr) gd) (call (.ref 89) [.ref x]) Q E s := by
  obtain ⟨gx, gdd, gi, l1, l2⟩ := hg
  have hdp : (Ar dp un (some fr) gd).depth = dp := rfl
  k_lt2 l1
  k_lt2 l2
  revert X; k_fill; intro X
  have hlI : l ≠ I := l_ne_it hl gi (fun vs n q => by cases q)
  have hlx : l ≠ x := l_ne_it hl gx (fun vs n q => by cases q)
  have hld : l ≠ dx := l_ne_it hl gdd (fun vs n q => by cases q)
  have hN : ∀ p ∈ [(x, gbO dx I kf cg u ck cv false hv false ser u2 tg), (dx, dictOf [] 0), (I, itObj l i)], s.heap.get? p.1 = some p.2 ∧ B.get? p.1 = none ∧ p.1 ∉ fa fr := by
    simp only [List.forall_mem_cons]
    exact ⟨⟨gx, ho.x⟩, ⟨gdd, ho.d⟩, ⟨gi, ho.i⟩, fun _ h => nomatch h⟩
  have G0 := G.but (s := s) fun p hp => (hN p hp).2
  refine' enterH [(x, gbO dx I kf cg u ck cv false hv false ser u2 tg), (dx, dictOf [] 0), (I, itObj l i)] G.kp ?hN ?k1 ?k2 ?k6 ?k7 ?k8 ?k9 ?kB ?_ ?c2 ?c3 ?c4 ?c5
  walk_at "M enterH"
  · exact fun p hp => ⟨(hN p hp).1, (hN p hp).2.1⟩
  intro h₁ tk₁ XB TB F N
  walk_at "M steps"
  walk_at "M go"
  refine whl_start 3 ?_
  refine whl_turn (by passes_own) ?_
  walk_at "M steps"
  walk_at "M go"
  (with_reducible rename Fr _ _ _ _ => F); (with_reducible rename News _ _ _ _ => N)
  show wpAny _ _ (call (.ref 82) [.ref x]) _ _ _
  refine step_item (B := B) (G0.push F rfl rfl) X T (by omega) ⟨N.get (.head _), N.get (.tail _ (.head _)), N.get (.tail _ (.tail _ (.head _))), l1, l2⟩
    ⟨⟨ho.x.1, G0.apart N rfl (.head _)⟩, ⟨ho.d.1, G0.apart N rfl (.tail _ (.head _))⟩, ⟨ho.i.1, G0.apart N rfl (.tail _ (.tail _ (.head _)))⟩⟩
    ((isL_but (s := s) (news := [(x, gbO dx I kf cg u ck cv false hv false ser u2 tg), (dx, dictOf [] 0), (I, itObj l i)]) hl (nin3 hlx.symm hld.symm hlI.symm)).at fun o e => F.keep _ o e)
    hx ha hkf hko fun h₂ tk₂ W2 g2 => ?_
  obtain ⟨h₃, W3, G3, X3, T3, F3, N3⟩ := frW (news' := (x, gbO dx I kf 0 _ (.bool (f a)) (.str (S a) t) true true false ser u2 tg) :: (dx, dictOf [] 0) :: (I, itObj l (i + 1)) :: []) G0 X T .refl F N W2 rfl
    (List.forall_mem_cons.mpr ⟨(N _ (.head _)).2.symm, List.forall_mem_cons.mpr ⟨(N _ (.tail _ (.head _))).2.symm, List.forall_mem_singleton.mpr (N _ (.tail _ (.tail _ (.head _)))).2.symm⟩⟩)
    (by
      simp only [List.forall_mem_cons]
      exact ⟨.inl ⟨g2.gx, .inr (.head _)⟩, .inl ⟨g2.gd, .inr (.tail _ (.head _))⟩, .inl ⟨g2.gi, .inr (.tail _ (.tail _ (.head _)))⟩, fun _ h => nomatch h⟩)
  clear F N XB TB G0
  walk_at "M steps"
  walk_at "M go"
  (with_reducible rename Fr _ _ _ _ => F); (with_reducible rename News _ _ _ _ => N)
  refine ⟨by k_in, ?_⟩
  refine gr_new (news := [(I, itObj l (i + 1))]) F N X3 T3 (by omega) l1 (List.forall_mem_singleton.mpr ⟨neN (by (try dsimp only); omega), neN (by (try dsimp only); omega)⟩) fun h₄ tk₄ y dy u5 u6 u7 F4 N4 lx l3 l4 => ?_
  clear F N
  have hI := List.forall_mem_singleton.mp l3
  k_lt2 lx
  k_lt2 l4
  k_lt2 hI
  walk_at "M steps"
  (with_reducible rename Fr _ _ _ _ => F); (with_reducible rename News _ _ _ _ => N)
  rename _ ∧ _ ∧ _ ∧ _ ∧ _ => lD
  obtain ⟨lD1, lD2, lD3, lD4, lD5⟩ := lD
  (try dsimp only at hI)
  have hfr : ∀ b o, (b, o) ∈ _ → x ≠ b → dx ≠ b → I ≠ b → s.heap.get? b = none := fun b o hm h1 h2 h3 => but_none (W3.none (N (b, o) hm).2.2) (by
    simp only [List.forall_mem_cons]
    exact ⟨h1, h2, h3, fun _ h => nomatch h⟩)
  exact ret _ _ _ y dy _ _ _ (Kw.fin W3 F.keep fun p hp => (hN p hp).2.2) ⟨N.get (.tail _ (.tail _ (.tail _ (.head _)))), N.get (.tail _ (.tail _ (.tail _ (.tail _ (.head _))))), N.get (.tail _ (.tail _ (.tail _ (.tail _ (.tail _ (.head _)))))), l1, l2⟩
    ⟨N.get (.tail _ (.head _)), N.get (.tail _ (.tail _ (.head _))), hI, l4⟩ (N.get (.head _))
    (hfr _ _ (.head _) (neN (by omega)) (neN (by omega)) (neN (by omega))) (hfr _ _ (.tail _ (.head _)) (neN (by omega)) (neN (by omega)) (neN (by omega))) (hfr _ _ (.tail _ (.tail _ (.head _))) (neN (by omega)) (neN (by omega)) (neN (by omega)))
theorem gb_second {cg ser : Int} {u u2 : Tok} {cv : Value} {b c : Bool} {oi : Obj} (G : Fl B fr s.heap)
  (X : (hd.heap_39 w.params).In B) (T : Top topProg loose mean mg mb B) (hA : dp + 4 < recursionLimit)
  (hg : Gb s.heap x dx I (gbO dx I kf cg u (.bool c) cv true true true ser u2 (.bool b)) (oi)) (ho : Out B fr x dx I)
  (hbc : b ≠ c)
  (ret : ∀ h' tk' P y dy u u2 u3, Kw fr [x, dx, I] s.heap h' → Gb h' x dx I (gbO dx I kf (ser + 1) u (.bool c) cv true true true (ser + 1) u2 (.bool c)) (oi) → Gr h' y dy I (grO dy x (ser + 1) u3 (.bool c)) →
    h'.get? P = some (tupObj #[.bool c, .ref y]) → s.heap.get? P = none → s.heap.get? y = none → s.heap.get? dy = none → Q (.ref P) {s with heap := h', toks := tk'}) :
  wpAny (model PySem.Challenge.rw_ev0005_01.row.prog w) (Ar dp un (some fr) gd) (call (.ref 89) [.ref x]) Q E s := by
  obtain ⟨gx, gdd, gi, l1, l2⟩ := hg
  have hdp : (Ar dp un (some fr) gd).depth = dp := rfl
  k_lt2 l1
  k_lt2 l2
  revert X; k_fill; intro X
  have hN : ∀ p ∈ [(x, gbO dx I kf cg u (.bool c) cv true true true ser u2 (.bool b)), (dx, dictOf [] 0), (I, oi)], s.heap.get? p.1 = some p.2 ∧ B.get? p.1 = none ∧ p.1 ∉ fa fr := by
    simp only [List.forall_mem_cons]
    exact ⟨⟨gx, ho.x⟩, ⟨gdd, ho.d⟩, ⟨gi, ho.i⟩, fun _ h => nomatch h⟩
  have G0 := G.but (s := s) fun p hp => (hN p hp).2
  refine' enterH [(x, gbO dx I kf cg u (.bool c) cv true true true ser u2 (.bool b)), (dx, dictOf [] 0), (I, oi)] G.kp ?hN ?k1 ?k2 ?k6 ?k7 ?k8 ?k9 ?kB ?_ ?c2 ?c3 ?c4 ?c5
  walk_at "M enterH"
  · exact fun p hp => ⟨(hN p hp).1, (hN p hp).2.1⟩
  intro h₁ tk₁ XB TB F N
  walk_at "M steps"
  walk_at "M go"
  refine whl_start 3 ?_
  refine whl_turn (by passes_own) ?_
  walk_at "M steps"
  walk_at "M go"
  (with_reducible rename Fr _ _ _ _ => F); (with_reducible rename News _ _ _ _ => N)
  refine ⟨by k_in, ?_⟩
  refine same_c (r := false) (by simpa using hbc) (XB.keeps F.keep) (TB.keeps F.keep) (by omega) fun h₂ tk₂ hk2 => ?_
  obtain ⟨F2, N2⟩ := frK F N hk2
  clear F N
  walk_at "M steps"
  walk_at "M go"
  (with_reducible rename Fr _ _ _ _ => F); (with_reducible rename News _ _ _ _ => N)
  refine ⟨by k_in, ?_⟩
  refine gr_new (news := [(I, oi)]) F N XB TB (by omega) l1 (List.forall_mem_singleton.mpr ⟨neN (by (try dsimp only); omega), neN (by (try dsimp only); omega)⟩) fun h₄ tk₄ y dy u5 u6 u7 F4 N4 lx l3 l4 => ?_
  clear F N
  have hI := List.forall_mem_singleton.mp l3
  k_lt2 lx
  k_lt2 l4
  k_lt2 hI
  walk_at "M steps"
  (with_reducible rename Fr _ _ _ _ => F); (with_reducible rename News _ _ _ _ => N)
  rename _ ∧ _ ∧ _ ∧ _ ∧ _ => lD
  obtain ⟨lD1, lD2, lD3, lD4, lD5⟩ := lD
  (try dsimp only at hI)
  have hfr : ∀ b o, (b, o) ∈ _ → x ≠ b → dx ≠ b → I ≠ b → s.heap.get? b = none := fun b o hm h1 h2 h3 => but_none ((N (b, o) hm).2.2) (by
    simp only [List.forall_mem_cons]
    exact ⟨h1, h2, h3, fun _ h => nomatch h⟩)
  exact ret _ _ _ y dy _ _ _ (Kw.fin .refl F.keep fun p hp => (hN p hp).2.2) ⟨N.get (.tail _ (.tail _ (.tail _ (.head _)))), N.get (.tail _ (.tail _ (.tail _ (.tail _ (.head _))))), N.get (.tail _ (.tail _ (.tail _ (.tail _ (.tail _ (.head _)))))), l1, l2⟩
    ⟨N.get (.tail _ (.head _)), N.get (.tail _ (.tail _ (.head _))), hI, l4⟩ (N.get (.head _))
    (hfr _ _ (.head _) (neN (by omega)) (neN (by omega)) (neN (by omega))) (hfr _ _ (.tail _ (.head _)) (neN (by omega)) (neN (by omega)) (neN (by omega))) (hfr _ _ (.tail _ (.tail _ (.head _))) (neN (by omega)) (neN (by omega)) (neN (by omega)))
theorem gb_end {cg ser : Int} {u u2 : Tok} {ck cv tg : Value} {hv ht : Bool} {oi : Obj} (G : Fl B fr s.heap)
  (X : (hd.heap_39 w.params).In B) (T : Top topProg loose mean mg mb B) (hA : dp + 4 < recursionLimit)
  (hg : Gb s.heap x dx I (gbO dx I kf cg u ck cv false hv ht ser u2 tg) oi) (ho : Out B fr x dx I) (hdry : Dry s.heap oi)
  (ret : ∀ h' tk' e k u, Rz fr [x, dx, I] [(x, gbO dx I kf 0 u ck cv false hv ht ser u2 tg), (dx, dictOf [] 0), (I, itEnd k)] s.heap e h' → E (.ref e) {s with heap := h', toks := tk'}) :
  wpAny (model PySem.Challenge.rw_ev0005_01.row.prog w) (Ar dp un (some fr) gd) (call (.ref 89) [.ref x]) Q E s := by
  obtain ⟨gx, gdd, gi, l1, l2⟩ := hg
  have hdp : (Ar dp un (some fr) gd).depth = dp := rfl
  k_lt2 l1
  k_lt2 l2
  revert X; k_fill; intro X
  have hN : ∀ p ∈ [(x, gbO dx I kf cg u ck cv false hv ht ser u2 tg), (dx, dictOf [] 0), (I, oi)], s.heap.get? p.1 = some p.2 ∧ B.get? p.1 = none ∧ p.1 ∉ fa fr := by
    simp only [List.forall_mem_cons]
    exact ⟨⟨gx, ho.x⟩, ⟨gdd, ho.d⟩, ⟨gi, ho.i⟩, fun _ h => nomatch h⟩
  have G0 := G.but (s := s) fun p hp => (hN p hp).2
  refine' enterH [(x, gbO dx I kf cg u ck cv false hv ht ser u2 tg), (dx, dictOf [] 0), (I, oi)] G.kp ?hN ?k1 ?k2 ?k6 ?k7 ?k8 ?k9 ?kB ?_ ?c2 ?c3 ?c4 ?c5
  walk_at "M enterH"
  · exact fun p hp => ⟨(hN p hp).1, (hN p hp).2.1⟩
  intro h₁ tk₁ XB TB F N
  have hdry1 : ∀ h₂, (∀ b' o, (But s [(x, gbO dx I kf cg u ck cv false hv ht ser u2 tg), (dx, dictOf [] 0), (I, oi)]).get? b' = some o → h₂.get? b' = some o) → Dry h₂ oi := by
    intro h₂ hk₂
    rcases hdry with ⟨l, i, items, rfl, hl, hx⟩ | h
    · have hlI : l ≠ I := l_ne_it hl gi (fun vs n q => by cases q)
      have hlx : l ≠ x := l_ne_it hl gx (fun vs n q => by cases q)
      have hld : l ≠ dx := l_ne_it hl gdd (fun vs n q => by cases q)
      exact .inl ⟨l, i, items, rfl, (isL_but (s := s) (news := [(x, gbO dx I kf cg u ck cv false hv ht ser u2 tg), (dx, dictOf [] 0), (I, itObj l i)]) hl (nin3 hlx.symm hld.symm hlI.symm)).at fun o e => hk₂ _ o e, hx⟩
    · exact .inr h
  walk_at "M steps"
  walk_at "M go"
  refine whl_start 3 ?_
  refine whl_turn (by passes_own) ?_
  walk_at "M steps"
  walk_at "M go"
  (with_reducible rename Fr _ _ _ _ => F); (with_reducible rename News _ _ _ _ => N)
  show wpAny _ _ (call (.ref 82) [.ref x]) _ _ _
  refine step_stop (B := B) (G0.push F rfl rfl) X T (by omega) ⟨N.get (.head _), N.get (.tail _ (.head _)), N.get (.tail _ (.tail _ (.head _))), l1, l2⟩
    ⟨⟨ho.x.1, G0.apart N rfl (.head _)⟩, ⟨ho.d.1, G0.apart N rfl (.tail _ (.head _))⟩, ⟨ho.i.1, G0.apart N rfl (.tail _ (.tail _ (.head _)))⟩⟩
    (hdry1 _ F.keep) fun h₂ tk₂ e k R => ?_
  refine leaveW (s := s) (muts := [(x, gbO dx I kf cg u ck cv false hv ht ser u2 tg), (dx, dictOf [] 0), (I, oi)]) (out := [(x, gbO dx I kf 0 _ ck cv false hv ht ser u2 tg), (dx, dictOf [] 0), (I, itEnd k)]) G0 .refl F N rfl rfl R ?_ (fun p hp => (hN p hp).2.2) (fun q hq => .inl hq) fun h₅ R' => ?_
  · exact List.forall_mem_cons.mpr ⟨(N _ (.head _)).2.2, List.forall_mem_cons.mpr ⟨(N _ (.tail _ (.head _))).2.2, List.forall_mem_singleton.mpr (N _ (.tail _ (.tail _ (.head _)))).2.2⟩⟩
  · exact ret _ _ _ k _ R'
end
end Mine
theorem Mine.off17 : True := by w_top off; trivial
-- P13_list
namespace Mine
section
variable {M : Model} {A : Around} {E : Value → Shared → Prop} {s : Shared} {K : Frag} {x C f : Addr} {ox : Obj} {od : Option Obj}
theorem next_inst {Q : Option Value → Shared → Prop} (X : K.In s.heap) (I : InstAt s.heap x ox C od) (hs : findIn K (.ref C) "__next__" = some (some (.ref f))) (hf : isFn K (.ref f) = true)
    (h : wpAny M A (call (.ref f) [.ref x]) (fun v s' => Q (some v) s') (fun e s' => ∃ e', e = .ref e' ∧ (∃ o, s'.heap.get? e' = some o ∧ o.cls = .type "StopIteration") ∧ Q none s') s) : wpAny M A (pyNext (.ref x)) Q E s := by
  unfold pyNext
  refine wpAny_bind (wpAny_attempt (special_fn (name := "__next__") (args := []) X I hs (beq_iff_eq.mp hf) (wpAny_mono h (fun v s' hq => wpAny_pure hq) (fun e s' he => ?_))))
  obtain ⟨e', rfl, hT, hq⟩ := he
  refine wpAny_bind (wpAny_isInstance (v := .ref e') (T := "StopIteration") hT owsi_facts.sub (wpAny_pure hq))
end
section
variable {w : World} {dp un : Nat} {fr : List Env} {gd : Option (List Code)} {s : Shared} {Q E : Value → Shared → Prop} {loose : List Str} {mean : ExcName → Option Value} {mg mb : Str → Option Value}
theorem gr_iter {y : Addr} {B : Heap} (hB : Kp B s.heap) (X : (hd.heap_39 w.params).In B) (T : Top topProg loose mean mg mb B) (hA : dp + 1 < recursionLimit)
  (ret : ∀ h' tk', Kp s.heap h' → Q (.ref y) {s with heap := h', toks := tk'}) :
  wpAny (model PySem.Challenge.rw_ev0005_01.row.prog w) (Ar dp un (some fr) gd) (call (.ref 127) [.ref y]) Q E s := by
  have X := X.keeps hB
  have T := T.keeps hB
  revert X; k_fill; intro X
  walk_at "M enter"
  intro h₁ tk₁ F N
  walk_at "M steps"
  exact ret _ _ (by (with_reducible rename Fr _ _ _ _ => F); exact F.keep)
abbrev liObj (acc : Array Value) (c : Nat) : Obj := { cls := .type "list", dict := none, data := .seq acc c, slots := #[] }
def After (h : Heap) (x dx I l kf : Addr) (n ser : Int) (u u2 : Tok) (b : Bool) (f : List Nat → Bool) (len : Nat) : List (List Nat) → Prop
  | [] => ∃ k, Gb h x dx I (gbO dx I kf n u .none .none false false true ser u2 (.bool b)) (itEnd k)
  | r :: rs => ∃ t, Gb h x dx I (gbO dx I kf n u (.bool (f r)) (.str (S r) t) true true true ser u2 (.bool b)) (itObj l (len - rs.length))
theorem strsAre_at {vs : List Value} {ys : List Str} (h : StrsAre vs ys) {i : Nat} {y : Str} (hy : ys[i]? = some y) : ∃ t, vs[i]? = some (.str y t) := by
  induction h generalizing i with
  | nil => simp at hy
  | cons x t h ih =>
    cases i with
    | zero => exact ⟨t, by simp at hy; simp [hy]⟩
    | succ i => obtain ⟨t', e⟩ := ih (by simpa using hy); exact ⟨t', by simpa using e⟩
theorem strsAre_push {vs : List Value} {ys : List Str} (h : StrsAre vs ys) (y : Str) (t : Tok) : StrsAre (vs ++ [.str y t]) (ys ++ [y]) := by
  induction h with
  | nil => exact .cons _ _ .nil
  | cons x t h ih => exact .cons _ _ ih
theorem liAt {h : Heap} {L : Addr} {acc : Array Value} {c : Nat} (e : h.get? L = some (liObj acc c)) (v : Value) : ∃ c', (h.update L (Obj.mapSeq (·.push v))).get? L = some (liObj (acc.push v) c') := ⟨_, Heap.get?_update_self _ e rfl⟩
theorem kwUpd {fr : List Env} {mu : List Addr} {H h : Heap} {L : Addr} {g : Obj → Obj} (W : Kw fr mu H h) (hm : L ∈ mu) (hf : L ∉ fa fr) : Kw fr mu H (h.update L g) :=
  ⟨fun b o p q e => (Heap.get?_update_other _ _ fun z : L = b => q (by rw [← z]; exact hm)).trans (W.keep b o p q e), fun b o p e => by
    obtain ⟨sl, e2⟩ := W.slot b o p e
    exact ⟨sl, (Heap.get?_update_other _ _ fun z : L = b => hf (by rw [z]; exact p)).trans e2⟩⟩
theorem flUpd {B h : Heap} {fr : List Env} {L : Addr} {g : Obj → Obj} (G : Fl B fr h) (hb : B.get? L = none) (hf : L ∉ fa fr) : Fl B fr (h.update L g) :=
  G.kw (mu := [L]) (kwUpd .refl (.head _) hf) (List.forall_mem_singleton.mpr ⟨hb, hf⟩)
theorem gr_loop {B H : Heap} {x dx I l kf y dy L : Addr} {vs : List Value} {xs : List (List Nat)} {n ser : Int} {u u2 u3 : Tok} {b : Bool} {f : List Nat → Bool} {R : Result → Shared → Prop}
  (X : (hd.heap_39 w.params).In B) (T : Top topProg loose mean mg mb B) (hA : dp + 3 < recursionLimit) (ho : Out B fr x dx I) (hq : OutG B fr y dy) (hl : B.IsList l vs.toArray) (hvs : StrsAre vs (xs.map S)) (hxs : ∀ a ∈ xs, a ≠ [] ∧ a.length ≤ 100000)
  (hsz : xs.length ≤ 100000) (hkf : KeyFn w B kf f) (hko : FnAt kf B) (hL : B.get? L = none ∧ L ∉ fa fr ∧ L ∉ [y, dy, x, dx, I]) :
  ∀ (k i : Nat) (h : Heap) (tk : Nat) (acc : Array Value) (c : Nat) (ra : List (List Nat)), xs.length - i = k → i ≤ xs.length → Fl B fr h → Kw fr [y, dy, x, dx, I, L] H h →
    Gb h x dx I (gbO dx I kf n u .none .none false false true ser u2 (.bool b)) (itObj l i) → Gr h y dy I (grO dy x n u3 (.bool b)) → h.get? L = some (liObj acc c) → acc.size + (xs.length - i) ≤ 200000 → StrsAre acc.toList (ra.map S) →
    (∀ h' tk' acc' c', Kw fr [y, dy, x, dx, I, L] H h' → Fl B fr h' → Gr h' y dy I (grO dy x n u3 (.bool b)) → h'.get? L = some (liObj acc' c') → StrsAre acc'.toList ((ra ++ (xs.drop i).takeWhile (f · == b)).map S) →
      After h' x dx I l kf n ser u u2 b f xs.length ((xs.drop i).dropWhile (f · == b)) → R (.ok (.ret .none)) { s with heap := h', toks := tk' }) →
    codeAny (model PySem.Challenge.rw_ev0005_01.row.prog w) (Ar dp un (some fr) gd) (.builtin "list.extend.loop" ⟨[.ref L, .ref y, .none], []⟩) R { s with heap := h, toks := tk } := by
  revert X; k_fill; intro X k
  have out5 : ∀ a ∈ [y, dy, x, dx, I], B.get? a = none ∧ a ∉ fa fr := by
    simp only [List.forall_mem_cons]
    exact ⟨hq.y, hq.d, ho.x, ho.d, ho.i, fun _ h => nomatch h⟩
  have sub6 : ∀ a ∈ [y, dy, x, dx, I], a ∈ [y, dy, x, dx, I, L] := fun a ha => by
    simp only [List.mem_cons, List.not_mem_nil, or_false] at ha ⊢
    rcases ha with h | h | h | h | h <;> simp [h]
  induction k using Nat.strongRecOn with
  | ind k ih =>
    intro i h tk acc c ra hk hi G W hg hr hS hc hacc hR
    refine codeAny_builtin F.entry_extend_loop ?_
    rw [Around.under_plainId F.plain_extend_loop _]
    show wpAny _ _ (pyNext (.ref y) >>= _) _ _ _
    have IA : InstAt h y (grO dy x n u3 (.bool b)) 138 (some (dictOf [] 0)) := ⟨hr.gy, rfl, rfl, hr.gd⟩
    refine wpAny_bind ?_
    refine' next_inst (K := hd.heap_39 w.params) (C := 138) (X.keeps G.kp) IA ?hs ?hf ?_
    (case hs => k_is)
    (case hf => k_is)
    by_cases hlt : i < xs.length
    · have hd' : xs.drop i = xs[i] :: xs.drop (i + 1) := List.drop_eq_getElem_cons hlt
      obtain ⟨t, hx⟩ := strsAre_at hvs (i := i) (y := S xs[i]) (by simp [hlt])
      have ha := hxs xs[i] (List.getElem_mem hlt)
      rw [hd'] at hR
      by_cases hfb : f xs[i] = b
      · rw [List.takeWhile_cons_of_pos (by simp [hfb]), List.dropWhile_cons_of_pos (by simp [hfb])] at hR
        refine gr_item (B := B) G X T hA hg hr ho hq (hl.at fun o e => G.kp _ o e) (by simpa using hx) ha hkf hko hfb fun h₂ tk₂ W2 g2 r2 => ?_
        have hS2 := W2.keep L _ hL.2.1 hL.2.2 hS
        show wpAny _ _ (updateSeq L (·.push _) >>= _) _ _ _
        refine wpAny_bind ?_
        obtain ⟨c', hS3⟩ := liAt hS2 (.str (S xs[i]) t)
        have G2 := G.kw W2 out5
        have oth : ∀ a, a ∈ [y, dy, x, dx, I] → ∀ g, (h₂.update L g).get? a = h₂.get? a := fun a ha g => Heap.get?_update_other _ _ fun z : L = a => hL.2.2 (by rw [z]; exact ha)
        have h20 : (200000 : Nat) ≤ sizeLine := by decide
        have hz1 : acc.size ≤ sizeLine := by omega
        have hz2 : (acc.push (.str (S xs[i]) t)).size ≤ sizeLine + 1 := by rw [Array.size_push]; omega
        refine wpAny_updateSeq hS2 rfl (wpAny_pure ⟨plainId_quiet F.plain_extend_loop _, ?_⟩) hz1 hz2
        refine ih (xs.length - (i + 1)) (by omega) (i + 1) _ tk₂ _ _ (ra ++ [xs[i]]) rfl (by omega) (flUpd G2 hL.1 hL.2.1) (kwUpd (W.trans (W2.more sub6)) (by simp) hL.2.1) ⟨?_, ?_, ?_, g2.dx_x, g2.x_I⟩ ⟨?_, ?_, r2.I_d, r2.d_y⟩ hS3 (by rw [Array.size_push]; omega)
          (by rw [Array.toList_push, List.map_append]; exact strsAre_push hacc _ _) ?_
        · rw [oth x (by simp)]; exact g2.gx
        · rw [oth dx (by simp)]; exact g2.gd
        · rw [oth I (by simp)]; exact g2.gi
        · rw [oth y (by simp)]; exact r2.gy
        · rw [oth dy (by simp)]; exact r2.gd
        · rw [List.append_assoc]; exact hR
      · rw [List.takeWhile_cons_of_neg (by simp [hfb]), List.dropWhile_cons_of_neg (by simp [hfb])] at hR
        refine gr_differ (B := B) G X T hA hg hr ho hq (hl.at fun o e => G.kp _ o e) (by simpa using hx) ha hkf hko hfb fun h₂ tk₂ e R2 => ⟨e, rfl, R2.there, ?_⟩
        refine wpAny_pure (hR _ _ acc c (W.trans (R2.kw.more sub6)) (G.kw R2.kw out5) ⟨R2.get (.head _), R2.get (.tail _ (.head _)), hr.I_d, hr.d_y⟩ (R2.kw.keep L _ hL.2.1 hL.2.2 hS) (by simpa using hacc) ⟨t, R2.get (.tail _ (.tail _ (.head _))), R2.get (.tail _ (.tail _ (.tail _ (.head _)))), ?_, hg.dx_x, hg.x_I⟩)
        have e1 : xs.length - (xs.drop (i + 1)).length = i + 1 := by rw [List.length_drop]; omega
        rw [e1]
        exact R2.get (.tail _ (.tail _ (.tail _ (.tail _ (.head _)))))
    · have hi' : xs.drop i = [] := List.drop_eq_nil_of_le (by omega)
      rw [hi'] at hR
      have hvl : vs.length = xs.length := by rw [strsLen hvs, List.length_map]
      refine gr_end (B := B) G X T hA hg hr ho hq (.inl ⟨l, i, vs.toArray, rfl, hl.at fun o e => G.kp _ o e, by simp; omega⟩) fun h₂ tk₂ e k R2 => ⟨e, rfl, R2.there, ?_⟩
      exact wpAny_pure (hR _ _ acc c (W.trans (R2.kw.more sub6)) (G.kw R2.kw out5) ⟨R2.get (.head _), R2.get (.tail _ (.head _)), hr.I_d, hr.d_y⟩ (R2.kw.keep L _ hL.2.1 hL.2.2 hS) (by simpa using hacc) ⟨k, R2.get (.tail _ (.tail _ (.head _))), R2.get (.tail _ (.tail _ (.tail _ (.head _)))), R2.get (.tail _ (.tail _ (.tail _ (.tail _ (.head _))))), hg.dx_x, hg.x_I⟩)
end
end Mine
theorem Mine.off18 : True := by w_top off; trivial
-- P14_list2
namespace Mine
section
variable {w : World} {dp un : Nat} {fr : List Env} {gd : Option (List Code)} {s : Shared} {Q E : Value → Shared → Prop} {loose : List Str} {mean : ExcName → Option Value} {mg mb : Str → Option Value}
theorem gr_list {h₀ : Heap} {Lc : Addr} {m : Str → Option Value} {B : Heap} {x dx I l kf y dy : Addr} {vs : List Value} {xs : List (List Nat)} {n ser : Int} {u u2 u3 : Tok} {b : Bool} {f : List Nat → Bool} {a : List Nat} {t : Tok} {i : Nat}
  (Fc : Fr h₀ Lc s.heap m) (X0 : (hd.heap_39 w.params).In h₀)
  (G : Fl B fr s.heap) (X : (hd.heap_39 w.params).In B) (T : Top topProg loose mean mg mb B) (hA : dp + 3 < recursionLimit) (ho : Out B fr x dx I) (hq : OutG B fr y dy) (hl : B.IsList l vs.toArray) (hvs : StrsAre vs (xs.map S)) (hxs : ∀ a ∈ xs, a ≠ [] ∧ a.length ≤ 100000)
  (hsz : xs.length ≤ 100000) (hkf : KeyFn w B kf f) (hko : FnAt kf B) (hi : i ≤ xs.length)
  (hg : Gb s.heap x dx I (gbO dx I kf n u (.bool b) (.str (S a) t) true true true ser u2 (.bool b)) (itObj l i)) (hr : Gr s.heap y dy I (grO dy x n u3 (.bool b)))
  (ret : ∀ h' tk' L acc' c', Kw fr [y, dy, x, dx, I] s.heap h' → Gr h' y dy I (grO dy x n u3 (.bool b)) → s.heap.get? L = none → h'.get? L = some (liObj acc' c') → StrsAre acc'.toList ((a :: (xs.drop i).takeWhile (f · == b)).map S) →
      After h' x dx I l kf n ser u u2 b f xs.length ((xs.drop i).dropWhile (f · == b)) → Q (.ref L) { s with heap := h', toks := tk' }) :
  wpAny (model PySem.Challenge.rw_ev0005_01.row.prog w) (Ar dp un (some fr) gd) (call (.type "list") [.ref y]) Q E s := by
  revert X; k_fill; intro X
  have out5 : ∀ a ∈ [y, dy, x, dx, I], B.get? a = none ∧ a ∉ fa fr := by
    simp only [List.forall_mem_cons]
    exact ⟨hq.y, hq.d, ho.x, ho.d, ho.i, fun _ h => nomatch h⟩
  have hnw : s.heap.get? s.heap.objs.size = none := by
    cases q : s.heap.get? s.heap.objs.size with
    | none => rfl
    | some o => exact absurd (Heap.lt_size q) (Nat.lt_irrefl _)
  have hSn : ∀ a o, s.heap.get? a = some o → s.heap.objs.size ≠ a := fun a o e q => by rw [← q, hnw] at e; cases e
  have hSf : s.heap.objs.size ∉ fa fr := fun q => by
    obtain ⟨_, o, ho, _⟩ := G.frame q
    rw [hnw] at ho; cases ho
  have hSB : B.get? s.heap.objs.size = none := by
    cases q : B.get? s.heap.objs.size with
    | none => rfl
    | some o => have := G.kp _ o q; rw [hnw] at this; cases this
  have hS5 : s.heap.objs.size ∉ [y, dy, x, dx, I] := nin (by
    simp only [List.forall_mem_cons]
    exact ⟨(hSn _ _ hr.gy).symm, (hSn _ _ hr.gd).symm, (hSn _ _ hg.gx).symm, (hSn _ _ hg.gd).symm, (hSn _ _ hg.gi).symm, fun _ h => nomatch h⟩)
  refine callType_codes (Q₁ := fun obj s₁ => obj = .ref s.heap.objs.size ∧ s₁ = { s with heap := s.heap.push { cls := .type "list", data := .seq #[] } }) PySem.F.called_list (PySem.F.typeCall_list_1 _) PySem.F.entry_list_init
    (code_list_new _ ⟨rfl, rfl⟩) fun obj s₁ h₁ => ?_
  obtain ⟨rfl, rfl⟩ := h₁
  generalize hSe : s.heap.objs.size = L at *
  have hS : (s.heap.push { cls := .type "list", data := .seq #[] }).get? L = some { cls := .type "list", data := .seq #[] } := by rw [← hSe]; exact Heap.get?_push_size _ rfl
  refine ⟨⟨_, hS, rfl⟩, PySem.F.args_list_init_2 _ _, ?_⟩
  show wpAny _ _ (do let old ← Builtin.List.listItems (.ref L); Builtin.List.listUpdate (.ref L) (fun _ => #[]); letGo old.toList.reverse; Builtin.List.listExtendWith (.ref L) (.ref y) .none) _ _ _
  refine wpAny_bind ?_
  unfold Builtin.List.listItems
  refine wpAny_bind (wpAny_seqItems hS rfl (wpAny_pure ?_))
  show wpAny _ _ (updateSeq L (fun _ => #[]) >>= fun _ => letGo (#[] : Array Value).toList.reverse >>= fun _ => Builtin.List.listExtendWith (.ref L) (.ref y) .none) _ _ _
  refine wpAny_bind (wpAny_updateSeq hS rfl ?_)
  have hS₂ := Heap.get?_update_self (Obj.mapSeq (fun _ => (#[] : Array Value))) hS rfl
  have oth : ∀ b o, s.heap.get? b = some o → ((s.heap.push { cls := .type "list", data := .seq #[] }).update L (Obj.mapSeq (fun _ => (#[] : Array Value)))).get? b = some o :=
    fun b o e => (Heap.get?_update_other _ _ (hSn b o e)).trans (Heap.get?_push_of_some _ e)
  generalize (s.heap.push { cls := .type "list", data := .seq #[] }).update L (Obj.mapSeq (fun _ => (#[] : Array Value))) = h₂ at *
  refine wpAny_bind (wpAny_letGo ?_)
  unfold Builtin.List.listExtendWith
  have IA : InstAt h₂ y (grO dy x n u3 (.bool b)) 138 (some (dictOf [] 0)) := ⟨oth _ _ hr.gy, rfl, rfl, oth _ _ hr.gd⟩
  refine wpAny_bind (IA.type.here ?_)
  have hLy : L ≠ y := hSn _ _ hr.gy
  have h1 : Builtin.List.listSameRef (.ref L) (.ref y) = false := by simp [Builtin.List.listSameRef, hLy]
  have h2 : (Value.ref 138 == Value.type "list") = false := by decide
  have h3 : (Value.ref 138 == Value.type "tuple") = false := by decide
  simp only [h1, h2, h3, Bool.or_false, Bool.false_eq_true, if_false]
  refine wpAny_bind ?_
  refine' owit_iter (Fc.keeps oth) X0 IA ?hs ?hf ?_
  (case hs => k_is)
  (case hf => k_is)
  refine gr_iter (B := B) (fun b o e => oth _ _ (G.kp _ _ e)) X T (by exact Nat.lt_of_le_of_lt (by simp) hA) fun h₃ tk₃ hk3 => ?_
  have IA3 : InstAt h₃ y (grO dy x n u3 (.bool b)) 138 (some (dictOf [] 0)) := ⟨hk3 _ _ (oth _ _ hr.gy), rfl, rfl, hk3 _ _ (oth _ _ hr.gd)⟩
  refine' owit_it ((Fc.keeps oth).keeps hk3) X0 IA3 ?hs ?_
  (case hs => k_is)
  have X3 := X.keeps (fun b o e => hk3 _ _ (oth _ _ (G.kp _ _ e)))
  refine wpAny_bind (wpAny_holding ?_)
  unfold Builtin.List.listLengthHint
  have IA3' := IA3
  refine wpAny_bind ?_
  show wpAny _ _ (specialOf (.ref y) (Str.ofString "__len__")) _ _ _
  have hlen : findIn (hd.heap_39 w.params) (.ref 138) "__len__" = some none := by k_is
  have hhint : findIn (hd.heap_39 w.params) (.ref 138) "__length_hint__" = some none := by k_is
  unfold specialOf
  refine wpAny_bind (IA3.type.here ((looks_findIn X3 hlen).here ?_))
  dsimp only
  show wpAny _ _ ((typeOf (.ref y) >>= fun t => typeLookup t (Str.ofString "__length_hint__")) >>= _) _ _ _
  refine wpAny_bind (wpAny_bind (IA3.type.here ((looks_findIn X3 hhint).here ?_)))
  refine wpAny_pure ?_
  show wpAny _ _ (rule "list.extend.makes-room" >>= fun _ => Builtin.List.listTouch (.ref L) >>= fun _ =>
    again (.builtin "list.extend.loop" ⟨[.ref L, .ref y, .none], []⟩)) _ _ _
  refine wpAny_bind (wpAny_rule ?_)
  refine wpAny_bind ?_
  show wpAny _ _ (updateSeq L (·.push .none) >>= fun _ => updateSeq L (·.pop)) _ _ _
  have hS₃ := hk3 _ _ hS₂
  refine wpAny_bind (wpAny_updateSeq hS₃ rfl ?_)
  have hS₄ := Heap.get?_update_self (Obj.mapSeq (·.push Value.none)) hS₃ rfl
  refine wpAny_updateSeq (hz := by seq_fits) hS₄ rfl ?_
  have hS₅ := Heap.get?_update_self (Obj.mapSeq (·.pop)) hS₄ rfl
  have oth5 : ∀ b o, s.heap.get? b = some o → ((h₃.update L (Obj.mapSeq (·.push Value.none))).update L (Obj.mapSeq (·.pop))).get? b = some o :=
    fun b o e => (Heap.get?_update_other _ _ (hSn b o e)).trans ((Heap.get?_update_other _ _ (hSn b o e)).trans (hk3 _ _ (oth _ _ e)))
  generalize (h₃.update L (Obj.mapSeq (·.push Value.none))).update L (Obj.mapSeq (·.pop)) = h₅ at *
  refine wpAny_pure ⟨plainId_quiet PySem.F.plain_extend_loop _, ?_⟩
  -- the first one
  refine codeAny_builtin PySem.F.entry_extend_loop ?_
  rw [Around.under_plainId PySem.F.plain_extend_loop _]
  show wpAny _ _ (pyNext (.ref y) >>= _) _ _ _
  have G5 : Fl B fr h₅ := G.grow oth5
  have IA5 : InstAt h₅ y (grO dy x n u3 (.bool b)) 138 (some (dictOf [] 0)) := ⟨oth5 _ _ hr.gy, rfl, rfl, oth5 _ _ hr.gd⟩
  refine wpAny_bind ?_
  refine' next_inst (K := hd.heap_39 w.params) (C := 138) (X.keeps G5.kp) IA5 ?hs ?hf ?_
  (case hs => k_is)
  (case hf => k_is)
  refine gr_kept (B := B) G5 X T hA ⟨oth5 _ _ hg.gx, oth5 _ _ hg.gd, oth5 _ _ hg.gi, hg.dx_x, hg.x_I⟩ ⟨oth5 _ _ hr.gy, oth5 _ _ hr.gd, hr.I_d, hr.d_y⟩ ho hq rfl fun h₆ tk₆ W6 g6 r6 => ?_
  have hS6 := W6.keep L _ hSf hS5 hS₅
  show wpAny _ _ (updateSeq L (·.push _) >>= _) _ _ _
  refine wpAny_bind ?_
  have G6 := G5.kw W6 out5
  have oth6 : ∀ a, a ∈ [y, dy, x, dx, I] → ∀ g, (h₆.update L g).get? a = h₆.get? a := fun a ha g => Heap.get?_update_other _ _ fun z : L = a => hS5 (by rw [z]; exact ha)
  refine wpAny_updateSeq hS6 rfl (wpAny_pure ⟨plainId_quiet PySem.F.plain_extend_loop _, ?_⟩)
  have W6' : Kw fr [y, dy, x, dx, I, L] s.heap (h₆.update L (Obj.mapSeq (·.push (.str (S a) t)))) := kwUpd ((Kw.of oth5).trans (W6.more (by intro a ha; simp only [List.mem_cons, List.not_mem_nil, or_false] at ha ⊢; rcases ha with h | h | h | h | h <;> simp [h]))) (by simp) hSf
  refine gr_loop (H := s.heap) (s := s) (n := n) (ser := ser) (u := u) (u2 := u2) (u3 := u3) (b := b) (f := f) X T (by exact hA) ho hq hl hvs hxs hsz hkf hko ⟨hSB, hSf, hS5⟩ (xs.length - i) i _ tk₆ _ _ [a] rfl hi (flUpd G6 hSB hSf) W6' ⟨?_, ?_, ?_, g6.dx_x, g6.x_I⟩ ⟨?_, ?_, r6.I_d, r6.d_y⟩ (Heap.get?_update_self _ hS6 rfl) ?_ ?_ fun h₇ tk₇ acc' c' W7 G7 r7 hL7 hacc hAf => ?_
  · rw [oth6 x (by simp)]; exact g6.gx
  · rw [oth6 dx (by simp)]; exact g6.gd
  · rw [oth6 I (by simp)]; exact g6.gi
  · rw [oth6 y (by simp)]; exact r6.gy
  · rw [oth6 dy (by simp)]; exact r6.gd
  · have : (#[] : Array Value).size = 0 := rfl
    simp; omega
  · simp; exact .cons _ _ .nil
  · refine ⟨rfl, ret _ _ L acc' c' ⟨fun b o p q e => W7.keep b o p (fun z => ?_) e, W7.slot⟩ r7 hnw hL7 hacc hAf⟩
    simp only [List.mem_cons, List.not_mem_nil, or_false] at q z
    rcases z with z | z | z | z | z | z
    · exact q (.inl z)
    · exact q (.inr (.inl z))
    · exact q (.inr (.inr (.inl z)))
    · exact q (.inr (.inr (.inr (.inl z))))
    · exact q (.inr (.inr (.inr (.inr z))))
    · exact hSn b o e z.symm
end
end Mine
theorem Mine.off19 : True := by w_top off; trivial
-- P15_roi
namespace Mine
/-- entry of a def that has cells -/
theorem enterC {K : Frag} {B : Heap} (news : List (Addr × Obj)) {prog : Program} {w : World} {A : Around} {s : Shared} {Q E : Value → Shared → Prop} {p : Program} {loose : List Str} {mean : ExcName → Option Value} {mg mb : Str → Option Value} {name qual : Str} {params : Arguments} {body : List Stmt} {scope : Scope} {dV kV doc pm cdv ct oc : Value} {an od : Option Addr} {osl : Array (Option Value)} {f : Addr} {args : List Value} {kw : List (Str × Value)} {binds : List (Str × Value)}
    (hB : Kp B s.heap) (hN : ∀ p ∈ news, s.heap.get? p.1 = some p.2 ∧ B.get? p.1 = none) (X : K.In B) (T : Top p loose mean mg mb B)
    (ho : K.lookup f = some ⟨oc, od, .func (fnOf name qual params body scope dV kV doc pm an cdv ct), osl⟩) (hcd : codeIn K cdv qual = true) (hroom : A.depth < recursionLimit)
    (hbind : BindsTo s (fnOf name qual params body scope dV kV doc pm an cdv ct) ⟨args, kw⟩ binds)
    (hkind : ∀ n, ∀ x ∈ binds, scope.names.lookup x.1 = some .local ∨ (scope.names.lookup x.1 = some .cell ∧ ((cellsFrom n scope.names []).lookup x.1).isSome = true))
    (hnd : ((cellsFrom 0 scope.names []).map (·.1)).Nodup)
    (h : ∀ h₁ tk₁ cells, K.In (But s news) → Top p loose mean mg mb (But s news) → Fr (But s news) s.heap.objs.size h₁ (bindL (envOfC qual scope s.heap.objs.size f cdv).kindOf binds fun _ => none) → News (But s news) s.heap.objs.size h₁ (cells ++ news) →
      CellsAre (bindC (envOfC qual scope s.heap.objs.size f cdv).kindOf binds fun _ => none) (cellsFrom (s.heap.objs.size + 1) scope.names []) cells →
      wpAny (model prog w) (A.deeper (envOfC qual scope s.heap.objs.size f cdv)) (execs body (envOfC qual scope s.heap.objs.size f cdv))
        (fun fl s' => Q (match fl with | .ret v => v | _ => .none) s')
        (fun e s' => wpAny (model prog w) (A.deeper (envOfC qual scope s.heap.objs.size f cdv)) (leaving (envOfC qual scope s.heap.objs.size f cdv) e) (fun _ s'' => E e s'') (fun e' s'' => E e' s'') s')
        { s with heap := h₁, toks := tk₁ })
    (hco : scope.isCoroutine = false := by rfl) (hgen : scope.isGenerator = false := by rfl) (hk : scope.kind = .function := by rfl) : wpAny (model prog w) A (call (.ref f) args kw) Q E s := by
  have st : Kp B (But s news) := but_base hB fun p hp => (hN p hp).2
  refine wpAny_call ?_
  refine codeAny_call_function (fd := fnOf name qual params body scope dV kV doc pm an cdv ct) hroom (hB _ _ (X _ _ ho)) rfl hco hgen rfl (codeRec_of (X.keeps hB) hcd) (hbind _ _ _ _ ?_)
  refine wpAny_newFunctionEnv_cells hk (hkind _) fun env' he s' x => ?_
  subst he
  refine ⟨(T.nolimit.keeps hB).keeps x.toInCall.keep, codeAny_func ?_⟩
  obtain ⟨h₁, tk, rfl, _⟩ := x.done
  have hk₁ := x.toInCall.keep
  obtain ⟨cells, NC, Y⟩ := Cl.news (h₀ := s.heap) (Nat.le_refl _) fun n c hm => ⟨x.cell n c (lookup_of_mem_nodup (cellsFrom_names scope.names 0 (s.heap.objs.size + 1) [] [] rfl ▸ hnd) hm), x.above n c hm⟩
  refine h h₁ tk cells (X.keeps st) (T.keeps st) ⟨x.toInCall.ns, fun b o e => hk₁ b o (of_hideAll _ e), Nat.le_of_eq (hideAll_size _ _)⟩ (fun p hp => ?_) Y
  rcases List.mem_append.mp hp with hp | hp
  · refine ⟨(NC p hp).1, (NC p hp).2.1, ?_⟩
    cases q : (hideAll s.heap (news.map (·.1))).get? p.1 with
    | none => rfl
    | some o => have := of_hideAll _ q; rw [(NC p hp).2.2] at this; cases this
  · exact ⟨hk₁ _ _ (hN p hp).1, Nat.ne_of_lt (Heap.lt_size (hN p hp).1), hideAll_none _ (List.mem_map_of_mem hp)⟩
end Mine
namespace Mine
section
variable {B h₀ h : Heap} {fr : List Env} {L : Addr} {m : Str → Option Value} {news : List (Addr × Obj)} {env : Env} {M : List Addr}
theorem in_fl (G : Fl B fr h₀) (F : Fr h₀ L h m) (N : News h₀ L h news) (hM : ∀ a ∈ M, ∃ o, (a, o) ∈ news) (hf : env.frame = some L) (hk : env.scope.kind = .function) : Fl (hideAll h (M ++ fa (env :: fr))) (env :: fr) h := (inner M G F N hf hk hM).1
theorem in_kp (G : Fl B fr h₀) (F : Fr h₀ L h m) (N : News h₀ L h news) (hM : ∀ a ∈ M, ∃ o, (a, o) ∈ news) (hf : env.frame = some L) (hk : env.scope.kind = .function) : ∀ b o, B.get? b = some o → (hideAll h (M ++ fa (env :: fr))).get? b = some o := (inner M G F N hf hk hM).2.1
theorem in_mu {a : Addr} (G : Fl B fr h₀) (F : Fr h₀ L h m) (N : News h₀ L h news) (hM : ∀ a ∈ M, ∃ o, (a, o) ∈ news) (hf : env.frame = some L) (hk : env.scope.kind = .function) (ha : a ∈ M) : (hideAll h (M ++ fa (env :: fr))).get? a = none ∧ a ∉ fa (env :: fr) := (inner M G F N hf hk hM).2.2.1 a ha
theorem in_news {q : Addr × Obj} (G : Fl B fr h₀) (F : Fr h₀ L h m) (N : News h₀ L h news) (hM : ∀ a ∈ M, ∃ o, (a, o) ∈ news) (hf : env.frame = some L) (hk : env.scope.kind = .function) (hq : q ∈ news) (hn : q.1 ∉ M) : (hideAll h (M ++ fa (env :: fr))).get? q.1 = some q.2 := (inner M G F N hf hk hM).2.2.2.1 q hq hn
theorem in_list {D : Addr} {its : Array Value} {n : Nat} (G : Fl B fr h₀) (F : Fr h₀ L h m) (N : News h₀ L h news) (hM : ∀ a ∈ M, ∃ o, (a, o) ∈ news) (hf : env.frame = some L) (hk : env.scope.kind = .function) (hq : (D, ({ cls := .type "list", data := .seq its n } : Obj)) ∈ news) (hn : D ∉ M) :
    (hideAll h (M ++ fa (env :: fr))).IsList D its := ⟨_, in_news G F N hM hf hk hq hn, rfl, _, rfl⟩
end
end Mine
theorem Mine.off20 : True := by w_top off; trivial
-- P15b_ops
namespace Mine
section
variable {prog : Program} {w : World} {A : Around} {E : Value → Shared → Prop} {s : Shared} {h₀ : Heap} {L l : Addr} {m : Str → Option Value} {news : List (Addr × Obj)} {vs : List Value} {value slice : Expr}
theorem atL {k : Int} {u : Tok} {v : Value} {Q : Value → Shared → Prop} (hl : s.heap.IsList l vs.toArray) (h0 : 0 ≤ k) (hhi : k < 2 ^ 63) (hx : vs[k.toNat]? = some v) (h : Q v s)
    (hs : subscripted slice false (.ref l) (.int k u) = operate [.ref l, .int k u] (getItem (.ref l) (.int k u))) :
    wpAny (model prog w) A (subscriptTail value slice (.ref l) (.int k u)) Q E s :=
  tail_any hl.typeIs slot_list_getitem.lookup (wpAny_getItem_list hl h0 hhi (by simpa using hx) h) hs
theorem fitL {vs : List Value} (h : vs.length ≤ 1000000) : vs.toArray.size ≤ sizeLine := by
  have : (1000000 : Nat) ≤ sizeLine := by decide
  simp; omega
theorem cutL {k : Int} {uk : Tok} {Q : Value → Shared → Prop} (F : Fr h₀ L s.heap m) (N : News h₀ L s.heap news) (hl : s.heap.IsList l vs.toArray) (h0 : 0 ≤ k) (hz : vs.length ≤ 1000000)
    (h : ∀ D h', Fr h₀ L h' m → News h₀ L h' ((D, { cls := .type "list", data := .seq (vs.drop k.toNat).toArray }) :: news) → (∀ p ∈ news, p.1 < D) → Q (.ref D) { s with heap := h' })
    (hs : subscripted slice false (.ref l) (.ref s.heap.objs.size) = operate [.ref s.heap.objs.size, .ref l] (getItem (.ref l) (.ref s.heap.objs.size)))
    (ht : ∀ r, letTemporaryGo value (.ref l) r = pure ()) :
    wpAny (model prog w) A (subscriptTail value slice (.ref l) (.ref s.heap.objs.size)) Q E { s with heap := s.heap.push { cls := .type "slice", data := .fields #[.int k uk, .none, .none] } } := by
  refine slice_list (lo := some k) (hi := none) F N hl (.int _ _) .none (fun h' F' N' => ?_) hs ht (fitL hz)
  have e : slicePick vs.toArray (some k) none none = (vs.drop k.toNat).toArray := by
    have := slicePick_from' vs.toArray k.toNat
    rw [show ((k.toNat : Nat) : Int) = k from by omega] at this
    simpa using this
  rw [e] at N'
  exact h _ h' F' N' fun p hp => Nat.lt_succ_of_lt (Heap.lt_size (N p hp).1)
theorem paired_list {g : List Nat → List Nat} : ∀ {vs ys : List Value} {xs : List (List Nat)}, StrsAre vs (xs.map S) → Paired (fun v r => ∃ a u u', v = Value.str (S a) u ∧ r = Value.str (S (g a)) u') vs ys → StrsAre ys (xs.map fun a => S (g a))
  | _, _, [], h, k => by
    cases h
    cases k
    exact .nil
  | _, _, a :: xs, h, k => by
    cases h with
    | cons x t h =>
      cases k with
      | cons hF ht =>
        obtain ⟨a', u, u', e, rfl⟩ := hF
        obtain rfl := S_inj (Value.str.inj e).1
        exact .cons _ _ (paired_list h ht)
/-- a comprehension over a list of texts -/
theorem compL {env : Env} {elt iter : Expr} {x : Str} {px : Pos} {scope : Scope} {cl : List (Str × Addr)} {pos : Pos} {Q : Value → Shared → Prop} (g : List Nat → List Nat)
    (hh : A.handled = none) (hclos : closureFor scope env = pure cl) (hcell : ∀ y ∈ scope.names, y.2 ≠ .cell) (hkind : scope.kind = .function)
    (hnames : ∀ y ∈ scope.names, y.2 = .local → scope.names.lookup y.1 = some .local) (hx : scope.names.lookup x = some .local)
    (h : wpAny (model prog w) A (eval iter env) (fun xv s₁ => ∃ (l : Addr) (vs : List Value) (xs : List (List Nat)), xv = .ref l ∧ s₁.heap.IsList l vs.toArray ∧ StrsAre vs (xs.map S) ∧ xs.length ≤ 1000000 ∧ ∃ h₀ L m news, Fr h₀ L s₁.heap m ∧ News h₀ L s₁.heap news ∧
      (∀ a C u s₃ m₃ E', a ∈ xs → Kp s₁.heap s₃.heap → Fr h₀ C s₃.heap m₃ → News h₀ C s₃.heap news → m₃ x = some (.str (S a) u) →
        wpAny (model prog w) A (eval elt (compEnvC scope cl C env)) (fun v s₄ => (∃ u, v = .str (S (g a)) u) ∧ Keeps s₃ s₄) E' s₃) ∧
      (∀ D h' tk ys n, Fr h₀ L h' m → News h₀ L h' ((D, PySem.W.listOf ys.toArray n) :: news) → (∀ p ∈ news, p.1 ≠ D) → StrsAre ys (xs.map fun a => S (g a)) → Kp s₁.heap h' → Q (.ref D) { s₁ with heap := h', toks := tk })) E s)
    (hs : ∀ x, foldedSetIterable iter env x = pure x) :
    wpAny (model prog w) A (eval (.ListComp elt [⟨.Name x px, iter, [], 0⟩] scope pos) env) Q E s := by
  refine wpAny_ListComp_free (fun _ => true) (fun v r => ∃ a u u', v = Value.str (S a) u ∧ r = Value.str (S (g a)) u') hclos hcell hkind hnames hx (wpAny_mono h (fun xv s₁ h₁ => ?_) fun _ _ e => e) hs
  obtain ⟨l, vs, xs, rfl, hl, hvs, hsz, h₀, L, m, news, F, N, helt, hQ⟩ := h₁
  refine wpAny_pyIter_list hl ?_
  have hlen0 : vs.length = xs.length := by rw [strsLen hvs, List.length_map]
  have hll : l < s₁.heap.objs.size := let ⟨o, ho, _⟩ := hl; Heap.lt_size ho
  have up : ∀ (s₃ : Shared), (∀ b o', b ∉ [s₁.heap.objs.size] → (s₁.heap.push { cls := .type "list_iterator", data := .fields #[.ref l, .int 0 0] }).get? b = some o' → s₃.heap.get? b = some o') → Kp s₁.heap s₃.heap :=
    fun s₃ hk b o' e => hk b o' (fun hm => by rw [List.mem_singleton.mp hm] at e; exact Nat.lt_irrefl _ (Heap.lt_size e)) (Heap.get?_push_of_some _ e)
  refine ⟨_, _, _, _, _, _, rfl, Walks.list hh s₁.heap.objs.size l (Nat.ne_of_lt hll) vs.toArray, fitL (by omega), ⟨⟨_, Heap.get?_push_size _ rfl, rfl, rfl⟩, hl.push _⟩, ?_, ⟨?_, ?_⟩, ?_⟩
  · intro b hb
    show b < (s₁.heap.push { cls := .type "list_iterator", data := .fields #[.ref l, .int 0 0] }).objs.size
    rw [Heap.size_push]
    rcases List.mem_cons.mp hb with rfl | hb
    · exact Nat.lt_succ_self _
    · rw [List.mem_singleton.mp hb]; exact Nat.lt_succ_of_lt hll
  · intro C i v s₃ m₃ E' _ _ _ _ _ _
    show wpAny _ _ (forIn [] true _) _ _ _
    exact wpAny_pure ⟨rfl, _, _, rfl, fun _ _ e => e⟩
  · intro C i v s₃ m₃ E' hC hP _ hn hm hk _
    have hP' : vs[i]? = some v := by simpa using hP
    have hi : i < xs.length := by rw [← hlen0]; exact (List.getElem?_eq_some_iff.mp hP').1
    obtain ⟨t, ht⟩ := strsAre_at hvs (i := i) (y := S xs[i]) (by simp [hi])
    rw [ht] at hP'
    obtain rfl := Option.some.inj hP'
    have hC' : s₁.heap.objs.size ≤ C := Nat.le_trans (Nat.le_succ _) (by have : (s₁.heap.push { cls := .type "list_iterator", data := .fields #[.ref l, .int 0 0] }).objs.size ≤ C := hC; rwa [Heap.size_push] at this)
    have FC := frC F N (up s₃ hk) hC' hn
    exact wpAny_mono (helt xs[i] C t s₃ m₃ E' (List.getElem_mem hi) (up s₃ hk) FC.1 FC.2 hm) (fun r s₄ h₄ => ⟨let ⟨u', e⟩ := h₄.1; ⟨_, t, u', rfl, e⟩, h₄.2⟩) fun _ _ e => e
  · intro D h' tk ys vs' hnew _ hpl hlen hP hF hk
    have keep := up { s₁ with heap := h' } hk
    obtain ⟨ep, hpl⟩ := hpl
    have hD : s₁.heap.get? D = none := by
      cases e : s₁.heap.get? D with
      | none => rfl
      | some o' => rw [Heap.get?_push_of_some _ e] at hnew; cases hnew
    have N2 := newsNew F N keep hD (o := PySem.W.listOf ys.toList.toArray ep) (by rw [hpl])
    refine hQ D h' tk ys.toList ep (frK F N keep).1 N2.1 N2.2 ?_ keep
    rw [List.filter_eq_self.mpr (fun _ _ => rfl)] at hF
    have e : vs' = vs := by
      have := list_of_places (items := vs.toArray) (by simpa using hlen) hP
      simpa using this
    rw [e] at hF
    exact paired_list hvs hF
theorem newsHead {h h' : Heap} {a : Addr} {o o' : Obj} (F : Fr h₀ L h m) (N : News h₀ L h ((a, o) :: news)) (hne : ∀ p ∈ news, p.1 ≠ a) (hk : ∀ b ob, b ≠ a → h.get? b = some ob → h'.get? b = some ob) (ho : h'.get? a = some o') :
    Fr h₀ L h' m ∧ News h₀ L h' ((a, o') :: news) := by
  have ha := N _ (.head _)
  obtain ⟨oL, es, ep, hL, r⟩ := F.ns
  refine ⟨⟨⟨oL, es, ep, hk _ _ (Ne.symm ha.2.1) hL, r⟩, fun b ob e => hk _ _ (fun q => by rw [q, ha.2.2] at e; cases e) (F.keep _ _ e), F.above⟩, fun p hp => ?_⟩
  rcases List.mem_cons.mp hp with rfl | hp
  · exact ⟨ho, ha.2⟩
  · exact ⟨hk _ _ (hne p hp) (N _ (.tail _ hp)).1, (N _ (.tail _ hp)).2⟩
theorem nextL {I : Addr} {i : Nat} {items : Array Value} {v : Value} {Q : Option Value → Shared → Prop} (F : Fr h₀ L s.heap m) (N : News h₀ L s.heap ((I, itObj l i) :: news)) (hne : ∀ p ∈ news, p.1 ≠ I)
    (hl : s.heap.IsList l items) (hx : items[i]? = some v) (h : ∀ h', Fr h₀ L h' m → News h₀ L h' ((I, itObj l (i + 1)) :: news) → (∀ b o, b ≠ I → s.heap.get? b = some o → h'.get? b = some o) → Q (some v) { s with heap := h' }) :
    wpAny (model prog w) A (pyNext (.ref I)) Q E s := by
  have hI := (N _ (.head _)).1
  have hit : s.heap.IsListIter I l i := ⟨_, hI, rfl, rfl⟩
  unfold pyNext
  refine wpAny_bind (wpAny_attempt (wpAny_callSpecial?_slot (name := Str.ofString "__next__") hit.typeIs slot_listiter_next
    (wpAny_call_entry slot_listiter_next hit.typeIs entry_listiter_next ?_ (args_listiter_next _))))
  obtain ⟨ol, hol, _, nl, hdl⟩ := hl
  show wpAny _ _ (field (.ref I) 0 >>= _) _ _ s
  refine wpAny_bind (wpAny_field hI rfl (x := .ref l) rfl ?_)
  show wpAny _ _ (if (Value.ref l == Value.none) = true then _ else _) _ _ s
  rw [if_neg (show ¬ ((Value.ref l == Value.none) = true) from Bool.false_ne_true)]
  show wpAny _ _ (field (.ref I) 1 >>= _) _ _ s
  refine wpAny_bind (wpAny_field hI rfl (x := .int i 0) rfl ?_)
  show wpAny _ _ (seqItems? (.ref l) >>= _) _ _ s
  refine wpAny_bind (wpAny_seqItems hol hdl ?_)
  simp only [Int.toNat_natCast, hx]
  have e0 : (s.heap.update I (Obj.mapFields (·.setIfInBounds 1 (rawInt (i + 1))))).get? I = some (itObj l (i + 1)) := (Heap.get?_update_self _ hI (by rfl)).trans (by simp [Obj.mapFields, rawInt])
  have hoth : ∀ b o, b ≠ I → s.heap.get? b = some o → (s.heap.update I (Obj.mapFields (·.setIfInBounds 1 (rawInt (i + 1))))).get? b = some o := fun b o hb e => (Heap.get?_update_other _ _ (Ne.symm hb)).trans e
  obtain ⟨F', N'⟩ := newsHead F N hne hoth e0
  exact wpAny_bind (wpAny_setField hI rfl (by simp) (wpAny_pure ⟨v, rfl, wpAny_pure (h _ F' N' hoth)⟩))
theorem nextL_end {I : Addr} {i : Nat} {items : Array Value} {Q : Option Value → Shared → Prop} (hh : A.handled = none) (F : Fr h₀ L s.heap m) (N : News h₀ L s.heap ((I, itObj l i) :: news)) (hne : ∀ p ∈ news, p.1 ≠ I)
    (hl : s.heap.IsList l items) (hx : items[i]? = none) (h : ∀ h', Fr h₀ L h' m → News h₀ L h' news → (∀ b o, b ≠ I → s.heap.get? b = some o → h'.get? b = some o) → Q none { s with heap := h' }) :
    wpAny (model prog w) A (pyNext (.ref I)) Q E s := by
  have ha := N _ (.head _)
  refine wpAny_pyNext_list_end hh ⟨_, ha.1, rfl, rfl⟩ hl hx fun h' hk => ?_
  obtain ⟨oL, es, ep, hL, r⟩ := F.ns
  exact h h' ⟨⟨oL, es, ep, hk _ _ (Ne.symm ha.2.1) hL, r⟩, fun b ob e => hk _ _ (fun q => by rw [q, ha.2.2] at e; cases e) (F.keep _ _ e), F.above⟩ (fun p hp => ⟨hk _ _ (hne p hp) (N _ (.tail _ hp)).1, (N _ (.tail _ hp)).2⟩) hk
theorem iterL {items : Array Value} {Q : Value → Shared → Prop} (F : Fr h₀ L s.heap m) (N : News h₀ L s.heap news) (hl : s.heap.IsList l items)
    (h : ∀ I h', Fr h₀ L h' m → News h₀ L h' ((I, itObj l 0) :: news) → (∀ p ∈ news, p.1 < I) → Kp s.heap h' → Q (.ref I) { s with heap := h' }) : wpAny (model prog w) A (pyIter (.ref l)) Q E s :=
  wpAny_pyIter_list hl (h _ _ (F.push _) (News.push F N _ rfl) (fun q hq => Heap.lt_size (N q hq).1) fun b o e => Heap.get?_push_of_some _ e)
/-- a loop by an own invariant of the whole state -/
theorem forJ {env : Env} {target iter : Expr} {pos : Pos} {body : List Stmt} {Q : Flow → Shared → Prop}
    (h : wpAny (model prog w) A (eval iter env) (fun xv s₁ => wpAny (model prog w) A (pyIter xv) (fun it s₂ => ∃ (I : Addr) (n : Nat) (J : Nat → Shared → Prop), it = .ref I ∧ J 0 s₂ ∧
      (∀ i s₃, i < n → J i s₃ → wpAny (model prog w) A (pyNext (.ref I)) (fun r s₄ => ∃ v, r = some v ∧ wpAny (model prog w) A (assign target env v) (fun _ s₅ => wpAny (model prog w) A (execs body env) (fun f s₆ => match f with
        | .next => J (i + 1) s₆ | .cont => J (i + 1) s₆ | .brk => Q .next s₆ | .ret v => Q (.ret v) s₆) E s₅) E s₄) E s₃) ∧
      (∀ s₃, J n s₃ → wpAny (model prog w) A (pyNext (.ref I)) (fun r s₄ => r = none ∧ Q .next s₄) E s₃)) E s₁) E s)
    (hs : ∀ x, foldedSetIterable iter env x = pure x) (ht : ∀ I v, letOwnedTupleGo target (.ref I) v = pure ()) (hE : PassesOwn (model prog w) A env E) :
    wpAny (model prog w) A (exec (.For target iter body [] pos) env) Q E s := by
  refine wpAny_For (wpAny_mono h (fun xv s₁ h₁ => wpAny_mono h₁ (fun it s₂ h₂ => ?_) fun _ _ z => z) fun _ _ z => z) hs
  obtain ⟨I, n, J, rfl, h0, step, done⟩ := h₂
  refine codeAny_forLoop (R := fun r s' => match r with | .ok f => Q f s' | .error e => cameBackBy (model prog w) A env E e s') (fun k s' => ∃ i, i ≤ n ∧ k = n + 1 - i ∧ J i s') ?_ (n + 1) ⟨0, Nat.zero_le _, rfl, h0⟩ (ht := fun v => ht I v)
  rintro k s' ⟨i, hi, rfl, hJ⟩
  by_cases hlt : i < n
  · refine wpAny_passesOwn hE (wpAny_mono (step i s' hlt hJ) (fun r s₄ hr => ?_) fun _ _ z => z)
    obtain ⟨v, rfl, hv⟩ := hr
    refine wpAny_passesOwn hE (wpAny_mono hv (fun _ s₅ h₅ => ?_) fun _ _ z => z)
    refine wpAny_passesOwn hE (wpAny_mono h₅ (fun f s₆ h₆ => ?_) fun _ _ z => z)
    cases f with
    | next => exact ⟨n + 1 - (i + 1), by omega, i + 1, hlt, rfl, h₆⟩
    | cont => exact ⟨n + 1 - (i + 1), by omega, i + 1, hlt, rfl, h₆⟩
    | brk => exact h₆
    | ret _ => exact h₆
  · have : i = n := by omega
    subst this
    refine wpAny_passesOwn hE (wpAny_mono (done s' hJ) (fun r s₄ hr => ?_) fun _ _ z => z)
    obtain ⟨rfl, hq⟩ := hr
    exact wpAny_execs_nil hq
theorem truthCons {v : Value} {Q : Bool → Shared → Prop} (hl : s.heap.IsList l (v :: vs).toArray) (hf : vs.length + 1 < 2 ^ 62) (h : ∀ k, Q true { s with toks := k }) : wpAny (model prog w) A (truthy (.ref l)) Q E s := truthL hl (by simpa using hf) h
theorem truthNil {Q : Bool → Shared → Prop} (hl : s.heap.IsList l (List.nil (α := Value)).toArray) (h : ∀ k, Q false { s with toks := k }) : wpAny (model prog w) A (truthy (.ref l)) Q E s := truthL (vs := []) hl (by decide) h
theorem truthS {x : List Nat} {t : Tok} {Q : Bool → Shared → Prop} (hz : x.length ≤ 1000000) (h : ∀ k, Q (!x.isEmpty) { s with toks := k }) : wpAny (model prog w) A (truthy (.str (S x) t)) Q E s := by
  refine P.truthy_str (by rw [S_len]; omega) ?_
  rw [S_len]
  have e : ((x.length : Int) != 0) = !x.isEmpty := by
    cases x with
    | nil => rfl
    | cons a r => simp only [List.length_cons, List.isEmpty_cons, Bool.not_false, bne_iff_ne]; omega
  rw [e]
  exact h _
theorem lenS {x : List Nat} {t : Tok} {Q : Value → Shared → Prop} (hz : x.length ≤ 1000000) (h : ∀ t' k, Q (.int x.length t') { s with toks := k }) : wpAny (model prog w) A (call (.builtin "len") [.str (S x) t]) Q E s := by
  refine P.len_str (by rw [S_len]; omega) ?_
  rw [S_len]
  exact h _ _
theorem ldC {env : Env} {x : Str} {pos : Pos} {v : Value} {c : Addr} {o : Obj} {Q : Value → Shared → Prop} (N : News h₀ L s.heap news) (hc : env.cells.lookup x = some c) (hm : (c, o) ∈ news) (hd : o.data = .cell (some v)) (h : Q v s)
    (hk : env.scope.kind = .function) (hx : env.kindOf x = some .cell) (hb : (x == ("__debug__" : Str)) = false) : wpAny (model prog w) A (eval (.Name x pos) env) Q E s :=
  wpAny_Name (wpAny_loadName_cell hk hx hc ⟨o, N.get hm, hd⟩ h) hb
theorem assignCompL {env : Env} {elt iter : Expr} {x y : Str} {px py : Pos} {scope : Scope} {cl : List (Str × Addr)} {pos spos : Pos} {Q : Flow → Shared → Prop} (g : List Nat → List Nat)
    (hh : A.handled = none) (hsw : swapsWith (.ListComp elt [⟨.Name x px, iter, [], 0⟩] scope pos) (some (.Name y py)) spos.line env = pure true) (hy : env.kindOf y = some .local) (hp : (env.scope.kind == .class || (env.scope.kind == .module && env.locals != env.globals)) = false) (hclos : closureFor scope env = pure cl) (hcell : ∀ y ∈ scope.names, y.2 ≠ .cell) (hkind : scope.kind = .function)
    (hnames : ∀ y ∈ scope.names, y.2 = .local → scope.names.lookup y.1 = some .local) (hx : scope.names.lookup x = some .local)
    (h : wpAny (model prog w) A (eval iter env) (fun xv s₁ => ∃ (l : Addr) (vs : List Value) (xs : List (List Nat)), xv = .ref l ∧ s₁.heap.IsList l vs.toArray ∧ StrsAre vs (xs.map S) ∧ xs.length ≤ 1000000 ∧ ∃ h₀ m news, Fr h₀ env.locals s₁.heap m ∧ News h₀ env.locals s₁.heap news ∧
      (∀ a C u s₃ m₃ E', a ∈ xs → Kp s₁.heap s₃.heap → Fr h₀ C s₃.heap m₃ → News h₀ C s₃.heap news → m₃ x = some (.str (S a) u) →
        wpAny (model prog w) A (eval elt (compEnvC scope cl C env)) (fun v s₄ => (∃ u, v = .str (S (g a)) u) ∧ Keeps s₃ s₄) E' s₃) ∧
      (∀ D h' tk ys n, Fr h₀ env.locals h' (fun z => if z = y then some (.ref D) else m z) → News h₀ env.locals h' ((D, PySem.W.listOf ys.toArray n) :: news) → (∀ p ∈ news, p.1 ≠ D) → StrsAre ys (xs.map fun a => S (g a)) → Q .next { s₁ with heap := h', toks := tk })) E s)
    (hs : ∀ x, foldedSetIterable iter env x = pure x) :
    wpAny (model prog w) A (exec (.Assign [.Name y py] (.ListComp elt [⟨.Name x px, iter, [], 0⟩] scope pos) spos) env) Q E s := by
  refine wpAny_Assign_ListComp_free (fun _ => true) (fun v r => ∃ a u u', v = Value.str (S a) u ∧ r = Value.str (S (g a)) u') hsw hclos hcell hkind hnames hx hy hp (wpAny_mono h (fun xv s₁ h₁ => ?_) fun _ _ e => e) hs
  obtain ⟨l, vs, xs, rfl, hl, hvs, hsz, h₀, m, news, F, N, helt, hQ⟩ := h₁
  refine wpAny_pyIter_list hl ?_
  have hlen0 : vs.length = xs.length := by rw [strsLen hvs, List.length_map]
  have hll : l < s₁.heap.objs.size := let ⟨o, ho, _⟩ := hl; Heap.lt_size ho
  have up : ∀ (s₃ : Shared), (∀ b o', b ∉ [s₁.heap.objs.size] → (s₁.heap.push { cls := .type "list_iterator", data := .fields #[.ref l, .int 0 0] }).get? b = some o' → s₃.heap.get? b = some o') → Kp s₁.heap s₃.heap :=
    fun s₃ hk b o' e => hk b o' (fun hm => by rw [List.mem_singleton.mp hm] at e; exact Nat.lt_irrefl _ (Heap.lt_size e)) (Heap.get?_push_of_some _ e)
  have hLl : env.locals < s₁.heap.objs.size := F.ns.lt
  refine ⟨_, _, _, _, _, _, m, rfl, Walks.list hh s₁.heap.objs.size l (Nat.ne_of_lt hll) vs.toArray, fitL (by omega), ⟨⟨_, Heap.get?_push_size _ rfl, rfl, rfl⟩, hl.push _⟩, ?_, fun q => Nat.ne_of_lt hLl (List.mem_singleton.mp q), F.ns.push _, ⟨?_, ?_⟩, ?_⟩
  · intro b hb
    show b < (s₁.heap.push { cls := .type "list_iterator", data := .fields #[.ref l, .int 0 0] }).objs.size
    rw [Heap.size_push]
    rcases List.mem_cons.mp hb with rfl | hb
    · exact Nat.lt_succ_self _
    · rw [List.mem_singleton.mp hb]; exact Nat.lt_succ_of_lt hll
  · intro C i v s₃ m₃ E' _ _ _ _ _ _
    show wpAny _ _ (forIn [] true _) _ _ _
    exact wpAny_pure ⟨rfl, _, _, rfl, fun _ _ e => e⟩
  · intro C i v s₃ m₃ E' hC hP _ hn hm hk _
    have hP' : vs[i]? = some v := by simpa using hP
    have hi : i < xs.length := by rw [← hlen0]; exact (List.getElem?_eq_some_iff.mp hP').1
    obtain ⟨t, ht⟩ := strsAre_at hvs (i := i) (y := S xs[i]) (by simp [hi])
    rw [ht] at hP'
    obtain rfl := Option.some.inj hP'
    have hC' : s₁.heap.objs.size ≤ C := Nat.le_trans (Nat.le_succ _) (by have : (s₁.heap.push { cls := .type "list_iterator", data := .fields #[.ref l, .int 0 0] }).objs.size ≤ C := hC; rwa [Heap.size_push] at this)
    have FC := frC F N (up s₃ hk) hC' hn
    exact wpAny_mono (helt xs[i] C t s₃ m₃ E' (List.getElem_mem hi) (up s₃ hk) FC.1 FC.2 hm) (fun r s₄ h₄ => ⟨let ⟨u', e⟩ := h₄.1; ⟨_, t, u', rfl, e⟩, h₄.2⟩) fun _ _ e => e
  · intro D h' tk ys vs' hnew _ hpl hlen hP hF hnL hk
    obtain ⟨ep, hpl⟩ := hpl
    have keep : ∀ b o, b ≠ env.locals → s₁.heap.get? b = some o → h'.get? b = some o := fun b o hb e =>
      hk b o hb (fun hm => by rw [List.mem_singleton.mp hm] at e; exact Nat.lt_irrefl _ (Heap.lt_size e)) (Heap.get?_push_of_some _ e)
    have hD : s₁.heap.get? D = none := by
      cases e : s₁.heap.get? D with
      | none => rfl
      | some o' => rw [Heap.get?_push_of_some _ e] at hnew; cases hnew
    have hbL : ∀ b o, h₀.get? b = some o → b ≠ env.locals := fun b o e => Nat.ne_of_lt (Nat.lt_of_lt_of_le (Heap.lt_size e) F.above)
    have e : vs' = vs := by
      have := list_of_places (items := vs.toArray) (by simpa using hlen) hP
      simpa using this
    rw [List.filter_eq_self.mpr (fun _ _ => rfl), e] at hF
    refine hQ D h' tk ys.toList ep ⟨hnL, fun b o e => keep b o (hbL b o e) (F.keep b o e), F.above⟩ (fun p hp => ?_) (fun p hp q => ?_) (paired_list hvs hF)
    · rcases List.mem_cons.mp hp with rfl | hp
      · refine ⟨by rw [hpl], fun q => ?_, ?_⟩
        · obtain ⟨oL, _, _, hL, _⟩ := F.ns
          have q' : D = env.locals := q
          rw [q', hL] at hD; cases hD
        · cases e : h₀.get? D with
          | none => rfl
          | some o' => rw [F.keep _ _ e] at hD; cases hD
      · exact ⟨keep _ _ (N p hp).2.1 (N p hp).1, (N p hp).2⟩
    · have := (N p hp).1
      rw [q, hD] at this; cases this
end
end Mine
end
section
local macro_rules | `(tactic| walk_at "M none") => `(tactic| skip)
local macro_rules | `(tactic| walk_at "M none") => `(tactic| skip)
local macro_rules | `(tactic| walk_at "M none") => `(tactic| skip)
local macro_rules | `(tactic| walk_at "M none") => `(tactic| skip)
local macro_rules | `(tactic| walk_at "M enterB") => `(tactic| (k_dflt (refine' Mine.enterB ?h1 ?h2 ?k1 ?k2 ?h3 ?k6 ?k7 ?k8 ?k9 ?kB ?_ ?c2 ?c3 ?c4 ?c5; (case k1 => k_asm); (case k2 => k_asm); (case k6 => k_is); (case k7 => k_is); (case k8 => ktr_room); (case k9 => exact BindsTo.of_eq rfl); (case c5 => decide); (case kB => exact locs rfl); (case c2 => exact rfl); (case c3 => exact rfl); (case c4 => exact rfl); k_whole)))
local macro_rules | `(tactic| walk_at "M enter") => `(tactic| (k_dflt (refine' Mine.enterK ?k1 ?k2 ?k6 ?k7 ?k8 ?k9 ?kB ?_ ?c2 ?c3 ?c4 ?c5; (case k1 => k_asm); (case k2 => k_asm); (case k6 => k_is); (case k7 => k_is); (case k8 => ktr_room); (case k9 => exact BindsTo.of_eq rfl); (case c5 => decide); (case kB => exact locs rfl); (case c2 => exact rfl); (case c3 => exact rfl); (case c4 => exact rfl); k_whole)))
local macro_rules | `(tactic| walk_at "M enterH") => `(tactic| ((case k1 => k_dflt k_asm); (case k2 => k_dflt k_asm); (case k6 => k_dflt k_is); (case k7 => k_dflt k_is); (case k8 => k_dflt ktr_room); (case k9 => k_dflt (first | exact BindsTo.of_eq rfl | exact binds_K (by assumption) rfl (by k_is) rfl rfl rfl)); (case c5 => decide); (case kB => k_dflt (exact locs rfl)); (case c2 => k_dflt (exact rfl)); (case c3 => k_dflt (exact rfl)); (case c4 => k_dflt (exact rfl))))
local macro_rules | `(tactic| walk_at "M list") => `(tactic| first | (refine' Mine.isL_news ?N ?m; (case N => assumption); (case m => k_mem)) | (refine' Mine.isL_base ?F ?l; (case F => assumption); (case l => assumption)) | assumption)
local macro_rules | `(tactic| walk_at "eval Name") => `(tactic| (k_here; k_dflt (refine' Mine.ldG ?F ?v ?_ ?a ?b ?c; (case F => k_asm); (case v => first | assumption | exact rfl); (case a => exact rfl); (case b => exact rfl); (case c => decide); k_whole)))
local macro_rules | `(tactic| walk_at "eval Name") => `(tactic| (k_here; k_dflt (refine' nameG_K ?F ?X ?T ?e ?_ ?g ?k ?x ?d; (case F => k_asm); (case X => k_asm); (case T => k_asm); (case e => k_is); (case g => exact rfl); (case k => exact rfl); (case x => exact rfl); (case d => decide); k_whole)))
local macro_rules | `(tactic| walk_at "eval Name") => `(tactic| (k_here; k_dflt (refine' Mine.nameG_B ?F ?X ?T ?e ?v ?n ?_ ?g ?gb ?k ?x ?d; (case F => k_asm); (case X => k_asm); (case T => k_asm); (case e => k_is); (case v => boot_by_name); (case n => decide); (case g => exact rfl); (case gb => exact rfl); (case k => exact rfl); (case x => exact rfl); (case d => decide); k_whole)))
local macro_rules | `(tactic| walk_at "eval ListComp") => `(tactic| refine Mine.stop ?_)
local macro_rules | `(tactic| walk_at "eval GeneratorExp") => `(tactic| refine Mine.stop ?_)
local macro_rules | `(tactic| walk_at "exec For") => `(tactic| refine Mine.stop ?_)
local macro_rules | `(tactic| walk_at "exec While") => `(tactic| refine Mine.stop ?_)
local macro_rules | `(tactic| walk_at "call ref") => `(tactic| ((fail_if_success (have : Mine.NoStop := by assumption)); refine Mine.stop ?_))
local macro_rules | `(tactic| walk_at "call builtin:str.join") => `(tactic| refine Mine.stop ?_)
local macro_rules | `(tactic| walk_at "binaryOp Add str str") => `(tactic| refine Mine.stop ?_)
local macro_rules | `(tactic| walk_at "truthy ref") => `(tactic| refine Mine.stop ?_)
local macro_rules | `(tactic| walk_at "subscriptTail") => `(tactic| ((with_reducible show wpAny _ _ (subscriptTail _ _ (Value.ref _) _) _ _ _); refine Mine.stop ?_))
local macro_rules | `(tactic| walk_at "call builtin:min") => `(tactic| ((with_reducible show wpAny _ _ (call _ [Value.ref _]) _ _ _); refine Mine.stop ?_))
local macro_rules | `(tactic| walk_at "call builtin:max") => `(tactic| ((with_reducible show wpAny _ _ (call _ [Value.ref _]) _ _ _); refine Mine.stop ?_))
local macro_rules | `(tactic| walk_at "call type:enumerate") => `(tactic| refine Mine.stop ?_)
local macro_rules | `(tactic| walk_at "exec For Name Name cons nil") => `(tactic| refine Mine.stop ?_)
local macro_rules | `(tactic| walk_at "exec For Name Call cons nil") => `(tactic| refine Mine.stop ?_)
local macro_rules | `(tactic| walk_at "exec For Tuple Name cons nil") => `(tactic| refine Mine.stop ?_)
local macro_rules | `(tactic| walk_at "exec For Tuple Call cons nil") => `(tactic| refine Mine.stop ?_)
local macro_rules | `(tactic| walk_at "exec For Name Subscript cons nil") => `(tactic| refine Mine.stop ?_)
local macro_rules | `(tactic| walk_at "exec While BoolOp cons nil") => `(tactic| refine Mine.stop ?_)
local macro_rules | `(tactic| walk_at "exec While Compare cons nil") => `(tactic| refine Mine.stop ?_)
local macro_rules | `(tactic| walk_at "exec While Constant cons nil") => `(tactic| refine Mine.stop ?_)
local macro_rules | `(tactic| walk_at "Exists") => `(tactic| refine Mine.stop ?_)
local macro_rules | `(tactic| walk_at "And") => `(tactic| refine Mine.stop ?_)
local macro_rules | `(tactic| walk_at "binaryOp Add str str") => `(tactic| (with_reducible (refine' Mine.addS ?_ ?sz); (case sz => k_dflt (first | assumption | ((try simp only [Mine.S_len, Mine.len_1, Mine.len_2, Mine.len_3, Mine.len_4, Mine.len_5, Mine.len_6, Mine.len_7, Mine.len_8, Mine.len_0, List.length_append, List.length_cons, List.length_nil, Str.length_append]); omega))); intro _ _))
local macro_rules | `(tactic| walk_at "truthy ref") => `(tactic| (with_reducible (refine' Mine.truthL ?hl ?hf ?_); (case hl => k_dflt (walk_at "M list")); (case hf => ((try simp only [List.length_append, List.length_cons, List.length_nil]); omega)); intro _))
local macro_rules | `(tactic| walk_at "call builtin:len") => `(tactic| ((with_reducible show wpAny _ _ (call _ [Value.ref _]) _ _ _); with_reducible (refine' Mine.lenL ?hl ?hf ?_); (case hl => k_dflt (walk_at "M list")); (case hf => ((try simp only [List.length_append, List.length_cons, List.length_nil]); omega)); intro _ _))
local macro_rules | `(tactic| walk_at "M steps") => `(tactic| repeat' (first | (k_unfold; (try dsimp only)) | walk1 | (dsimp only; walk1)))
local macro_rules | `(tactic| walk_at "M go") => `(tactic| refine Mine.go ?_)
local macro_rules | `(tactic| walk_at "callWith") => `(tactic| ((with_reducible show wpAny _ _ (callWith _ (Value.builtin _) (_ :: _) (backTo _ (starEach (_ :: _) _)) []) _ _ _); refine' Mine.cwM ?k1 ?k2 ?_; (case k1 => k_dflt (exact rfl)); (case k2 => k_dflt (exact rfl))))
local macro_rules | `(tactic| walk_at "callWith") => `(tactic| ((with_reducible show wpAny _ _ (callWith _ (Value.builtin _) [] (backTo _ (starEach (_ :: _) _)) []) _ _ _); refine' Mine.cwB ?k1 ?k2 ?_; (case k1 => k_dflt (exact rfl)); (case k2 => k_dflt (exact rfl))))
local macro_rules | `(tactic| walk_at "subscriptTail Name Name str int") => `(tactic| (with_reducible (refine' Mine.itemS ?h0 ?h1 ?hz ?_ ?hs ?ht); (case h0 => k_dflt omega); (case h1 => k_dflt omega); (case hz => k_dflt ((try simp only [List.length_append, List.length_take, List.length_drop, List.length_cons, List.length_nil]); omega)); (case hs => with_unfolding_all rfl); (case ht => (intro _; with_unfolding_all rfl)); intro _ _))
local macro_rules | `(tactic| walk_at "subscriptTail Name Constant str int") => `(tactic| (with_reducible (refine' Mine.itemS ?h0 ?h1 ?hz ?_ ?hs ?ht); (case h0 => k_dflt omega); (case h1 => k_dflt omega); (case hz => k_dflt ((try simp only [List.length_append, List.length_take, List.length_drop, List.length_cons, List.length_nil]); omega)); (case hs => with_unfolding_all rfl); (case ht => (intro _; with_unfolding_all rfl)); intro _ _))
local macro_rules | `(tactic| walk_at "subscriptTail Name Call str int") => `(tactic| (with_reducible (refine' Mine.itemS ?h0 ?h1 ?hz ?_ ?hs ?ht); (case h0 => k_dflt omega); (case h1 => k_dflt omega); (case hz => k_dflt ((try simp only [List.length_append, List.length_take, List.length_drop, List.length_cons, List.length_nil]); omega)); (case hs => with_unfolding_all rfl); (case ht => (intro _; with_unfolding_all rfl)); intro _ _))
local macro_rules | `(tactic| walk_at "subscriptTail Name Slice str ref") => `(tactic| (with_reducible (refine' Mine.cutS_rev ?F ?N  ?hz ?_ ?hs ?ht); (case F => k_dflt k_asm); (case N => k_dflt k_asm); (case hz => k_dflt ((try simp only [List.length_append, List.length_take, List.length_drop, List.length_cons, List.length_nil]); omega)); (case hs => with_unfolding_all rfl); (case ht => (intro _; with_unfolding_all rfl)); intro _ _ _ _ _ _))
local macro_rules | `(tactic| walk_at "subscriptTail Name Slice str ref") => `(tactic| (with_reducible (refine' Mine.cutS_mid ?F ?N ?h0 ?h1 ?hz ?_ ?hs ?ht); (case F => k_dflt k_asm); (case N => k_dflt k_asm); (case h0 => k_dflt omega); (case h1 => k_dflt omega); (case hz => k_dflt ((try simp only [List.length_append, List.length_take, List.length_drop, List.length_cons, List.length_nil]); omega)); (case hs => with_unfolding_all rfl); (case ht => (intro _; with_unfolding_all rfl)); intro _ _ _ _ _ _))
local macro_rules | `(tactic| walk_at "subscriptTail Name Slice str ref") => `(tactic| (with_reducible (refine' Mine.cutS_from ?F ?N ?h0 ?hz ?_ ?hs ?ht); (case F => k_dflt k_asm); (case N => k_dflt k_asm); (case h0 => k_dflt omega); (case hz => k_dflt ((try simp only [List.length_append, List.length_take, List.length_drop, List.length_cons, List.length_nil]); omega)); (case hs => with_unfolding_all rfl); (case ht => (intro _; with_unfolding_all rfl)); intro _ _ _ _ _ _))
local macro_rules | `(tactic| walk_at "subscriptTail Name Slice str ref") => `(tactic| (with_reducible (refine' Mine.cutS_neg ?F ?N ?h0 ?hz ?_ ?hs ?ht); (case F => k_dflt k_asm); (case N => k_dflt k_asm); (case h0 => k_dflt omega); (case hz => k_dflt ((try simp only [List.length_append, List.length_take, List.length_drop, List.length_cons, List.length_nil]); omega)); (case hs => with_unfolding_all rfl); (case ht => (intro _; with_unfolding_all rfl)); intro _ _ _ _ _ _))
local macro_rules | `(tactic| walk_at "subscriptTail Name Slice str ref") => `(tactic| (with_reducible (refine' Mine.cutS_to ?F ?N ?h0 ?hz ?_ ?hs ?ht); (case F => k_dflt k_asm); (case N => k_dflt k_asm); (case h0 => k_dflt omega); (case hz => k_dflt ((try simp only [List.length_append, List.length_take, List.length_drop, List.length_cons, List.length_nil]); omega)); (case hs => with_unfolding_all rfl); (case ht => (intro _; with_unfolding_all rfl)); intro _ _ _ _ _ _))
local macro_rules | `(tactic| walk_at "M keep") => `(tactic| (refine' Or.inr ⟨?km, Mine.nin ?kn⟩; (case km => k_mem); (case kn => k_all)))
local macro_rules | `(tactic| walk_at "getMethod ref") => `(tactic| (k_here; (with_reducible show wpAny _ _ (getMethod (Value.ref _) (PySem.Str.ofString "_keyfunc") _) _ _ _); k_dflt (refine' Mine.method_slot ?k1 ?k2 ?k3 ?k4 ?k5 ?k6 ?k7 ?k8 ?k9 ?k9b ?k10 ?k11 ?_; (case k1 => k_asm); (case k2 => k_asm); (case k3 => k_inst); (case k4 => k_is); (case k5 => k_is); (case k6 => k_is); (case k7 => k_is); (case k8 => k_is); (case k9 => k_is); (case k9b => k_is); (case k10 => k_slotget); (case k11 => k_handed); k_whole)))
local macro_rules | `(tactic| walk_at "callWith ref") => `(tactic| (k_here; (with_reducible show wpAny _ _ (callWith _ _ _ (backTo _ (starEach [] _)) []) _ _ _); k_dflt (with_reducible refine' callWith_K0 ?k1 ?k2 ?_; (case k1 => k_in); (case k2 => k_is); k_whole)))
local macro_rules | `(tactic| walk_at "M enterC") => `(tactic| ((case k1 => k_dflt k_asm); (case k2 => k_dflt k_asm); (case k6 => k_dflt k_is); (case k7 => k_dflt k_is); (case k8 => k_dflt ktr_room); (case k9 => k_dflt (first | exact BindsTo.of_eq rfl | exact binds_K (by assumption) rfl (by k_is) rfl rfl rfl)); (case kB => k_dflt (exact kindsX rfl)); (case kD => decide +kernel); (case c2 => k_dflt (exact rfl)); (case c3 => k_dflt (exact rfl)); (case c4 => k_dflt (exact rfl))))
local macro_rules | `(tactic| walk_at "subscriptTail Name Constant ref int") => `(tactic| ((refine' Mine.atL ?hl ?h0 ?h1 ?hx ?_ ?hs); (case hl => k_dflt (walk_at "M list")); (case h0 => decide); (case h1 => decide); (case hx => rfl); (case hs => with_unfolding_all rfl)))
local macro_rules | `(tactic| walk_at "subscriptTail Name Slice ref ref") => `(tactic| ((refine' Mine.cutL ?F ?N ?hl ?h0 ?hz ?_ ?hs ?ht); (case F => k_dflt k_asm); (case N => k_dflt k_asm); (case hl => k_dflt (walk_at "M list")); (case h0 => decide); (case hz => k_dflt ((try simp only [List.length_append, List.length_cons, List.length_nil] at *); omega)); (case hs => with_unfolding_all rfl); (case ht => (intro _; with_unfolding_all rfl)); intro _ _ _ _ l1; (try k_lt l1)))
local macro_rules | `(tactic| walk_at "truthy ref") => `(tactic| (with_reducible (refine' Mine.truthCons ?hl ?hf ?_); (case hl => k_dflt (walk_at "M list")); (case hf => (k_dflt ((try simp only [List.length_nil, List.length_cons]); omega))); intro _))
local macro_rules | `(tactic| walk_at "truthy ref") => `(tactic| (with_reducible (refine' Mine.truthNil ?hl ?_); (case hl => k_dflt (walk_at "M list")); intro _))
local macro_rules | `(tactic| walk_at "truthy str") => `(tactic| (with_reducible (refine' Mine.truthS ?hz ?_); (case hz => k_dflt ((try simp only [List.length_append, List.length_take, List.length_drop, List.length_cons, List.length_nil]); omega)); intro _))
local macro_rules | `(tactic| walk_at "call builtin:len") => `(tactic| ((with_reducible show wpAny _ _ (call _ [Value.str _ _]) _ _ _); with_reducible (refine' Mine.lenS ?hz ?_); (case hz => k_dflt ((try simp only [List.length_append, List.length_take, List.length_drop, List.length_cons, List.length_nil]); omega)); intro _ _))
local macro_rules | `(tactic| walk_at "exec If") => `(tactic| ((with_reducible show wpAny _ _ (exec (Stmt.If (Expr.Compare (Expr.Call _ [Expr.Name (PySem.Str.ofString "first") _] _ _) _ _ _) _ _ _) _) _ _ _); (fail_if_success (have : Mine.NoStop := by assumption)); refine Mine.stop ?_))
local macro_rules | `(tactic| walk_at "exec Assign cons ListComp") => `(tactic| refine Mine.stop ?_)
local macro_rules | `(tactic| walk_at "eval Name") => `(tactic| (k_here; k_dflt (refine' Mine.ldC ?N ?c ?m ?d ?_ ?a ?b ?e; (case N => k_asm); (case c => exact rfl); (case m => k_mem); (case d => assumption); (case a => exact rfl); (case b => exact rfl); (case e => decide); k_whole)))
local macro_rules | `(tactic| walk_at "call builtin:sorted") => `(tactic| refine Mine.stop ?_)
local macro_rules | `(tactic| walk_at "eval Name") => `(tactic| (k_here; (with_reducible show wpAny _ _ (eval _ (genEnv _ _ _ _ _ _)) _ _ _); k_dflt (refine' Mine.ldF ?N ?c ?m ?d ?_ ?a ?b ?e ?f; (case N => k_asm); (case c => exact rfl); (case m => k_mem); (case d => assumption); (case a => exact rfl); (case b => exact rfl); (case e => decide); (case f => decide); k_whole)))
local macro_rules | `(tactic| walk_at "eval UnaryOp") => `(tactic| ((with_reducible show wpAny _ _ (eval _ (genEnv _ _ _ _ _ _)) _ _ _); with_reducible refine UnaryOp_ ?_))
local macro_rules | `(tactic| walk_at "eval Lambda") => `(tactic| refine Mine.stop ?_)
theorem Mine.off21 : True := by w_top off; trivial
-- P15c_sort
namespace Mine
section
variable {prog : Program} {w : World} {A : Around} {E : Value → Shared → Prop} {s : Shared}
/-- sorted, by what its collecting gives -/
theorem sortedColl {v : Value} {Q : Value → Shared → Prop}
    (h : wpAny (model prog w) A.in1 (collect v) (fun xs s₁ => ∃ ss, StrsAre xs ss ∧ xs.length < 64 ∧
      ∀ h' (out : List Value) ss' e, Kp s₁.heap h' → h'.get? s₁.heap.objs.size = some (seqObj "list" out.toArray e) → StrsAre out ss' → ss'.Perm ss → sortedS ss' = true → Q (.ref s₁.heap.objs.size) { s₁ with heap := h' }) E s) :
    wpAny (model prog w) A (call (.builtin "sorted") [v]) Q E s := by
  refine Calls.call_function_entry kind_sorted plain_sorted entry_sorted (args_sorted1 _) ?_
  unfold Builtin.«sorted»
  refine wpAny_bind (m := checkCount "sorted" 1 1 _) (wpAny_pure ?_)
  refine wpAny_bind (wpAny_mono h (fun xs s₁ hx => ?_) fun _ _ z => z)
  obtain ⟨ss, hS, h64, hQ⟩ := hx
  refine wpAny_bind (wpAny_newList ?_)
  have hoL : (s₁.heap.push (seqObj "list" xs.toArray 0)).get? s₁.heap.objs.size = some (seqObj "list" xs.toArray 0) := Heap.get?_push_size _ rfl
  show wpAny _ _ _ _ _ { s₁ with heap := s₁.heap.push (seqObj "list" xs.toArray 0) }
  refine wpAny_bind (wpAny_holding (wpAny_call_entry slot_list_sort ⟨_, hoL, rfl⟩ entry_list_sort (list_sort_treeK strKind_oneLt hoL hS.keysOf (fun v₁ v₂ rest e => keyKind_strs (by rw [← e]; exact hS)) h64 fun st' hp hs => ⟨_, rfl, ?_⟩) (args_list_sort _)))
  obtain ⟨ss', h1, h2, h3⟩ := sorted_out_str hS hp hs
  refine wpAny_pure ⟨_, rfl, ?_⟩
  have hne : ∀ b o, s₁.heap.get? b = some o → s₁.heap.objs.size ≠ b := fun b o e q => Nat.lt_irrefl _ (q ▸ Heap.lt_size e)
  obtain ⟨e1, ho1⟩ : ∃ e1, ((s₁.heap.push (seqObj "list" xs.toArray 0)).update s₁.heap.objs.size (Obj.mapSeq fun _ => #[])).get? s₁.heap.objs.size = some (seqObj "list" #[] e1) := ⟨_, get?_update_seq hoL (fun _ => #[])⟩
  have ho3 := Heap.get?_push_of_some (seqObj "list" #[] 0) (Heap.get?_push_of_some (seqObj "tuple" xs.toArray 0) ho1)
  have ho4 := get?_update_seq ho3 (fun _ => (arrOf st').map (·.2))
  refine hQ (sortedHeap (s₁.heap.push (seqObj "list" xs.toArray 0)) s₁.heap.objs.size xs ((arrOf st').map (·.2))) ((arrOf st').map (·.2)).toList ss' _ (fun b o e => ?_) (by rw [Array.toArray_toList]; exact ho4) h1 h2 h3
  show (Heap.update _ _ _).get? b = some o
  rw [Heap.get?_update_other _ _ (hne b o e)]
  exact Heap.get?_push_of_some _ (Heap.get?_push_of_some _ ((Heap.get?_update_other _ _ (hne b o e)).trans (Heap.get?_push_of_some _ e)))
end
end Mine
theorem Mine.off22 : True := by w_top off; trivial
-- P15d_gen
namespace Mine
theorem among_other {pos q : Pos} {c : Value} (hne : ¬ (q.line = pos.line ∧ q.col = pos.col)) (l : List Value) (h : TriplesOk l) :
    codeAmong pos (l ++ [rawInt q.line, rawInt q.col, c]) = codeAmong pos l := by
  fun_induction TriplesOk l with
  | case1 =>
    simp only [List.nil_append, codeAmong, rawInt]
    rw [if_neg]
    intro hb
    simp only [Bool.and_eq_true, beq_iff_eq] at hb
    exact hne ⟨by omega, by omega⟩
  | case2 a t b u x rest ih =>
    simp only [List.cons_append, codeAmong]
    rw [ih h]
  | case3 l h1 h2 => exact h.elim
/-- a table, or the table with one more place -/
def Ext (pos : Pos) (ps ps' : Array Value) : Prop := ps' = ps ∨ (codeAmong pos ps.toList = none ∧ ∃ c' : Addr, ps' = ps ++ #[rawInt pos.line, rawInt pos.col, .ref c'])
section
variable {M : Model} {A : Around} {E : Value → Shared → Prop} {s : Shared}
theorem genCode {env : Env} {c P : Addr} {ps : Array Value} {pos : Pos} {qualname : Str} {scope : Scope} {Q : Value → Shared → Prop} (hc : env.code = .ref c) (C : CodeHd s.heap c P) (hP : s.heap.get? P = some (tabObj ps)) (ht : TriplesOk ps.toList)
    (hQ : ∀ code h' tk ps', (∀ b o, b ≠ P → s.heap.get? b = some o → h'.get? b = some o) → h'.get? P = some (tabObj ps') → Ext pos ps ps' → Q code { s with heap := h', toks := tk }) :
    wpAny M A (genexprCode env pos qualname scope) Q E s := by
  cases hf : codeAmong pos ps.toList with
  | some c' => exact wpAny_genexprCode_hit hc (C.code hP ht) hf (hQ _ s.heap s.toks ps (fun _ _ _ e => e) hP (.inl rfl))
  | none => exact wpAny_genexprCodeX hc (C.code hP ht) (C.tab hP) hf fun c' h' tk hx _ _ _ _ htb _ => hQ _ h' tk _ (fun b o hb e => hx b o hb e) htb.2 (.inr ⟨hf, c', rfl⟩)
end
end Mine
theorem Mine.off23 : True := by w_top off; trivial
-- P15e_genl
namespace Mine
structure GensOk (g g' : Array GenState) : Prop where
  size : g.size ≤ g'.size
  same : ∀ i, i < g.size → g'[i]? = g[i]?
  bare : AllBare g → AllBare g'
theorem GensOk.refl {g : Array GenState} : GensOk g g := ⟨Nat.le_refl _, fun _ _ => rfl, id⟩
theorem GensOk.trans {g g' g'' : Array GenState} (x : GensOk g g') (y : GensOk g' g'') : GensOk g g'' :=
  ⟨Nat.le_trans x.size y.size, fun i h => (y.same i (Nat.lt_of_lt_of_le h x.size)).trans (x.same i h), fun b => y.bare (x.bare b)⟩
theorem GensOk.only {g g' : Array GenState} {x : GenState} (hb : x.bare = true) (h : GenOnlyQ g.size (g.push x) g') : GensOk g g' := by
  refine ⟨?_, fun i hi => ?_, fun b => AllBare.moved (b.push hb) h⟩
  · rcases h with rfl | ⟨h, _⟩
    · simp
    · rw [h.1]; simp
  · rcases h with rfl | ⟨h, _⟩
    · rw [Array.getElem?_push, if_neg (by omega)]
    · rw [h.2 i (by omega), Array.getElem?_push, if_neg (by omega)]
theorem strsAre_all {g : List Nat → List Nat} : ∀ (acc : List Value) (xs : List (List Nat)), acc.length = xs.length → (∀ (j : Nat) (v : Value), acc[j]? = some v → ∃ (a : List Nat) (u : Tok), xs[j]? = some a ∧ v = Value.str (S (g a)) u) → StrsAre acc ((xs.map g).map S)
  | [], [], _, _ => .nil
  | v :: acc, a :: xs, hl, h => by
    obtain ⟨a', u, e, rfl⟩ := h 0 v rfl
    obtain rfl : a = a' := by simpa using e
    exact .cons _ _ (strsAre_all acc xs (by simpa using hl) fun j v hj => by simpa using h (j + 1) v (by simpa using hj))
section
variable {prog : Program} {w : World} {A : Around} {E : Value → Shared → Prop} {s : Shared}
theorem ldF {env : Env} {x : Str} {pos : Pos} {v : Value} {c : Addr} {o : Obj} {Q : Value → Shared → Prop} {h₀ : Heap} {L : Addr} {news : List (Addr × Obj)} (N : News h₀ L s.heap news) (hc : env.cells.lookup x = some c) (hm : (c, o) ∈ news) (hd : o.data = .cell (some v)) (h : Q v s)
    (hk : env.scope.kind = .function) (hx : env.kindOf x = some .free) (hb : (x == ("__debug__" : Str)) = false) (hn : (x == ("__classdict__" : Str)) = false) : wpAny (model prog w) A (eval (.Name x pos) env) Q E s :=
  wpAny_Name (wpAny_loadName_free hk hx hc ⟨o, N.get hm, hd⟩ h hn) hb
/-- sorted over a generator expression over a list of texts -/
theorem genL {env : Env} {elt iter : Expr} {x : Str} {px : Pos} {scope : Scope} {cl : List (Str × Addr)} {pos : Pos} {Q : Value → Shared → Prop} {c P : Addr} (g : List Nat → List Nat)
    (hh : A.handled = none) (hco : scope.isCoroutine = false) (hclos : closureFor scope env = pure cl) (hcell : ∀ y ∈ scope.names, y.2 ≠ .cell) (h0 : scope.names.lookup (".0" : Str) = some NameKind.local)
    (hx : scope.names.lookup x = some .local) (hkind : scope.kind = .function) (hroom : A.depth < recursionLimit) (hge : env.globals = mainGlobals) (hc : env.code = .ref c)
    (h : wpAny (model prog w) A (eval iter env) (fun xv s₁ => ∃ (l : Addr) (vs : List Value) (xs : List (List Nat)), xv = .ref l ∧ s₁.heap.IsList l vs.toArray ∧ StrsAre vs (xs.map S) ∧ xs.length < 64 ∧
      ∃ h₀ L m news ps rest p loose mean mg mb, Fr h₀ L s₁.heap m ∧ News h₀ L s₁.heap news ∧ Top p loose mean mg mb h₀ ∧ CodeHd h₀ c P ∧ (P, tabObj ps) ∈ news ∧ TriplesOk ps.toList ∧ (∀ q ∈ rest, q ∈ news ∧ q.1 ≠ P) ∧
      (∀ A' a C code bi u s₃ m₃ E', A'.handled = none → a ∈ xs → Fr h₀ C s₃.heap m₃ → News h₀ C s₃.heap rest → m₃ x = some (.str (S a) u) →
        wpAny (model prog w) A' (eval elt (genEnv scope cl C code bi env)) (fun v s₄ => (∃ u, v = .str (S (g a)) u) ∧ Keeps s₃ s₄) E' s₃) ∧
      (∀ a s₅, (∀ Q' : Value → Shared → Prop, (∀ out ss' D e h' tk g' ps', Fr h₀ L h' m → News h₀ L h' ((D, seqObj "list" out.toArray e) :: (P, tabObj ps') :: rest) → (∀ q ∈ news, q.1 ≠ D) → StrsAre out ss' → ss'.Perm ((xs.map g).map S) → sortedS ss' = true →
            Ext pos ps ps' → GensOk s₁.gens g' → Q' (.ref D) { s₁ with heap := h', toks := tk, gens := g' }) → wpAny (model prog w) A (call (.builtin "sorted") [.ref a]) Q' E s₅) → Q (.ref a) s₅)) E s)
    (hs : ∀ x, genFold iter env x = pure x) :
    wpAny (model prog w) A (eval (.GeneratorExp elt [⟨.Name x px, iter, [], 0⟩] scope pos) env) Q E s := by
  refine wpAny_GeneratorExp_walksQ hh hco hclos hcell h0 hx hkind hroom (wpAny_mono h (fun xv s₁ h₁ => ?_) fun _ _ e => e) hs
  obtain ⟨l, vs, xs, rfl, hl, hvs, h64, h₀, L, m, news, ps, rest, p, loose, mean, mg, mb, F, N, T, C, hP, ht, hr, helt, hQ⟩ := h₁
  refine wpAny_pyIter_list hl ?_
  have hlen0 : vs.length = xs.length := by rw [strsLen hvs, List.length_map]
  have hll : l < s₁.heap.objs.size := let ⟨o, ho, _⟩ := hl; Heap.lt_size ho
  have hm := N _ hP
  have hlP : l ≠ P := fun e => by
    obtain ⟨o, ho, hcl, _⟩ := hl
    rw [e, hm.1] at ho; cases ho; exact absurd hcl (by simp)
  generalize hIe : s₁.heap.objs.size = I at *
  have hIP : I ≠ P := fun e => Nat.lt_irrefl _ (by rw [← e, ← hIe] at hm; exact Heap.lt_size hm.1)
  have up0 : ∀ b o, s₁.heap.get? b = some o → (s₁.heap.push { cls := .type "list_iterator", data := .fields #[.ref l, .int 0 0] }).get? b = some o := fun b o e => Heap.get?_push_of_some _ e
  have hI0 : (s₁.heap.push { cls := .type "list_iterator", data := .fields #[.ref l, .int 0 0] }).get? I = some { cls := .type "list_iterator", data := .fields #[.ref l, .int 0 0] } := by rw [← hIe]; exact Heap.get?_push_size _ rfl
  generalize s₁.heap.push { cls := .type "list_iterator", data := .fields #[.ref l, .int 0 0] } = h₂ at *
  refine ⟨T.nolimit.keeps fun b o e => up0 _ _ (F.keep b o e), genCode (ps := ps) hc (C.keeps fun b o e => up0 _ _ (F.keep b o e)) (up0 _ _ hm.1) ht fun code h₃ tk₃ ps' hk₃ hP₃ hext => ?_⟩
  have keep0 : ∀ b o, h₀.get? b = some o → h₃.get? b = some o := fun b o e => hk₃ b o (fun q => by rw [q, hm.2.2] at e; cases e) (up0 _ _ (F.keep b o e))
  obtain ⟨bm, ob, b1, b2, b3, b4, b5, b6⟩ := T.bmain
  rw [hge]
  refine wpAny_builtinsFor (T.g.keeps keep0) b1 b2 (keep0 _ _ b3) b4 b5 b6 ?_
  have hl₃ := T.nolimit.keeps keep0
  have hI₃ := hk₃ _ _ hIP hI0
  have hIs : I < h₃.objs.size := Heap.lt_size hI₃
  have hl3 : h₃.IsList l vs.toArray := hl.at fun o e => hk₃ _ o hlP (up0 _ _ e)
  have hL₃ : h₃.Ns L m := F.ns.at' fun o e => hk₃ _ o hm.2.1.symm (up0 _ _ e)
  have hI0n : ∀ b o, s₁.heap.get? b = some o → b ≠ I := fun b o e q => Nat.lt_irrefl _ (by rw [q] at e; rw [← hIe] at e; exact Heap.lt_size e)
  have hLI : L ≠ I := let ⟨oL, _, _, hoL, _⟩ := F.ns; hI0n _ _ hoL
  refine ⟨I, [I, l], [I], vs.length, fun i v => vs.toArray[i]? = some v, fun i h => h.IsListIter I l i ∧ h.IsList l vs.toArray, fun _ => true, fun i v => ∃ a u, xs[i]? = some a ∧ v = .str (S (g a)) u, rfl,
    fun A' hA => by simpa using Walks.list hA I l (Nat.ne_of_lt hll) vs.toArray, ⟨⟨_, hI₃, rfl, rfl⟩, hl3⟩, ?_, hl₃, ?_, ?_, ?_⟩
  · intro b hb
    rcases List.mem_cons.mp hb with rfl | hb
    · exact hIs
    · rw [List.mem_singleton.mp hb]; exact Nat.lt_trans hll hIs
  · intro q
    have q := List.mem_singleton.mp q
    obtain ⟨mc, hns, _⟩ := T.nolimit
    obtain ⟨o, es, ep, ho, hd, _⟩ := hns
    have := keep0 _ _ ho
    rw [q, hI₃] at this; cases this; cases hd
  · intro href hk
    refine ⟨fun A' E' i v s₂' m₂ _ _ _ _ _ => ?_, fun A' E' i v s₂' m₂ hA' hPv _ hn hmx hkp => ?_⟩
    · show wpAny _ _ (forIn [] true _) _ _ _
      exact wpAny_pure ⟨rfl, _, _, rfl, fun _ _ e => e⟩
    · have hP' : vs[i]? = some v := by simpa using hPv
      have hi : i < xs.length := by rw [← hlen0]; exact (List.getElem?_eq_some_iff.mp hP').1
      obtain ⟨t, ht'⟩ := strsAre_at hvs (i := i) (y := S xs[i]) (by simp [hi])
      rw [ht'] at hP'
      obtain rfl := Option.some.inj hP'
      have up : ∀ b o, b ≠ I → h₃.get? b = some o → s₂'.heap.get? b = some o := fun b o hb e => hkp b (List.mem_range.mpr (Heap.lt_size e)) (fun q => hb (List.mem_singleton.mp q)) o (hk _ _ e)
      refine wpAny_mono (helt A' xs[i] h₃.objs.size code builtinsNs t s₂' m₂ E' hA' (List.getElem_mem hi) ⟨hn, fun b o e => up _ _ (hI0n _ _ (F.keep _ _ e)) (keep0 b o e), ?_⟩ (fun q hq => ?_) hmx) (fun v s₄ hv => ⟨let ⟨u, e⟩ := hv.1; ⟨xs[i], u, by simp [hi], e⟩, hv.2⟩) fun _ _ e => e
      · exact Nat.le_trans F.above (Nat.le_of_lt hL₃.lt)
      · have n := N q (hr q hq).1
        have e3 := hk₃ _ _ (hr q hq).2 (up0 _ _ n.1)
        exact ⟨up _ _ (hI0n _ _ n.1) e3, Nat.ne_of_lt (Heap.lt_size e3), n.2.2⟩
  · intro a h₅ tk gs hgb hag hsz₅ hk₅ W hat
    refine hQ a _ fun Q' hQ' => ?_
    refine sortedColl (wpAny_collect_gen W.in4_2 (fun i s' st => st.1.typeIs) hat (fun b hb => ?_) List.mem_cons_self (fun s' acc hmv hacc => ?_) ?_)
    · show b < h₅.objs.size
      rw [hsz₅]
      rcases List.mem_cons.mp hb with rfl | hb
      · exact Nat.lt_succ_self _
      · rcases List.mem_cons.mp hb with rfl | hb
        · exact Nat.lt_succ_of_lt hag
        · exact Nat.lt_succ_of_lt (Nat.lt_trans (List.mem_range.mp hb) hag)
    · have hpass : passing (fun _ => true) vs.length 0 = List.range vs.length := by simp [passing]
      rw [hpass] at hacc
      have hal : acc.size = xs.length := by rw [hacc.1, List.length_range, hlen0]
      have hS := strsAre_all (g := g) acc.toList xs (by simpa using hal) fun j v hj => by
        obtain ⟨i, hi, a, u, e1, e2⟩ := hacc.2 j v (by simpa using hj)
        obtain ⟨_, rfl⟩ := List.getElem?_eq_some_iff.mp hi
        exact ⟨a, u, by simpa using e1, e2⟩
      refine ⟨_, hS, by simp; omega, fun h' out ss' e hkp hD ho hp hso => ?_⟩
      obtain ⟨hp', gn, dr, tk', os⟩ := s'
      obtain rfl : os = s₁.os := hmv.os
      obtain rfl : dr = s₁.drawn := hmv.drawn
      have mv : ∀ b o, b ≠ h₃.objs.size → b ≠ I → h₃.get? b = some o → h'.get? b = some o := fun b o h1 h2 e =>
        hkp _ _ (hmv.heap b o (fun q => by rcases List.mem_cons.mp q with q | q; exact h1 q; exact h2 (List.mem_singleton.mp q)) (hk₅ _ _ e))
      have mv' : ∀ b o, b ≠ I → h₃.get? b = some o → h'.get? b = some o := fun b o h2 e => mv b o (Nat.ne_of_lt (Heap.lt_size e)) h2 e
      have hDs : ∀ b o, b ≠ I → h₃.get? b = some o → b ≠ hp'.objs.size := fun b o h2 e q => by
        have := hmv.heap b o (fun z => by rcases List.mem_cons.mp z with z | z; exact (Nat.ne_of_lt (Heap.lt_size e)) z; exact h2 (List.mem_singleton.mp z)) (hk₅ _ _ e)
        have h2 := Heap.lt_size this
        rw [q] at h2; exact Nat.lt_irrefl _ h2
      refine hQ' out ss' hp'.objs.size e h' tk' gn ps' ⟨hL₃.at' fun o eo => mv' _ _ hLI eo, fun b o e => mv' _ _ (hI0n _ _ (F.keep _ _ e)) (keep0 b o e), F.above⟩ (fun q hq => ?_) (fun q hq => ?_) ho hp hso hext (GensOk.only hgb hmv.gens)
      · rcases List.mem_cons.mp hq with rfl | hq
        · refine ⟨hD, fun q => ?_, ?_⟩
          · obtain ⟨oL, _, _, hoL, _⟩ := id hL₃
            exact hDs _ _ hLI hoL q.symm
          · cases eb : h₀.get? hp'.objs.size with
            | none => rfl
            | some o => exact absurd rfl (hDs _ _ (hI0n _ _ (F.keep _ _ eb)) (keep0 _ _ eb))
        · rcases List.mem_cons.mp hq with rfl | hq
          · exact ⟨mv' _ _ hIP.symm hP₃, hm.2⟩
          · have n := N q (hr q hq).1
            exact ⟨mv' _ _ (hI0n _ _ n.1) (hk₃ _ _ (hr q hq).2 (up0 _ _ n.1)), n.2⟩
      · have n := N q hq
        by_cases hqP : q.1 = P
        · rw [hqP]; exact hDs _ _ hIP.symm hP₃
        · exact hDs _ _ (hI0n _ _ n.1) (hk₃ _ _ hqP (up0 _ _ n.1))
    · have hpass : passing (fun _ => true) vs.length 0 = List.range vs.length := by simp [passing]
      rw [hpass, List.length_range]
      exact Nat.le_trans (show vs.length ≤ 64 by omega) (by decide)
end
end Mine
end
section
local macro_rules | `(tactic| walk_at "M enterB") => `(tactic| (k_dflt (refine' Mine.enterB ?h1 ?h2 ?k1 ?k2 ?h3 ?k6 ?k7 ?k8 ?k9 ?kB ?_ ?c2 ?c3 ?c4 ?c5; (case k1 => k_asm); (case k2 => k_asm); (case k6 => k_is); (case k7 => k_is); (case k8 => ktr_room); (case k9 => exact BindsTo.of_eq rfl); (case c5 => decide); (case kB => exact locs rfl); (case c2 => exact rfl); (case c3 => exact rfl); (case c4 => exact rfl); k_whole)))
local macro_rules | `(tactic| walk_at "M enter") => `(tactic| (k_dflt (refine' Mine.enterK ?k1 ?k2 ?k6 ?k7 ?k8 ?k9 ?kB ?_ ?c2 ?c3 ?c4 ?c5; (case k1 => k_asm); (case k2 => k_asm); (case k6 => k_is); (case k7 => k_is); (case k8 => ktr_room); (case k9 => exact BindsTo.of_eq rfl); (case c5 => decide); (case kB => exact locs rfl); (case c2 => exact rfl); (case c3 => exact rfl); (case c4 => exact rfl); k_whole)))
local macro_rules | `(tactic| walk_at "M enterH") => `(tactic| ((case k1 => k_dflt k_asm); (case k2 => k_dflt k_asm); (case k6 => k_dflt k_is); (case k7 => k_dflt k_is); (case k8 => k_dflt ktr_room); (case k9 => k_dflt (first | exact BindsTo.of_eq rfl | exact binds_K (by assumption) rfl (by k_is) rfl rfl rfl)); (case c5 => decide); (case kB => k_dflt (exact locs rfl)); (case c2 => k_dflt (exact rfl)); (case c3 => k_dflt (exact rfl)); (case c4 => k_dflt (exact rfl))))
local macro_rules | `(tactic| walk_at "M list") => `(tactic| first | (refine' Mine.isL_news ?N ?m; (case N => assumption); (case m => k_mem)) | (refine' Mine.isL_base ?F ?l; (case F => assumption); (case l => assumption)) | assumption)
local macro_rules | `(tactic| walk_at "eval Name") => `(tactic| (k_here; k_dflt (refine' Mine.ldG ?F ?v ?_ ?a ?b ?c; (case F => k_asm); (case v => first | assumption | exact rfl); (case a => exact rfl); (case b => exact rfl); (case c => decide); k_whole)))
local macro_rules | `(tactic| walk_at "eval Name") => `(tactic| (k_here; k_dflt (refine' nameG_K ?F ?X ?T ?e ?_ ?g ?k ?x ?d; (case F => k_asm); (case X => k_asm); (case T => k_asm); (case e => k_is); (case g => exact rfl); (case k => exact rfl); (case x => exact rfl); (case d => decide); k_whole)))
local macro_rules | `(tactic| walk_at "eval Name") => `(tactic| (k_here; k_dflt (refine' Mine.nameG_B ?F ?X ?T ?e ?v ?n ?_ ?g ?gb ?k ?x ?d; (case F => k_asm); (case X => k_asm); (case T => k_asm); (case e => k_is); (case v => boot_by_name); (case n => decide); (case g => exact rfl); (case gb => exact rfl); (case k => exact rfl); (case x => exact rfl); (case d => decide); k_whole)))
local macro_rules | `(tactic| walk_at "eval ListComp") => `(tactic| refine Mine.stop ?_)
local macro_rules | `(tactic| walk_at "eval GeneratorExp") => `(tactic| refine Mine.stop ?_)
local macro_rules | `(tactic| walk_at "exec For") => `(tactic| refine Mine.stop ?_)
local macro_rules | `(tactic| walk_at "exec While") => `(tactic| refine Mine.stop ?_)
local macro_rules | `(tactic| walk_at "call ref") => `(tactic| ((fail_if_success (have : Mine.NoStop := by assumption)); refine Mine.stop ?_))
local macro_rules | `(tactic| walk_at "call builtin:str.join") => `(tactic| refine Mine.stop ?_)
local macro_rules | `(tactic| walk_at "binaryOp Add str str") => `(tactic| refine Mine.stop ?_)
local macro_rules | `(tactic| walk_at "truthy ref") => `(tactic| refine Mine.stop ?_)
local macro_rules | `(tactic| walk_at "subscriptTail") => `(tactic| ((with_reducible show wpAny _ _ (subscriptTail _ _ (Value.ref _) _) _ _ _); refine Mine.stop ?_))
local macro_rules | `(tactic| walk_at "call builtin:min") => `(tactic| ((with_reducible show wpAny _ _ (call _ [Value.ref _]) _ _ _); refine Mine.stop ?_))
local macro_rules | `(tactic| walk_at "call builtin:max") => `(tactic| ((with_reducible show wpAny _ _ (call _ [Value.ref _]) _ _ _); refine Mine.stop ?_))
local macro_rules | `(tactic| walk_at "call type:enumerate") => `(tactic| refine Mine.stop ?_)
local macro_rules | `(tactic| walk_at "exec For Name Name cons nil") => `(tactic| refine Mine.stop ?_)
local macro_rules | `(tactic| walk_at "exec For Name Call cons nil") => `(tactic| refine Mine.stop ?_)
local macro_rules | `(tactic| walk_at "exec For Tuple Name cons nil") => `(tactic| refine Mine.stop ?_)
local macro_rules | `(tactic| walk_at "exec For Tuple Call cons nil") => `(tactic| refine Mine.stop ?_)
local macro_rules | `(tactic| walk_at "exec For Name Subscript cons nil") => `(tactic| refine Mine.stop ?_)
local macro_rules | `(tactic| walk_at "exec While BoolOp cons nil") => `(tactic| refine Mine.stop ?_)
local macro_rules | `(tactic| walk_at "exec While Compare cons nil") => `(tactic| refine Mine.stop ?_)
local macro_rules | `(tactic| walk_at "exec While Constant cons nil") => `(tactic| refine Mine.stop ?_)
local macro_rules | `(tactic| walk_at "Exists") => `(tactic| refine Mine.stop ?_)
local macro_rules | `(tactic| walk_at "And") => `(tactic| refine Mine.stop ?_)
local macro_rules | `(tactic| walk_at "binaryOp Add str str") => `(tactic| (with_reducible (refine' Mine.addS ?_ ?sz); (case sz => k_dflt (first | assumption | ((try simp only [Mine.S_len, Mine.len_1, Mine.len_2, Mine.len_3, Mine.len_4, Mine.len_5, Mine.len_6, Mine.len_7, Mine.len_8, Mine.len_0, List.length_append, List.length_cons, List.length_nil, Str.length_append]); omega))); intro _ _))
local macro_rules | `(tactic| walk_at "truthy ref") => `(tactic| (with_reducible (refine' Mine.truthL ?hl ?hf ?_); (case hl => k_dflt (walk_at "M list")); (case hf => ((try simp only [List.length_append, List.length_cons, List.length_nil]); omega)); intro _))
local macro_rules | `(tactic| walk_at "call builtin:len") => `(tactic| ((with_reducible show wpAny _ _ (call _ [Value.ref _]) _ _ _); with_reducible (refine' Mine.lenL ?hl ?hf ?_); (case hl => k_dflt (walk_at "M list")); (case hf => ((try simp only [List.length_append, List.length_cons, List.length_nil]); omega)); intro _ _))
local macro_rules | `(tactic| walk_at "M steps") => `(tactic| repeat' (first | (k_unfold; (try dsimp only)) | walk1 | (dsimp only; walk1)))
local macro_rules | `(tactic| walk_at "M go") => `(tactic| refine Mine.go ?_)
local macro_rules | `(tactic| walk_at "callWith") => `(tactic| ((with_reducible show wpAny _ _ (callWith _ (Value.builtin _) (_ :: _) (backTo _ (starEach (_ :: _) _)) []) _ _ _); refine' Mine.cwM ?k1 ?k2 ?_; (case k1 => k_dflt (exact rfl)); (case k2 => k_dflt (exact rfl))))
local macro_rules | `(tactic| walk_at "callWith") => `(tactic| ((with_reducible show wpAny _ _ (callWith _ (Value.builtin _) [] (backTo _ (starEach (_ :: _) _)) []) _ _ _); refine' Mine.cwB ?k1 ?k2 ?_; (case k1 => k_dflt (exact rfl)); (case k2 => k_dflt (exact rfl))))
local macro_rules | `(tactic| walk_at "subscriptTail Name Name str int") => `(tactic| (with_reducible (refine' Mine.itemS ?h0 ?h1 ?hz ?_ ?hs ?ht); (case h0 => k_dflt omega); (case h1 => k_dflt omega); (case hz => k_dflt ((try simp only [List.length_append, List.length_take, List.length_drop, List.length_cons, List.length_nil]); omega)); (case hs => with_unfolding_all rfl); (case ht => (intro _; with_unfolding_all rfl)); intro _ _))
local macro_rules | `(tactic| walk_at "subscriptTail Name Constant str int") => `(tactic| (with_reducible (refine' Mine.itemS ?h0 ?h1 ?hz ?_ ?hs ?ht); (case h0 => k_dflt omega); (case h1 => k_dflt omega); (case hz => k_dflt ((try simp only [List.length_append, List.length_take, List.length_drop, List.length_cons, List.length_nil]); omega)); (case hs => with_unfolding_all rfl); (case ht => (intro _; with_unfolding_all rfl)); intro _ _))
local macro_rules | `(tactic| walk_at "subscriptTail Name Call str int") => `(tactic| (with_reducible (refine' Mine.itemS ?h0 ?h1 ?hz ?_ ?hs ?ht); (case h0 => k_dflt omega); (case h1 => k_dflt omega); (case hz => k_dflt ((try simp only [List.length_append, List.length_take, List.length_drop, List.length_cons, List.length_nil]); omega)); (case hs => with_unfolding_all rfl); (case ht => (intro _; with_unfolding_all rfl)); intro _ _))
local macro_rules | `(tactic| walk_at "subscriptTail Name Slice str ref") => `(tactic| (with_reducible (refine' Mine.cutS_rev ?F ?N  ?hz ?_ ?hs ?ht); (case F => k_dflt k_asm); (case N => k_dflt k_asm); (case hz => k_dflt ((try simp only [List.length_append, List.length_take, List.length_drop, List.length_cons, List.length_nil]); omega)); (case hs => with_unfolding_all rfl); (case ht => (intro _; with_unfolding_all rfl)); intro _ _ _ _ _ _))
local macro_rules | `(tactic| walk_at "subscriptTail Name Slice str ref") => `(tactic| (with_reducible (refine' Mine.cutS_mid ?F ?N ?h0 ?h1 ?hz ?_ ?hs ?ht); (case F => k_dflt k_asm); (case N => k_dflt k_asm); (case h0 => k_dflt omega); (case h1 => k_dflt omega); (case hz => k_dflt ((try simp only [List.length_append, List.length_take, List.length_drop, List.length_cons, List.length_nil]); omega)); (case hs => with_unfolding_all rfl); (case ht => (intro _; with_unfolding_all rfl)); intro _ _ _ _ _ _))
local macro_rules | `(tactic| walk_at "subscriptTail Name Slice str ref") => `(tactic| (with_reducible (refine' Mine.cutS_from ?F ?N ?h0 ?hz ?_ ?hs ?ht); (case F => k_dflt k_asm); (case N => k_dflt k_asm); (case h0 => k_dflt omega); (case hz => k_dflt ((try simp only [List.length_append, List.length_take, List.length_drop, List.length_cons, List.length_nil]); omega)); (case hs => with_unfolding_all rfl); (case ht => (intro _; with_unfolding_all rfl)); intro _ _ _ _ _ _))
local macro_rules | `(tactic| walk_at "subscriptTail Name Slice str ref") => `(tactic| (with_reducible (refine' Mine.cutS_neg ?F ?N ?h0 ?hz ?_ ?hs ?ht); (case F => k_dflt k_asm); (case N => k_dflt k_asm); (case h0 => k_dflt omega); (case hz => k_dflt ((try simp only [List.length_append, List.length_take, List.length_drop, List.length_cons, List.length_nil]); omega)); (case hs => with_unfolding_all rfl); (case ht => (intro _; with_unfolding_all rfl)); intro _ _ _ _ _ _))
local macro_rules | `(tactic| walk_at "subscriptTail Name Slice str ref") => `(tactic| (with_reducible (refine' Mine.cutS_to ?F ?N ?h0 ?hz ?_ ?hs ?ht); (case F => k_dflt k_asm); (case N => k_dflt k_asm); (case h0 => k_dflt omega); (case hz => k_dflt ((try simp only [List.length_append, List.length_take, List.length_drop, List.length_cons, List.length_nil]); omega)); (case hs => with_unfolding_all rfl); (case ht => (intro _; with_unfolding_all rfl)); intro _ _ _ _ _ _))
local macro_rules | `(tactic| walk_at "M keep") => `(tactic| (refine' Or.inr ⟨?km, Mine.nin ?kn⟩; (case km => k_mem); (case kn => k_all)))
local macro_rules | `(tactic| walk_at "getMethod ref") => `(tactic| (k_here; (with_reducible show wpAny _ _ (getMethod (Value.ref _) (PySem.Str.ofString "_keyfunc") _) _ _ _); k_dflt (refine' Mine.method_slot ?k1 ?k2 ?k3 ?k4 ?k5 ?k6 ?k7 ?k8 ?k9 ?k9b ?k10 ?k11 ?_; (case k1 => k_asm); (case k2 => k_asm); (case k3 => k_inst); (case k4 => k_is); (case k5 => k_is); (case k6 => k_is); (case k7 => k_is); (case k8 => k_is); (case k9 => k_is); (case k9b => k_is); (case k10 => k_slotget); (case k11 => k_handed); k_whole)))
local macro_rules | `(tactic| walk_at "callWith ref") => `(tactic| (k_here; (with_reducible show wpAny _ _ (callWith _ _ _ (backTo _ (starEach [] _)) []) _ _ _); k_dflt (with_reducible refine' callWith_K0 ?k1 ?k2 ?_; (case k1 => k_in); (case k2 => k_is); k_whole)))
local macro_rules | `(tactic| walk_at "M enterC") => `(tactic| ((case k1 => k_dflt k_asm); (case k2 => k_dflt k_asm); (case k6 => k_dflt k_is); (case k7 => k_dflt k_is); (case k8 => k_dflt ktr_room); (case k9 => k_dflt (first | exact BindsTo.of_eq rfl | exact binds_K (by assumption) rfl (by k_is) rfl rfl rfl)); (case kB => k_dflt (exact kindsX rfl)); (case kD => decide +kernel); (case c2 => k_dflt (exact rfl)); (case c3 => k_dflt (exact rfl)); (case c4 => k_dflt (exact rfl))))
local macro_rules | `(tactic| walk_at "subscriptTail Name Constant ref int") => `(tactic| ((refine' Mine.atL ?hl ?h0 ?h1 ?hx ?_ ?hs); (case hl => k_dflt (walk_at "M list")); (case h0 => decide); (case h1 => decide); (case hx => rfl); (case hs => with_unfolding_all rfl)))
local macro_rules | `(tactic| walk_at "subscriptTail Name Slice ref ref") => `(tactic| ((refine' Mine.cutL ?F ?N ?hl ?h0 ?hz ?_ ?hs ?ht); (case F => k_dflt k_asm); (case N => k_dflt k_asm); (case hl => k_dflt (walk_at "M list")); (case h0 => decide); (case hz => k_dflt ((try simp only [List.length_append, List.length_cons, List.length_nil] at *); omega)); (case hs => with_unfolding_all rfl); (case ht => (intro _; with_unfolding_all rfl)); intro _ _ _ _ l1; (try k_lt l1)))
local macro_rules | `(tactic| walk_at "truthy ref") => `(tactic| (with_reducible (refine' Mine.truthCons ?hl ?hf ?_); (case hl => k_dflt (walk_at "M list")); (case hf => (k_dflt ((try simp only [List.length_nil, List.length_cons]); omega))); intro _))
local macro_rules | `(tactic| walk_at "truthy ref") => `(tactic| (with_reducible (refine' Mine.truthNil ?hl ?_); (case hl => k_dflt (walk_at "M list")); intro _))
local macro_rules | `(tactic| walk_at "truthy str") => `(tactic| (with_reducible (refine' Mine.truthS ?hz ?_); (case hz => k_dflt ((try simp only [List.length_append, List.length_take, List.length_drop, List.length_cons, List.length_nil]); omega)); intro _))
local macro_rules | `(tactic| walk_at "call builtin:len") => `(tactic| ((with_reducible show wpAny _ _ (call _ [Value.str _ _]) _ _ _); with_reducible (refine' Mine.lenS ?hz ?_); (case hz => k_dflt ((try simp only [List.length_append, List.length_take, List.length_drop, List.length_cons, List.length_nil]); omega)); intro _ _))
local macro_rules | `(tactic| walk_at "exec If") => `(tactic| ((with_reducible show wpAny _ _ (exec (Stmt.If (Expr.Compare (Expr.Call _ [Expr.Name (PySem.Str.ofString "first") _] _ _) _ _ _) _ _ _) _) _ _ _); (fail_if_success (have : Mine.NoStop := by assumption)); refine Mine.stop ?_))
local macro_rules | `(tactic| walk_at "exec Assign cons ListComp") => `(tactic| refine Mine.stop ?_)
local macro_rules | `(tactic| walk_at "eval Name") => `(tactic| (k_here; k_dflt (refine' Mine.ldC ?N ?c ?m ?d ?_ ?a ?b ?e; (case N => k_asm); (case c => exact rfl); (case m => k_mem); (case d => assumption); (case a => exact rfl); (case b => exact rfl); (case e => decide); k_whole)))
local macro_rules | `(tactic| walk_at "call builtin:sorted") => `(tactic| refine Mine.stop ?_)
local macro_rules | `(tactic| walk_at "eval Name") => `(tactic| (k_here; (with_reducible show wpAny _ _ (eval _ (genEnv _ _ _ _ _ _)) _ _ _); k_dflt (refine' Mine.ldF ?N ?c ?m ?d ?_ ?a ?b ?e ?f; (case N => k_asm); (case c => exact rfl); (case m => k_mem); (case d => assumption); (case a => exact rfl); (case b => exact rfl); (case e => decide); (case f => decide); k_whole)))
local macro_rules | `(tactic| walk_at "eval UnaryOp") => `(tactic| ((with_reducible show wpAny _ _ (eval _ (genEnv _ _ _ _ _ _)) _ _ _); with_reducible refine UnaryOp_ ?_))
local macro_rules | `(tactic| walk_at "eval Lambda") => `(tactic| refine Mine.stop ?_)
theorem Mine.off24 : True := by w_top off; trivial
-- P15f_srt
namespace Mine
theorem ltCps_false {a b : List Nat} (h : Spec.ltCps a b = false) : b ≤ a := by
  rw [ltCps_eq] at h
  exact List.not_lt.mp (by simpa using h)
theorem rising_pw : ∀ (l : List Str) (p : Str), risingS p l = true → (p :: l).Pairwise (fun a b => a.cps.toList ≤ b.cps.toList)
  | [], _, _ => by simp
  | x :: r, p, h => by
    simp only [risingS, Bool.and_eq_true, Bool.not_eq_true'] at h
    have ih := rising_pw r x h.2
    have h1 := ltCps_false h.1
    refine List.pairwise_cons.mpr ⟨fun a ha => ?_, ih⟩
    rcases List.mem_cons.mp ha with rfl | ha
    · exact h1
    · exact List.le_trans h1 (List.rel_of_pairwise_cons ih ha)
theorem sortedS_pw : ∀ {l : List Str}, sortedS l = true → l.Pairwise (fun a b => a.cps.toList ≤ b.cps.toList)
  | [], _ => .nil
  | x :: r, h => rising_pw r x h
theorem srt_pw (xs : List (List Nat)) : (srt xs).Pairwise (fun a b => a ≤ b) := by
  have := List.pairwise_mergeSort (le := fun a b : List Nat => decide (¬ b < a)) (fun a b c h1 h2 => by
    have h1 : ¬ b < a := by simpa using h1
    have h2 : ¬ c < b := by simpa using h2
    have : a ≤ c := List.le_trans (List.not_lt.mp h1) (List.not_lt.mp h2)
    simpa using List.not_lt.mpr this) (fun a b => by
    by_cases h : b < a
    · have : ¬ a < b := fun h2 => List.lt_irrefl _ (List.lt_trans h h2)
      simp [h, this]
    · simp [h]) xs
  refine this.imp fun h => ?_
  exact List.not_lt.mp (by simpa using h)
theorem srt_uniq {xs ys : List (List Nat)} (h : ys.Perm xs) (hs : ys.Pairwise (fun a b => a ≤ b)) : ys = srt xs :=
  (h.trans (srt_perm xs).symm).eq_of_pairwise (fun _ _ _ _ h1 h2 => List.le_antisymm h1 h2) hs (srt_pw xs)
theorem sorted_srt {ss : List Str} {ys : List (List Nat)} (hp : ss.Perm (ys.map S)) (hs : sortedS ss = true) : ss = (srt ys).map S := by
  have e : (ss.map (·.cps.toList)).map S = ss := by
    rw [List.map_map]
    exact (List.map_congr_left fun a _ => S_of a).trans (List.map_id _)
  have hp2 : (ss.map (·.cps.toList)).Perm ys := by
    have := hp.map (fun a : Str => a.cps.toList)
    rw [List.map_map] at this
    exact this.trans (List.Perm.of_eq ((List.map_congr_left fun a _ => S_cps a).trans (List.map_id _)))
  rw [← srt_uniq hp2 (List.pairwise_map.mpr (sortedS_pw hs)), e]
theorem among_some {pos : Pos} {v : Value} (r : List Value) (l : List Value) (h : TriplesOk l) (e : codeAmong pos l = some v) : codeAmong pos (l ++ r) = some v := by
  fun_induction TriplesOk l with
  | case1 => simp [codeAmong] at e
  | case2 a t b u x rest ih =>
    simp only [List.cons_append, codeAmong] at e ⊢
    split at e
    · rename_i hc; rw [if_pos hc]; exact e
    · rename_i hc; rw [if_neg hc]; exact ih h e
  | case3 l h1 h2 => exact h.elim
theorem Ext.tri {pos : Pos} {ps ps' : Array Value} (x : Ext pos ps ps') (h : TriplesOk ps.toList) : TriplesOk ps'.toList := by
  rcases x with rfl | ⟨_, c', rfl⟩
  · exact h
  · have hl : (ps ++ #[rawInt pos.line, rawInt pos.col, Value.ref c']).toList = ps.toList ++ [rawInt pos.line, rawInt pos.col, .ref c'] := by simp
    rw [hl]
    exact TriplesOk_snoc _ _ _ _ h
theorem Ext.grow {pos : Pos} {ps ps' : Array Value} (x : Ext pos ps ps') (h : TriplesOk ps.toList) (q : Pos) (v : Value) (e : codeAmong q ps.toList = some v) : codeAmong q ps'.toList = some v := by
  rcases x with rfl | ⟨_, c', rfl⟩
  · exact e
  · have hl : (ps ++ #[rawInt pos.line, rawInt pos.col, Value.ref c']).toList = ps.toList ++ [rawInt pos.line, rawInt pos.col, .ref c'] := by simp
    rw [hl]
    exact among_some _ _ h e
theorem Ext.other {pos q : Pos} {ps ps' : Array Value} (x : Ext pos ps ps') (h : TriplesOk ps.toList) (hne : ¬ (q.line = pos.line ∧ q.col = pos.col)) : codeAmong q ps'.toList = codeAmong q ps.toList := by
  rcases x with rfl | ⟨_, c', rfl⟩
  · rfl
  · have hl : (ps ++ #[rawInt pos.line, rawInt pos.col, Value.ref c']).toList = ps.toList ++ [rawInt pos.line, rawInt pos.col, .ref c'] := by simp
    rw [hl]
    exact among_other (pos := q) (q := pos) (fun z => hne ⟨z.1.symm, z.2.symm⟩) _ h
end Mine
theorem Mine.off25 : True := by w_top off; trivial
-- P15g_rise
namespace Mine
abbrev Rise (xs : List (List Nat)) : Prop := xs.Pairwise (fun a b => a ≤ b)
theorem cons_le {c d : Nat} {a b : List Nat} (h : c :: a ≤ d :: b) : c < d ∨ (c = d ∧ a ≤ b) := by
  have h2 := List.not_lt.mpr h
  rw [List.cons_lt_cons_iff] at h2
  rcases Nat.lt_trichotomy c d with h3 | h3 | h3
  · exact .inl h3
  · exact .inr ⟨h3, List.not_lt.mp fun h4 => h2 (.inr ⟨h3.symm, h4⟩)⟩
  · exact absurd (.inl h3) h2
theorem cons_le' {c : Nat} {a b : List Nat} (h : a ≤ b) : c :: a ≤ c :: b := List.not_lt.mp fun h2 => by
  rw [List.cons_lt_cons_iff] at h2
  rcases h2 with h2 | h2
  · exact absurd h2 (Nat.lt_irrefl _)
  · exact List.not_lt.mpr h h2.2
theorem drop_le : ∀ {c a b : List Nat}, c <+: a → c <+: b → a ≤ b → a.drop c.length ≤ b.drop c.length
  | [], _, _, _, _, h => h
  | k :: c, a, b, h1, h2, h => by
    obtain ⟨a', rfl⟩ := h1
    obtain ⟨b', rfl⟩ := h2
    rcases cons_le h with h3 | ⟨_, h3⟩
    · exact absurd h3 (Nat.lt_irrefl _)
    · simpa using drop_le (List.prefix_append c a') (List.prefix_append c b') h3
theorem rise_drop {c : List Nat} {xs : List (List Nat)} (hc : ∀ a ∈ xs, c <+: a) (h : Rise xs) : Rise (xs.map fun a => a.drop c.length) := by
  refine List.pairwise_map.mpr (h.imp_of_mem fun ha hb hab => drop_le (hc _ ha) (hc _ hb) hab)
/-- the first letter parts a rising list in two -/
theorem rise_split {x : List Nat} : ∀ {xs : List (List Nat)}, Rise xs → (∀ a ∈ xs, a ≠ []) → (∀ a ∈ xs, x ≤ a) → x ≠ [] →
    xs.takeWhile (fun a => a.head? == x.head?) = xs.filter (fun a => decide (a.head? = x.head?)) ∧ xs.dropWhile (fun a => a.head? == x.head?) = xs.filter (fun a => decide (a.head? ≠ x.head?))
  | [], _, _, _, _ => ⟨rfl, rfl⟩
  | a :: xs, h, hn, hx, hx0 => by
    have h1 := List.pairwise_cons.mp h
    by_cases e : a.head? = x.head?
    · have ih := rise_split h1.2 (fun b hb => hn b (.tail _ hb)) (fun b hb => hx b (.tail _ hb)) hx0
      rw [List.takeWhile_cons_of_pos (by simpa using e), List.dropWhile_cons_of_pos (by simpa using e), List.filter_cons_of_pos (by simpa using e), List.filter_cons_of_neg (by simpa using e), ih.1, ih.2]
      exact ⟨rfl, rfl⟩
    · rw [List.takeWhile_cons_of_neg (by simpa using e), List.dropWhile_cons_of_neg (by simpa using e), List.filter_cons_of_neg (by simpa using e), List.filter_cons_of_pos (by simpa using e)]
      have hall : ∀ b ∈ xs, b.head? ≠ x.head? := fun b hb q => by
        have hab := h1.1 b hb
        have hxa := hx a (.head _)
        have ha0 := hn a (.head _)
        have hb0 := hn b (.tail _ hb)
        cases a with
        | nil => exact ha0 rfl
        | cons c a =>
          cases b with
          | nil => exact hb0 rfl
          | cons d b =>
            cases x with
            | nil => exact hx0 rfl
            | cons k x =>
              have q' : d = k := by simpa using q
              have e' : c ≠ k := by simpa using e
              rcases cons_le hab with h3 | h3 <;> rcases cons_le hxa with h4 | h4 <;> omega
      constructor
      · exact (List.filter_eq_nil_iff.mpr fun b hb => by simpa using hall b hb).symm
      · congr 1
        exact (List.filter_eq_self.mpr fun b hb => by simpa using hall b hb).symm
end Mine
theorem Mine.off26 : True := by w_top off; trivial
-- P15h_seg
namespace Mine
section
variable {prog : Program} {w : World} {A : Around} {elt iter : Expr} {y : Str} {py : Pos} {scope : Scope} {pos : Pos} {I : Addr} {cenv : Env} {R : GenEnd} {Y : Protocol} {n : Nat} {s₀ s : Shared}
abbrev CL (elt iter : Expr) (y : Str) (py : Pos) (scope : Scope) (pos : Pos) (I : Addr) (cenv : Env) : Code := .compLoop (.GeneratorExp elt [⟨.Name y py, iter, [], 0⟩] scope pos) 0 (.ref I) .none cenv
abbrev CS (elt iter : Expr) (y : Str) (py : Pos) (scope : Scope) (pos : Pos) (I : Addr) (cenv : Env) : Code := .compStart (.GeneratorExp elt [⟨.Name y py, iter, [], 0⟩] scope pos) 0 (.ref I) .none cenv
/-- a turn that tells a value -/
theorem seg_turn (hco : cenv.scope.isCoroutine = false)
    (h : wpAny (model prog w) (A.over (CL elt iter y py scope pos I cenv) []) (pyNext (.ref I)) (fun r s₁ => ∃ v, r = some v ∧ wpAny (model prog w) (A.over (CL elt iter y py scope pos I cenv) []) (assign (.Name y py) cenv v) (fun _ s₂ =>
      wpAny (model prog w) (A.over (CL elt iter y py scope pos I cenv) []) (eval elt cenv) (fun u s₃ =>
      ∀ kap : Resume → Shared → Prop, (∀ s'', Seg (model prog w) A R Y n s'' (CL elt iter y py scope pos I cenv) ((model prog w).den (CL elt iter y py scope pos I cenv)) [] s'' → kap (.send .none) s'') → Y n s₀ u s₃ kap) (fun _ _ => False) s₂) (fun _ _ => False) s₁) (fun _ _ => False) s) :
    Seg (model prog w) A R Y (n + 1) s₀ (CL elt iter y py scope pos I cenv) ((model prog w).den (CL elt iter y py scope pos I cenv)) [] s := by
  show Seg _ A _ _ _ s₀ _ ((compTurn (.GeneratorExp elt [⟨.Name y py, iter, [], 0⟩] scope pos) 0 (.ref I) .none cenv).onRaise (leaving cenv)) [] s
  rw [compTurn_gen, Sem.onRaise_eq_wrap]
  refine seg_bind_wrap (wpAny_standAt ?_)
  refine seg_bind_wrap (wpAny_mono h (fun r s₁ h₁ => ?_) fun _ _ e => e.elim)
  obtain ⟨v, rfl, h₁⟩ := h₁
  refine seg_bind_wrap (wpAny_of_eq (rfl : letOwnedTupleGo (.Name y py) (.ref I) v = pure ()) ?_)
  refine seg_bind_wrap (wpAny_mono h₁ (fun _ s₂ h₂ => ?_) fun _ _ e => e.elim)
  refine seg_bind_wrap (wpAny_of_eq (a := true) (by rfl) ?_)
  simp only [if_true]
  have hy : ∀ v, yieldOut cenv v = yieldValue v := fun v => by simp only [yieldOut, hco, Bool.false_eq_true, if_false]
  simp only [hy]
  rw [Sem.bind_eq_wrap', Sem.bind_eq_wrap', Sem.wrap_wrap, Sem.wrap_wrap]
  refine seg_wrap (wpAny_mono h₂ (fun u s₃ h₃ => ?_) fun _ _ e => e.elim)
  refine seg_at (seg_yield rfl rfl rfl (h₃ _ fun s'' hs'' => ?_))
  exact seg_again rfl hs''
/-- the last turn -/
theorem seg_stop (h : wpAny (model prog w) (A.over (CL elt iter y py scope pos I cenv) []) (pyNext (.ref I)) (fun r s₁ => r = none ∧ R n s₀ (.ok .next) s₁) (fun _ _ => False) s) :
    Seg (model prog w) A R Y n s₀ (CL elt iter y py scope pos I cenv) ((model prog w).den (CL elt iter y py scope pos I cenv)) [] s := by
  show Seg _ A _ _ _ s₀ _ ((compTurn (.GeneratorExp elt [⟨.Name y py, iter, [], 0⟩] scope pos) 0 (.ref I) .none cenv).onRaise (leaving cenv)) [] s
  rw [compTurn_gen, Sem.onRaise_eq_wrap]
  refine seg_bind_wrap (wpAny_standAt ?_)
  refine seg_bind_wrap (wpAny_mono h (fun r s₁ h₁ => ?_) fun _ _ e => e.elim)
  obtain ⟨rfl, h₁⟩ := h₁
  exact seg_end (.ok .next) h₁
theorem seg_begin (hself : wpAny (model prog w) (A.over (CS elt iter y py scope pos I cenv) []) (pyIter (.ref I)) (fun v s' => v = .ref I ∧ Seg (model prog w) A R Y n s₀ (CL elt iter y py scope pos I cenv) ((model prog w).den (CL elt iter y py scope pos I cenv)) [] s') (fun _ _ => False) s)
    (h : Seg (model prog w) A R Y n s₀ (CL elt iter y py scope pos I cenv) ((model prog w).den (CL elt iter y py scope pos I cenv)) [] s) :
    Seg (model prog w) A R Y n s₀ (CS elt iter y py scope pos I cenv) ((model prog w).den (CS elt iter y py scope pos I cenv)) [] s := by
  show Seg _ A _ _ _ s₀ _ ((compStart (.GeneratorExp elt [⟨.Name y py, iter, [], 0⟩] scope pos) 0 (.ref I) .none cenv).onRaise (leaving cenv)) [] s
  unfold compStart
  rw [Sem.onRaise_eq_wrap]
  show Seg _ A _ _ _ s₀ _ ((ask >>= _).wrap _ _ _ _) [] s
  refine seg_bind_wrap (wpAny_askSetting ?_)
  split
  · exact seg_again rfl h
  · have hs : wpAny (model prog w) (A.over (CS elt iter y py scope pos I cenv) []) (pyIter (.ref I)) (fun v s' => v = .ref I ∧ Seg (model prog w) A R Y n s₀ (CL elt iter y py scope pos I cenv) ((model prog w).den (CL elt iter y py scope pos I cenv)) [] s') (fun _ _ => False) s := hself
    refine seg_bind_wrap (wpAny_rule ?_)
    show Seg _ A _ _ _ s₀ _ ((standAt iter.pos >>= _).wrap _ _ _ _) [] s
    refine seg_bind_wrap (wpAny_standAt (seg_bind_wrap (wpAny_mono hs (fun v s' hv => ?_) fun _ _ e => e.elim)))
    obtain ⟨rfl, hv⟩ := hv
    exact seg_again rfl hv
end
end Mine
theorem Mine.off27 : True := by w_top off; trivial
-- P15i_join
namespace Mine
/-- all from N on stays -/
def Up (N : Nat) (s s' : Shared) : Prop := ∀ b o, N ≤ b → s.heap.get? b = some o → s'.heap.get? b = some o
theorem Up.refl {N : Nat} {s : Shared} : Up N s s := fun _ _ _ e => e
theorem Up.trans {N : Nat} {s s' s'' : Shared} (x : Up N s s') (y : Up N s' s'') : Up N s s'' := fun b o h e => y b o h (x b o h e)
/-- a generator's state by what it has told: i items, or (n + 1) its end -/
structure Prot (J : Nat → Shared → Prop) (N a g : Nat) : Prop where
  frame : ∀ i (s : Shared) h' tk, J i s → (∀ b o, b < N → s.heap.get? b = some o → h'.get? b = some o) → J i { s with heap := h', toks := tk }
  setgen : ∀ i (s : Shared) x, J i s → x.bare = true → J i (s.setGen g x)
  nolimit : ∀ i s, J i s → s.heap.NoLimit
  isgen : ∀ i s, J i s → s.heap.IsGen a g
  room : ∀ i s, J i s → g < s.gens.size
def Ej (J : Nat → Shared → Prop) (N n : Nat) : Nat → Shared → Shared → Prop := fun m s₀ s₁ => m = 0 ∧ J (n + 1) s₁ ∧ Up N s₀ s₁
abbrev Rj (J : Nat → Shared → Prop) (N n : Nat) : GenEnd := fun m s₀ r s₁ => r = .ok .next ∧ Ej J N n m s₀ s₁
def Yj (J : Nat → Shared → Prop) (N n : Nat) (ys : List Str) : Protocol := fun m s₀ v s kap => (∃ y t, ys[n - 1 - m]? = some y ∧ v = .str y t) ∧ J (n - m) s ∧ Up N s₀ s ∧ ∀ s'', J (n - m) s'' → kap (.send .none) s''
def Sj (prog : Program) (w : World) (A : Around) (J : Nat → Shared → Prop) (N n g : Nat) (ys : List Str) (i : Nat) (s : Shared) : Prop :=
  J i s ∧ ∃ gs, s.gens[g]? = some gs ∧ ∀ s'', J i s'' → gs.Goes (model prog w) A.in1 (Rj J N n) (Yj J N n ys) (n - i) (.send .none) s''
section
variable {prog : Program} {w : World} {A : Around} {J : Nat → Shared → Prop} {N n a g : Nat} {ys : List Str} {E : Value → Shared → Prop} {s : Shared}
theorem setGen_here {s : Shared} {g : Nat} {x : GenState} (h : g < s.gens.size) : (s.setGen g x).gens[g]? = some x := by simp [Shared.setGen, h]
theorem nextJ {i : Nat} {Q : Option Value → Shared → Prop} (P : Prot J N a g) (hh : A.handled = none) (hroom : A.depth < recursionLimit) (hi : i < n) (st : Sj prog w A J N n g ys i s)
    (hQ : ∀ y t s', ys[i]? = some y → Sj prog w A J N n g ys (i + 1) s' → Up N s s' → Q (some (.str y t)) s') : wpAny (model prog w) A (pyNext (.ref a)) Q E s := by
  obtain ⟨hJ, gs, hgs, hgo⟩ := st
  obtain ⟨k, hk⟩ : ∃ k, n - i = k + 1 := ⟨n - i - 1, by omega⟩
  rw [hk] at hgo
  refine wpAny_pyNext_genexpQ (P := Ej J N n) (Y := Yj J N n ys) hh (P.nolimit _ _ hJ) hroom (P.isgen _ _ hJ) hgs (hgo _ (P.setgen _ _ _ hJ rfl)) (fun v s₁ gs' hb hv => ?_) (fun s₁ hp h' hk => ?_)
  · obtain ⟨⟨y, t, hy, rfl⟩, hJ', hU, hkap⟩ := hv
    have e1 : n - 1 - (k + 1 - 1) = i := by omega
    have e2 : n - (k + 1 - 1) = i + 1 := by omega
    rw [e1] at hy
    rw [e2] at hJ' hkap
    refine hQ y t _ hy ⟨P.setgen _ _ _ hJ' hb, gs', setGen_here (P.room _ _ hJ'), fun s'' h'' => ?_⟩ fun b o hb' e => hU b o hb' e
    have e3 : n - (i + 1) = k := by omega
    rw [e3]
    exact hkap s'' h''
  · exact absurd hp.1 (Nat.succ_ne_zero k)
theorem doneJ {Q : Option Value → Shared → Prop} (P : Prot J N a g) (hh : A.handled = none) (hroom : A.depth < recursionLimit) (st : Sj prog w A J N n g ys n s) (hQ : ∀ s', J (n + 1) s' → Up N s s' → Q none s') : wpAny (model prog w) A (pyNext (.ref a)) Q E s := by
  obtain ⟨hJ, gs, hgs, hgo⟩ := st
  rw [Nat.sub_self] at hgo
  refine wpAny_pyNext_genexpQ (P := Ej J N n) (Y := Yj J N n ys) hh (P.nolimit _ _ hJ) hroom (P.isgen _ _ hJ) hgs (hgo _ (P.setgen _ _ _ hJ rfl)) (fun v s₁ gs' hb hv => ?_) (fun s₁ hp h' hk => ?_)
  · exact (hv.2.2.2 s₁ hv.2.1).elim
  · have h1 := P.frame _ _ h' (s₁.setGen g .finished).toks (P.setgen _ _ .finished hp.2.1 rfl) fun b o _ e => hk b o e
    exact hQ _ h1 fun b o hb e => hk b o (hp.2.2 b o hb e)
theorem strsAre_take {vs : List Value} {i : Nat} {y : Str} (h : StrsAre vs (ys.take i)) (hy : ys[i]? = some y) (t : Tok) : StrsAre (vs ++ [.str y t]) (ys.take (i + 1)) := by
  rw [List.take_add_one, hy]
  exact strsAre_push h y t
theorem extendJ (P : Prot J N a g) (hh : A.handled = none) (hroom : A.depth < recursionLimit) (hn : n ≤ 1000) {L : Addr} (hL : N ≤ L) (res : Value) {R : Result → Shared → Prop} :
    ∀ (k i : Nat) (s : Shared) (acc : Array Value) (c : Nat), n - i = k → i ≤ n → Sj prog w A.in1 J N n g ys i s → s.heap.get? L = some (liObj acc c) → StrsAre acc.toList (ys.take i) → acc.size = i →
      (∀ s' acc' c', J (n + 1) s' → s'.heap.get? L = some (liObj acc' c') → StrsAre acc'.toList (ys.take n) → R (.ok (.ret res)) s') →
      codeAny (model prog w) A (.builtin "list.extend.loop" ⟨[.ref L, .ref a, res], []⟩) R s := by
  intro k
  induction k with
  | zero =>
    intro i s acc c hk hi st hS hacc hsz hR
    obtain rfl : i = n := by omega
    refine codeAny_builtin F.entry_extend_loop ?_
    rw [Around.under_plainId F.plain_extend_loop _]
    show wpAny _ A.in1 (pyNext (.ref a) >>= _) _ _ s
    refine wpAny_bind (doneJ P hh hroom st fun s' hJ hU => ?_)
    exact wpAny_pure (hR s' acc c hJ (hU L _ hL hS) hacc)
  | succ k ih =>
    intro i s acc c hk hi st hS hacc hsz hR
    refine codeAny_builtin F.entry_extend_loop ?_
    rw [Around.under_plainId F.plain_extend_loop _]
    show wpAny _ A.in1 (pyNext (.ref a) >>= _) _ _ s
    refine wpAny_bind (nextJ P hh hroom (by omega) st fun y t s' hy st' hU => ?_)
    have hS' := hU L _ hL hS
    show wpAny _ A.in1 (updateSeq L (·.push _) >>= _) _ _ _
    refine wpAny_bind ?_
    obtain ⟨c', hS3⟩ := liAt hS' (.str y t)
    have h20 : (200000 : Nat) ≤ sizeLine := by decide
    have hz1 : acc.size ≤ sizeLine := by omega
    have hz2 : (acc.push (.str y t)).size ≤ sizeLine + 1 := by rw [Array.size_push]; omega
    refine wpAny_updateSeq hS' rfl (wpAny_pure ⟨plainId_quiet F.plain_extend_loop _, ?_⟩) hz1 hz2
    obtain ⟨hJ', gs', hg', hgo'⟩ := st'
    have e : ({ s' with heap := s'.heap.update L (Obj.mapSeq (·.push (.str y t))), toks := s'.toks } : Shared) = { s' with heap := s'.heap.update L (Obj.mapSeq (·.push (.str y t))) } := rfl
    refine ih (i + 1) _ _ c' (by omega) (by omega) ⟨P.frame (i + 1) s' (s'.heap.update L (Obj.mapSeq (·.push (.str y t)))) s'.toks hJ' fun b o hb e => (Heap.get?_update_other _ _ (Nat.ne_of_gt (Nat.lt_of_lt_of_le hb hL))).trans e, gs', hg', hgo'⟩ hS3 (by rw [Array.toList_push]; exact strsAre_take hacc hy t) (by rw [Array.size_push]; omega) hR
theorem collectJ {Q : List Value → Shared → Prop} (P : Prot J N a g) (hh : A.handled = none) (hroom : A.depth < recursionLimit) (hn : n ≤ 1000) (hN : N ≤ s.heap.objs.size)
    (st : Sj prog w A.in1 J N n g ys 0 s) (hQ : ∀ s' xs, J (n + 1) s' → StrsAre xs (ys.take n) → Q xs s') : wpAny (model prog w) A (collect (.ref a)) Q E s := by
  obtain ⟨hJ, gs, hgs, hgo⟩ := st
  have hga := P.isgen _ _ hJ
  have hlt : a < s.heap.objs.size := let ⟨_, _, _, h, _⟩ := hga; Heap.lt_size h
  have hSa : s.heap.objs.size ≠ a := Nat.ne_of_gt hlt
  unfold collect
  refine wpAny_bind (wpAny_runValue (codeAny_builtin F.entry_proto_collect ?_))
  rw [Around.under_plainId F.plain_proto_collect _]
  show wpAny _ A.in1 (newList [] >>= fun l => again (.builtin "list.__iadd__" ⟨[l, .ref a], []⟩)) _ _ s
  refine wpAny_bind (wpAny_newObj_type ?_)
  refine wpAny_pure ⟨plainId_quiet F.plain_list_iadd _, codeAny_builtin F.entry_list_iadd ?_⟩
  rw [Around.under_plainId F.plain_list_iadd _]
  have hS₁ : (s.heap.push (liObj #[] 0)).get? s.heap.objs.size = some (liObj #[] 0) := Heap.get?_push_size _ rfl
  have oth₁ : ∀ b o, s.heap.get? b = some o → (s.heap.push (liObj #[] 0)).get? b = some o := fun b o e => Heap.get?_push_of_some _ e
  show wpAny _ A.in1 (Builtin.List.listExtendWith (.ref s.heap.objs.size) (.ref a) (.ref s.heap.objs.size)) _ _ { s with heap := s.heap.push (liObj #[] 0) }
  generalize s.heap.push (liObj #[] 0) = h₁ at *
  generalize hLe : s.heap.objs.size = L at *
  have hg₁ : h₁.IsGen a g := let ⟨o, nm, qn, ho, r⟩ := hga; ⟨o, nm, qn, oth₁ _ _ ho, r⟩
  unfold Builtin.List.listExtendWith
  refine wpAny_bind (wpAny_typeOf hg₁.typeIs ?_)
  have h1 : Builtin.List.listSameRef (.ref L) (.ref a) = false := by simp [Builtin.List.listSameRef, hSa]
  have h2 : (Value.type "generator" == Value.type "list") = false := by decide
  have h3 : (Value.type "generator" == Value.type "tuple") = false := by decide
  simp only [h1, h2, h3, Bool.or_false, Bool.false_eq_true, if_false]
  refine wpAny_bind (wpAny_pyIter_gen hg₁ ?_)
  refine wpAny_bind (wpAny_holding ?_)
  unfold Builtin.List.listLengthHint
  refine wpAny_bind (wpAny_specialOf hg₁.typeIs F.gen_no_len ?_)
  show wpAny _ A.in1 (specialOf (Value.ref a) (Str.ofString "__length_hint__") >>= _) _ _ _
  refine wpAny_bind (wpAny_specialOf hg₁.typeIs F.gen_no_hint ?_)
  refine wpAny_pure ?_
  show wpAny _ A.in1 (rule "list.extend.makes-room" >>= fun _ => Builtin.List.listTouch (.ref L) >>= fun _ =>
    again (.builtin "list.extend.loop" ⟨[.ref L, .ref a, .ref L], []⟩)) _ _ _
  refine wpAny_bind (wpAny_rule ?_)
  refine wpAny_bind ?_
  show wpAny _ A.in1 (updateSeq L (·.push .none) >>= fun _ => updateSeq L (·.pop)) _ _ _
  refine wpAny_bind (wpAny_updateSeq hS₁ rfl ?_)
  have hS₂ := Heap.get?_update_self (Obj.mapSeq (·.push Value.none)) hS₁ rfl
  refine wpAny_updateSeq (hz := by seq_fits) hS₂ rfl ?_
  have hS₃ := Heap.get?_update_self (Obj.mapSeq (·.pop)) hS₂ rfl
  have oth₃ : ∀ b o, b < L → s.heap.get? b = some o → ((h₁.update L (Obj.mapSeq (·.push Value.none))).update L (Obj.mapSeq (·.pop))).get? b = some o :=
    fun b o hb e => (Heap.get?_update_other _ _ (Nat.ne_of_gt hb)).trans ((Heap.get?_update_other _ _ (Nat.ne_of_gt hb)).trans (oth₁ _ _ e))
  refine wpAny_pure ⟨plainId_quiet F.plain_extend_loop _, ?_⟩
  refine extendJ P hh hroom hn hN _ n 0 _ #[] _ rfl (Nat.zero_le _) ⟨P.frame 0 s _ s.toks hJ fun b o hb e => oth₃ b o (Nat.lt_of_lt_of_le hb hN) e, gs, hgs, hgo⟩ hS₃ .nil rfl fun s' acc' c' hJ' hS' hacc' => ?_
  show wpAny _ A (load L >>= _) _ _ s'
  exact wpAny_bind (wpAny_load hS' (wpAny_pure (hQ s' _ hJ' hacc')))
theorem joinJ {x : Str} {tx : Tok} {Q : Value → Shared → Prop} (P : Prot J N a g) (hh : A.handled = none) (hroom : A.depth < recursionLimit) (hn : n ≤ 1000) (hN : N ≤ s.heap.objs.size) (hys : ys.length = n)
    (st : Sj prog w A.in1.in1 J N n g ys 0 s) (hok : JoinOk x ys = true) (hQ : ∀ s' t k, J (n + 1) s' → Q (.str (Txt.join x ys) t) { s' with toks := k }) :
    wpAny (model prog w) A (call (.builtin "str.join") [.str x tx, .ref a]) Q E s := by
  have hga := P.isgen _ _ st.1
  refine wpAny_call (codeAny_call_builtin F.slot_str_join.plain F.entry_str_join (F.slot_str_join.check _ _ _ _ _ _ _ _ (typeIs_str _ _ _) (F.args_str_join_2 _ _) ?_))
  rw [join_tree_other]
  refine wpAny_bind (wpAny_typeOf hga.typeIs ?_)
  show wpAny _ A.in1 ((pyIter (.ref a)).tryCatch _ >>= fun it => collect it >>= fun items => joinTail x items) _ _ s
  refine wpAny_bind (wpAny_tryCatch (wpAny_pyIter_gen hga ?_))
  refine wpAny_bind (collectJ P hh hroom hn hN st fun s' xs hJ hxs => ?_)
  rw [← hys, List.take_length] at hxs
  obtain ⟨l, rfl⟩ := exists_strValues xs fun v hv => let ⟨y, t, e⟩ := hxs.all v hv; ⟨y, t, e⟩
  have hl : l.map (·.1) = ys := by
    have : ∀ (l : List (Str × Tok)) (ys : List Str), StrsAre (strValues l) ys → l.map (·.1) = ys := by
      intro l
      induction l with
      | nil => intro ys h; cases h; rfl
      | cons p r ih =>
        intro ys h
        cases h with
        | cons _ _ h => rw [List.map_cons, ih _ h]
    exact this l ys hxs
  have hok' := hok
  unfold JoinOk at hok
  rw [Bool.not_eq_true', ← hl] at hok
  have g : Gives (joinTail x (strValues l)) (joinMade x l) := by
    have g0 := gives_joinTail x l hok
    cases l with
    | nil => exact g0
    | cons p r => cases r with
      | nil => exact g0
      | cons q r' => exact g0
  exact g _ w A (wants Q E) s' (post_join l ⟨joinFit_length hok, fun t k => by rw [hl]; exact hQ s' t k hJ⟩)
end
end Mine
theorem Mine.off28 : True := by w_top off; trivial
-- P15j_key
namespace Mine
section
variable {w : World} {dp un : Nat} {fr : List Env} {gd : Option (List Code)} {s : Shared} {Q E : Value → Shared → Prop} {loose : List Str} {mean : ExcName → Option Value} {mg mb : Str → Option Value}
theorem gb_iter {x : Addr} {B : Heap} (hB : Kp B s.heap) (X : (hd.heap_39 w.params).In B) (T : Top topProg loose mean mg mb B) (hA : dp + 1 < recursionLimit)
  (ret : ∀ h' tk', Kp s.heap h' → Q (.ref x) {s with heap := h', toks := tk'}) :
  wpAny (model PySem.Challenge.rw_ev0005_01.row.prog w) (Ar dp un (some fr) gd) (call (.ref 75) [.ref x]) Q E s := by
  have X := X.keeps hB
  have T := T.keeps hB
  revert X; k_fill; intro X
  walk_at "M enter"
  intro h₁ tk₁ F N
  walk_at "M steps"
  exact ret _ _ (by (with_reducible rename Fr _ _ _ _ => F); exact F.keep)
abbrev lamBody (p1 p2 p3 p4 p5 p6 p7 : Pos) (k1 k2 : Nat) : Expr := .Compare (.Subscript (.Name "s" p1) (.Constant (.int 0) k1 p2) p3) [.Eq] [.Subscript (.Name "first" p4) (.Constant (.int 0) k2 p5) p6] p7
theorem keyL {p1 p2 p3 p4 p5 p6 p7 : Pos} {k1 k2 : Nat} {B : Heap} {kf c' fc : Addr} {qual : Str} {params : Arguments} {scope : Scope} {cl : List (Str × Addr)} {pm ctv : Value} {x : List Nat} {t0 : Tok} {oc : Obj}
    (T : Top topProg loose mean mg mb B) (hf : B.get? kf = some (kla_obj "<lambda>" qual params (lamBody p1 p2 p3 p4 p5 p6 p7 k1 k2) scope cl pm c' ctv)) (hcd : B.CodeRec (.ref c') qual)
    (hc : B.get? fc = some oc) (hd : oc.data = .cell (some (.str (S x) t0))) (hx : x ≠ []) (hxl : x.length ≤ 100000)
    (hb : ∀ v, bindArgs (kla_fn "<lambda>" qual params (lamBody p1 p2 p3 p4 p5 p6 p7 k1 k2) scope cl pm (.ref c') ctv) ⟨[v], []⟩ = pure [(("s" : Str), v)]) (hs : scope.names.lookup ("s" : Str) = some .local) (hfi : scope.names.lookup ("first" : Str) = some .free)
    (hcl : cl.lookup ("first" : Str) = some fc) (hco : scope.isCoroutine = false) (hgen : scope.isGenerator = false) (hk : scope.kind = .function) (hcell : ∀ y ∈ scope.names, y.2 ≠ .cell) : KeyFn w B kf (fun a => a.head? == x.head?) := by
  intro dp un fr gd s Q E a t ha hal hdp hB hQ
  refine wpAny_call (kla_callFunE (show dp < recursionLimit by omega) (hB _ _ hf) rfl hco hgen rfl (let ⟨a1, a2, a3, a4, a5, a6, a7⟩ := hcd; ⟨a1, a2, a3, a4, a5, hB _ _ a6, a7⟩) ?_)
  rw [hb]
  refine wpAny_pure (wpAny_newFunctionEnv hcell (fun y hy => by rw [List.mem_singleton.mp hy]; exact hs) (fun h₁ hns hsb => ⟨(T.nolimit.keeps hB).fresh _ hsb, ?_⟩) hk)
  have hk₁ : ∀ b o, s.heap.get? b = some o → h₁.get? b = some o := fun b o e => hsb.extBut b o (Nat.ne_of_lt (Heap.lt_size e)) (Heap.get?_push_of_some _ e)
  have F : Fr s.heap s.heap.objs.size h₁ (fun y => ([("s", Value.str (S a) t)] : List (Str × Value)).reverse.lookup y) := ⟨hns, hk₁, Nat.le_refl _⟩
  show codeAny _ _ (.expr _ (envX qual scope s.heap.objs.size kf (.ref c') cl)) _ _
  refine kla_codeExpr ?_
  generalize hen : envX qual scope s.heap.objs.size kf (.ref c') cl = env at *
  have hL : env.locals = s.heap.objs.size := by rw [← hen]
  have hks : env.kindOf ("s" : Str) = some .local := by rw [← hen]; exact hs
  have hkf : env.kindOf "first" = some .free := by rw [← hen]; exact hfi
  have hkk : env.scope.kind = .function := by rw [← hen]; exact hk
  have hcc : env.cells.lookup ("first" : Str) = some fc := by rw [← hen]; exact hcl
  have ha1 : 0 < a.length := List.length_pos_iff.mpr ha
  have hx1 : 0 < x.length := List.length_pos_iff.mpr hx
  rw [← hL] at F
  refine wpAny_Compare1 ?_
  refine Subscript_ ?_
  refine ldG F rfl ?_ hkk hks (by decide)
  walk1
  refine itemS (by decide) (by simpa using ha1) (by omega) (fun t1 k1 => ?_) (by with_unfolding_all rfl) (fun _ => by with_unfolding_all rfl)
  refine Subscript_ ?_
  refine wpAny_Name (wpAny_loadName_free hkk hkf hcc ⟨oc, hk₁ _ _ (hB _ _ hc), hd⟩ ?_ (by decide)) (by decide)
  walk1
  refine itemS (by decide) (by simpa using hx1) (by omega) (fun t1 k1 => ?_) (by with_unfolding_all rfl) (fun _ => by with_unfolding_all rfl)
  refine eq_str ?_
  have e : (S [a.getD (0 : Int).toNat 0] == S [x.getD (0 : Int).toNat 0]) = (a.head? == x.head?) := by
    cases a with
    | nil => exact absurd rfl ha
    | cons c a =>
      cases x with
      | nil => exact absurd rfl hx
      | cons d x =>
        rw [Bool.eq_iff_iff]
        simp only [beq_iff_eq, S_eq]
        simp
  rw [e]
  exact hQ _ _ hk₁
end
end Mine
theorem Mine.off29 : True := by w_top off; trivial
-- P15k_lam
namespace Mine
section
variable {M : Model} {A : Around} {E : Value → Shared → Prop} {s : Shared} {h₀ : Heap} {L c P : Addr} {m mg mb : Str → Option Value} {own : List (Addr × Obj)}
  {p : Program} {loose : List Str} {mean : ExcName → Option Value} {qual : Str} {params : Arguments} {body : Expr} {scope : Scope} {ps : Array Value} {pos : Pos} {clos : List (Str × Addr)}
theorem lamMake {Q : Value → Shared → Prop} {env : Env} (F : Fr h₀ L s.heap m) (N : News h₀ L s.heap (own ++ [(P, tabObj ps)])) (hne : ∀ q ∈ own, q.1 ≠ P) (hown : ∃ q ∈ own, L < q.1) (T : Top p loose mean mg mb h₀) (C : CodeHd h₀ c P)
    (hge : env.globals = mainGlobals) (hcd : env.code = .ref c) (ht : TriplesOk ps.toList) (hq : env.qual ++ "<lambda>" = qual)
    (htab : codeAmong pos ps.toList = none ∨ ∃ c', codeAmong pos ps.toList = some (.ref c') ∧ h₀.CodeRec (.ref c') qual)
    (hcl : closureFor scope env = pure clos) (hdef : defaultsOf params env = ([], []))
    (h : ∀ f c' ctv h' tk ps' extra, Fr h₀ L h' m → News h₀ L h' ((f, kla_obj "<lambda>" qual params body scope clos ((mg "__name__").getD .none) c' ctv) :: (P, tabObj ps') :: (own ++ extra)) →
      (h₀.CodeRec (.ref c') qual ∨ ∃ oc vs t, (c', oc) ∈ extra ∧ oc.data = .fields vs ∧ vs[1]? = some (.str qual t)) → c' < f → c' ≠ P → codeAmong pos ps'.toList = some (.ref c') → Ext pos ps ps' → (∀ q ∈ own, q.1 < f) → P < f → (∀ q ∈ extra, q.1 ≠ P ∧ q.1 < f) →
      Q (.ref f) { s with heap := h', toks := tk }) :
    wpAny M A (eval (.Lambda params body scope pos) env) Q E s := by
  have hm := N (P, tabObj ps) (List.mem_append_right _ (.head _))
  have hgs := T.g.keeps F.keep
  obtain ⟨bm, ob, b1, b2, b3, b4, b5, b6⟩ := T.bmain
  have hgP : mainGlobals ≠ P := fun q => by
    obtain ⟨o, es, ep, e, hd, _⟩ := hgs
    rw [q, hm.1] at e; cases e; cases hd
  have hbP : bm ≠ P := fun q => by
    have e := F.keep _ _ b3
    rw [q, hm.1] at e; cases e; cases b4
  have hbG : bm ≠ mainGlobals := fun q => by
    obtain ⟨o, es, ep, e, hd, _⟩ := T.g
    rw [q, e] at b3; cases b3; rw [hd] at b6; cases b6
  have hLs : L < s.heap.objs.size := F.ns.lt
  have hPs : P < s.heap.objs.size := Heap.lt_size hm.1
  have hos : ∀ q ∈ own, q.1 < s.heap.objs.size := fun q hq => Heap.lt_size (N q (List.mem_append_left _ hq)).1
  have fresh : ∀ b, L < b → h₀.get? b = none := fun b hb => Heap.get?_none_of_le (Nat.le_trans F.above (Nat.le_of_lt hb))
  refine kla_eval hdef ?_
  rw [hq]
  rcases htab with hnf | ⟨c', hf, hrec⟩
  · refine kla_makeFunction (mg := mg) hcl hge hgs hcd (C.keeps F.keep) hm.1 ht hnf hgP ⟨bm, ob, b1, b2, hbG, hbP, F.keep _ _ b3, b4, b5, b6⟩ fun c' ctv h' tk hx hge hlt hrec htb => ?_
    obtain ⟨c₂, oc, vs, t, e2, hoc, hd, hv⟩ := hrec
    cases e2
    have hLc : L < c' := Nat.lt_of_lt_of_le hLs hge
    have old : ∀ b o, h₀.get? b = some o → h'.get? b = some o := fun b o e => hx b o (fun q => by rw [q, hm.2.2] at e; cases e) (F.keep b o e)
    have hss : s.heap.objs.size ≤ h'.objs.size := Nat.le_trans hge (Nat.le_of_lt hlt)
    refine h h'.objs.size c' ctv _ tk _ [(c', oc)] ⟨(F.ns.extBut hx hm.2.1.symm).push _, fun b o e => Heap.get?_push_of_some _ (old b o e), F.above⟩ (fun q hq => ?_) (.inr ⟨oc, vs, t, .head _, hd, hv⟩) hlt
      (fun q => Nat.lt_irrefl _ (Nat.lt_of_lt_of_le (q ▸ hPs) hge)) ?_ (.inr ⟨hnf, c', rfl⟩) (fun q hq => Nat.lt_of_lt_of_le (hos q hq) hss) (Nat.lt_of_lt_of_le hPs hss) (List.forall_mem_singleton.mpr ⟨Nat.ne_of_gt (Nat.lt_of_lt_of_le hPs hge), hlt⟩)
    · rcases List.mem_cons.mp hq with rfl | hq
      · exact ⟨Heap.get?_push_size _ rfl, Nat.ne_of_gt (Nat.lt_trans hLc hlt), fresh _ (Nat.lt_trans hLc hlt)⟩
      · rcases List.mem_cons.mp hq with rfl | hq
        · exact ⟨Heap.get?_push_of_some _ htb, hm.2⟩
        · rcases List.mem_append.mp hq with hq | hq
          · have n := N q (List.mem_append_left _ hq)
            exact ⟨Heap.get?_push_of_some _ (hx _ _ (hne q hq) n.1), n.2⟩
          · rw [List.mem_singleton.mp hq]
            exact ⟨Heap.get?_push_of_some _ hoc, Nat.ne_of_gt hLc, fresh _ hLc⟩
    · have hl : (ps ++ #[rawInt pos.line, rawInt pos.col, Value.ref c']).toList = ps.toList ++ [rawInt pos.line, rawInt pos.col, .ref c'] := by simp
      rw [hl]
      exact codeAmong_snoc _ ht hnf
  · refine kla_makeFunctionHit (mg := mg) hcl hge hgs hcd (C.keeps F.keep) hm.1 ht hf ⟨bm, ob, b1, b2, hbG, hbP, F.keep _ _ b3, b4, b5, b6⟩ fun ctv h' tk hk hsz => ?_
    have hLh : L < h'.objs.size := Nat.lt_of_lt_of_le hLs hsz
    have hcL : c' < L := by
      obtain ⟨c₂, oc, vs, t, e2, hoc, hd, hv⟩ := hrec
      cases e2
      exact Nat.lt_of_lt_of_le (Heap.lt_size hoc) F.above
    refine h h'.objs.size c' ctv _ tk ps [] ⟨(F.ns.keeps hk).push _, fun b o e => Heap.get?_push_of_some _ (hk b o (F.keep b o e)), F.above⟩ (fun q hq => ?_) (.inl hrec) (Nat.lt_trans hcL hLh)
      (fun q => ?_) hf (.inl rfl) (fun q hq => Nat.lt_of_lt_of_le (hos q hq) hsz) (Nat.lt_of_lt_of_le hPs hsz) (fun _ h => nomatch h)
    · rcases List.mem_cons.mp hq with rfl | hq
      · exact ⟨Heap.get?_push_size _ rfl, Nat.ne_of_gt hLh, fresh _ hLh⟩
      · rcases List.mem_cons.mp hq with rfl | hq
        · exact ⟨Heap.get?_push_of_some _ (hk _ _ hm.1), hm.2⟩
        · rw [List.append_nil] at hq
          have n := N q (List.mem_append_left _ hq)
          exact ⟨Heap.get?_push_of_some _ (hk _ _ n.1), n.2⟩
    · obtain ⟨c₂, oc, vs, t, e2, hoc, hd, hv⟩ := hrec
      cases e2
      rw [q, hm.2.2] at hoc
      cases hoc
end
end Mine
theorem Mine.off30 : True := by w_top off; trivial
-- P15l_turn
namespace Mine
def lamL : Nat := 136
def lamC : Nat := 100
/-- the table of the codes that regex_opt_inner has made -/
structure TabOk (h : Heap) (ps : Array Value) : Prop where
  tri : TriplesOk ps.toList
  lam : ∀ pos : Pos, pos.line = lamL → pos.col = lamC → codeAmong pos ps.toList = none ∨ ∃ c', codeAmong pos ps.toList = some (.ref c') ∧ h.CodeRec (.ref c') "regex_opt_inner.<locals>.<lambda>" ∧ c' ≠ 145
theorem TabOk.kw {B h h' : Heap} {fr : List Env} {ps : Array Value} (x : TabOk h ps) (G : Fl B fr h) (W : Kw fr [145] h h') : TabOk h' ps := by
  refine ⟨x.tri, fun pos h1 h2 => ?_⟩
  rcases x.lam pos h1 h2 with e | ⟨c', e, ⟨c, o, vs, t, q, ho, hd, hv⟩, hne⟩
  · exact .inl e
  · refine .inr ⟨c', e, ⟨c, o, vs, t, q, W.keep _ _ (fun z => ?_) (fun z => ?_) ho, hd, hv⟩, hne⟩
    · obtain ⟨_, o', ho', hd'⟩ := G.frame z
      obtain rfl : o' = o := Option.some.inj (ho'.symm.trans ho)
      exact hd' _ hd
    · cases q
      exact hne (List.mem_singleton.mp z)
theorem TabOk.keeps {h h' : Heap} {ps : Array Value} (x : TabOk h ps) (k : Kp h h') : TabOk h' ps := by
  refine ⟨x.tri, fun pos h1 h2 => ?_⟩
  rcases x.lam pos h1 h2 with e | ⟨c', e, ⟨c, o, vs, t, q, ho, hd, hv⟩, hne⟩
  · exact .inl e
  · exact .inr ⟨c', e, ⟨c, o, vs, t, q, k _ _ ho, hd, hv⟩, hne⟩
theorem TabOk.ext {h : Heap} {ps ps' : Array Value} {pos : Pos} (x : TabOk h ps) (e : Ext pos ps ps') (hne : ¬ (lamL = pos.line ∧ lamC = pos.col)) : TabOk h ps' := by
  refine ⟨e.tri x.tri, fun q h1 h2 => ?_⟩
  rw [e.other x.tri (by rw [h1, h2]; exact hne)]
  exact x.lam q h1 h2
/-- what the table holds stays -/
def TabGrow (ps ps' : Array Value) : Prop := ∀ (pos : Pos) v, codeAmong pos ps.toList = some v → codeAmong pos ps'.toList = some v
/-- what a call of regex_opt_inner gives, by its fuel -/
def RoiAt (w : World) (loose : List Str) (mean : ExcName → Option Value) (mg mb : Str → Option Value) (n : Nat) : Prop := ∀ {dp un : Nat} {fr : List Env} {gd : Option (List Code)} {s : Shared} {Q E : Value → Shared → Prop} {B : Heap} {l : Addr} {vs : List Value} {xs : List (List Nat)} {p : List Nat} {tp : Tok} {ps : Array Value}
  (_ : Fl B fr s.heap) (_ : (hd.heap_39 w.params).In B) (_ : Top topProg loose mean mg mb B) (_ : dp + 2 * n + 6 < recursionLimit) (_ : B.get? 145 = none ∧ 145 ∉ fa fr) (_ : s.heap.get? 145 = some (tabObj ps)) (_ : TabOk s.heap ps)
  (_ : B.IsList l vs.toArray) (_ : StrsAre vs (xs.map S)) (_ : msr xs ≤ 100000) (_ : xs.length < 64) (_ : Rise xs) (_ : msr xs < n) (_ : p = [] ∨ p = [40] ∨ p = opn)
  (_ : ∀ h' tk' t ps' g', Kw fr [145] s.heap h' → h'.get? 145 = some (tabObj ps') → TabOk h' ps' → (GensOk s.gens g' ∧ TabGrow ps ps') → Q (.str (S (roi n xs p)) t) {s with heap := h', toks := tk', gens := g'}),
  wpAny (model PySem.Challenge.rw_ev0005_01.row.prog w) (Ar dp un (some fr) gd) (call (.ref 148) [.ref l, .str (S p) tp]) Q E s
theorem Fl.cells {B h : Heap} {fr : List Env} (G : Fl B fr h) {b : Addr} {o : Obj} {vs : Array Value} (e : h.get? b = some o) (hd : o.data = .fields vs) : b ∉ fa fr := fun z => by
  obtain ⟨_, o', ho', hd'⟩ := G.frame z
  obtain rfl : o' = o := Option.some.inj (ho'.symm.trans e)
  exact hd' _ hd
abbrev eltX (q1 q2 q3 q4 q5 q6 q7 q8 : Pos) (k1 k2 : Nat) : Expr := .Call (.Name "regex_opt_inner" q1) [.Call (.Name "list" q2) [.Subscript (.Name "group" q3) (.Constant (.int 1) k1 q4) q5] [] q6, .Constant (.str "") k2 q7] [] q8
section
variable {w : World} {dp un : Nat} {fr1 : List Env} {gd : Option (List Code)} {s : Shared} {Q E : Value → Shared → Prop} {loose : List Str} {mean : ExcName → Option Value} {mg mb : Str → Option Value}
theorem turn_body {q1 q2 q3 q4 q5 q6 q7 q8 py : Pos} {k1 k2 : Nat} {n : Nat} {B : Heap} {cenv : Env} {x dx I l kf y dy P C c' : Addr} {vs : List Value} {xs : List (List Nat)} {gn ser : Int} {u u2 u3 : Tok} {b : Bool} {f : List Nat → Bool} {a : List Nat} {t : Tok} {i : Nat} {ps : Array Value} {m : Str → Option Value}
    (ih : RoiAt w loose mean mg mb n) (G1 : Fl B fr1 s.heap) (X : (hd.heap_39 w.params).In B) (T : Top topProg loose mean mg mb B) (hA : dp + 2 * n + 6 < recursionLimit)
    (hC : cenv.frame = some C) (hCl : cenv.locals = C) (hk : cenv.scope.kind = .function) (hg1 : cenv.kindOf "group" = some .local) (hg2 : cenv.kindOf "list" = some .globalImplicit) (hg3 : cenv.kindOf "regex_opt_inner" = some .globalImplicit) (hge : cenv.globals = mainGlobals) (hbe : cenv.builtins = builtinsNs)
    (hns : s.heap.Ns C m) (hCB : B.objs.size ≤ C) (hCf : C ∉ fa fr1)
    (hP : s.heap.get? P = some (tupObj #[.bool b, .ref y])) (hPo : B.get? P = none)
    (hg : Gb s.heap x dx I (gbO dx I kf gn u (.bool b) (.str (S a) t) true true true ser u2 (.bool b)) (itObj l i)) (hr : Gr s.heap y dy I (grO dy x gn u3 (.bool b))) (ho : Out B (cenv :: fr1) x dx I) (hq : OutG B (cenv :: fr1) y dy)
    (hl : B.IsList l vs.toArray) (hvs : StrsAre vs (xs.map S)) (hxs : ∀ a ∈ xs, a ≠ [] ∧ a.length ≤ 100000) (hsz : xs.length ≤ 100000) (hkf : KeyFn w B kf f) (hko : FnAt kf B) (hi : i ≤ xs.length)
    (hT : s.heap.get? 145 = some (tabObj ps)) (h145 : B.get? 145 = none) (ht : TriplesOk ps.toList) (hlam : ∀ pos : Pos, pos.line = lamL → pos.col = lamC → codeAmong pos ps.toList = some (.ref c')) (hrec : B.CodeRec (.ref c') "regex_opt_inner.<locals>.<lambda>") (hc' : c' ≠ 145)
    (hm : msr (a :: (xs.drop i).takeWhile (f · == b)) ≤ 100000) (h64 : (a :: (xs.drop i).takeWhile (f · == b)).length < 64) (hri : Rise (a :: (xs.drop i).takeWhile (f · == b))) (hmn : msr (a :: (xs.drop i).takeWhile (f · == b)) < n)
    (ret : ∀ h' tk' t ps' g', Kw fr1 [C, y, dy, x, dx, I, 145] s.heap h' → After h' x dx I l kf gn ser u u2 b f xs.length ((xs.drop i).dropWhile (f · == b)) → h'.get? 145 = some (tabObj ps') → TriplesOk ps'.toList → TabGrow ps ps' → GensOk s.gens g' → (∃ m, h'.Ns C m) →
      Q (.str (S (roi n (a :: (xs.drop i).takeWhile (f · == b)) [])) t) { s with heap := h', toks := tk', gens := g' }) :
    wpAny (model PySem.Challenge.rw_ev0005_01.row.prog w) (Ar dp un (some (cenv :: fr1)) gd) (assign (.Name "group" py) cenv (.ref P)) (fun _ s₂ => wpAny (model PySem.Challenge.rw_ev0005_01.row.prog w) (Ar dp un (some (cenv :: fr1)) gd) (eval (eltX q1 q2 q3 q4 q5 q6 q7 q8 k1 k2) cenv) Q E s₂) E s := by
  revert X; k_fill; intro X
  have hcell : ∀ {b : Addr} {o : Obj} {v : Array Value}, s.heap.get? b = some o → o.data = .fields v → b ≠ C := fun e hd q => by
    obtain ⟨o', es, ep, ho', hd', _⟩ := hns
    rw [q, ho'] at e; cases e; rw [hd'] at hd; cases hd
  have hPC : P ≠ C := fun q => by
    obtain ⟨o', es, ep, ho', hd', _⟩ := hns
    rw [q, ho'] at hP; cases hP; cases hd'
  have n145 : (145 : Addr) ≠ C := hcell hT rfl
  refine wpAny_assign_Name (wpAny_storeName_local (m := m) hg1 (by rw [hCl]; exact hns) (fun h₂ hn₂ hs₂ => ?_) (by simp [hk]))
  rw [hCl] at hn₂ hs₂
  have up2 : ∀ b o, b ≠ C → s.heap.get? b = some o → h₂.get? b = some o := fun b o hb e => hs₂.extBut b o hb e
  have W2 : Kw fr1 [C] s.heap h₂ := ⟨fun b o _ q e => up2 b o (fun z => q (by rw [z]; exact .head _)) e, fun b o hb e => ⟨o.slots, up2 b o (fun z => hCf (by rw [← z]; exact hb)) e⟩⟩
  have hCn : B.get? C = none := Heap.get?_none_of_le hCB
  have G2 := G1.kw W2 (List.forall_mem_singleton.mpr ⟨hCn, hCf⟩)
  have F : Fr B C h₂ _ := ⟨hn₂, G2.kp, hCB⟩
  have G3 : Fl B (cenv :: fr1) h₂ := ⟨G2.kp, .cons (by rw [hk]; decide) hC hn₂ hCn G2.ff⟩
  have hfa : fa (cenv :: fr1) = C :: fa fr1 := by simp [fa, hC]
  have N : News B C h₂ [(P, tupObj #[.bool b, .ref y])] := List.forall_mem_singleton.mpr ⟨up2 _ _ hPC hP, hPC, hPo⟩
  have nC : ∀ {b : Addr}, B.get? b = none ∧ b ∉ fa (cenv :: fr1) → b ≠ C := fun h q => h.2 (by rw [hfa, q]; exact .head _)
  have hg2' : Gb h₂ x dx I (gbO dx I kf gn u (.bool b) (.str (S a) t) true true true ser u2 (.bool b)) (itObj l i) := ⟨up2 _ _ (nC ho.x) hg.gx, up2 _ _ (nC ho.d) hg.gd, up2 _ _ (nC ho.i) hg.gi, hg.dx_x, hg.x_I⟩
  have hr2 : Gr h₂ y dy I (grO dy x gn u3 (.bool b)) := ⟨up2 _ _ (nC hq.y) hr.gy, up2 _ _ (nC hq.d) hr.gd, hr.I_d, hr.d_y⟩
  have hT2 := up2 _ _ n145 hT
  walk1
  refine' nameG_K F X (topRead_of T) ?e ?_ hge hk hg3 (by decide)
  (case e => k_is)
  walk1
  walk1
  walk1
  refine' nameG_B F X (topRead_of T) ?e ?v ?n ?_ hge hbe hk hg2 (by decide)
  (case e => k_is)
  (case v => boot_by_name)
  (case n => decide)
  walk1
  walk1
  walk1
  refine ldG (env := cenv) (m := fun x => if x = "group" then some (.ref P) else m x) (by rw [hCl]; exact F) rfl ?_ hk hg1 (by decide)
  walk1
  refine item_tuple (items := #[.bool b, .ref y]) (j := 1) ⟨_, N.get (.head _), rfl, _, rfl⟩ (by decide) (by decide) rfl rfl ?_ (by with_unfolding_all rfl) (by intro _; with_unfolding_all rfl)
  walk1
  refine gr_list (B := B) F X G3 X T (by omega) ho hq hl hvs hxs hsz hkf hko hi hg2' hr2 fun h₃ tk₃ Lg acc cc W3 r3 hLn hL3 hacc hAf => ?_
  walk1
  walk1
  walk1
  have out5 : ∀ a ∈ [y, dy, x, dx, I], B.get? a = none ∧ a ∉ fa (cenv :: fr1) := by
    simp only [List.forall_mem_cons]
    exact ⟨hq.y, hq.d, ho.x, ho.d, ho.i, fun _ h => nomatch h⟩
  have n5 : ∀ a ∈ [y, dy, x, dx, I], a ≠ 145 := by
    simp only [List.forall_mem_cons]
    refine ⟨fun q => ?_, fun q => ?_, fun q => ?_, fun q => ?_, fun q => ?_, fun _ h => nomatch h⟩
    · have := hr.gy; rw [q, hT] at this; cases this
    · have := hr.gd; rw [q, hT] at this; cases this
    · have := hg.gx; rw [q, hT] at this; cases this
    · have := hg.gd; rw [q, hT] at this; cases this
    · have := hg.gi; rw [q, hT] at this; cases this
  have G4 : Fl B (cenv :: fr1) h₃ := G3.kw W3 out5
  have hf145 : (145 : Addr) ∉ fa (cenv :: fr1) := G3.cells hT2 rfl
  have hT3 : h₃.get? 145 = some (tabObj ps) := W3.keep _ _ hf145 (fun q => n5 _ q rfl) hT2
  have hrec3 : h₃.CodeRec (.ref c') "regex_opt_inner.<locals>.<lambda>" := let ⟨c, o, v, t, e, ho, r⟩ := hrec; ⟨c, o, v, t, e, G4.kp _ _ ho, r⟩
  have hLf : Lg ∉ fa (cenv :: fr1) := fun q => by
    obtain ⟨_, o, ho, _⟩ := G3.frame q
    have : h₂.get? Lg = none := hLn
    rw [this] at ho; cases ho
  have hL145 : Lg ≠ 145 := fun q => by
    have : h₂.get? Lg = none := hLn
    rw [q, hT2] at this; cases this
  have hBk : Kp B (hideAll h₃ (145 :: fa (cenv :: fr1))) := fun b o e => hideAll_get _ (G4.kp _ _ e) fun q => by
    rcases List.mem_cons.mp q with q | q
    · rw [q, h145] at e; cases e
    · rw [(G4.frame q).1] at e; cases e
  refine ⟨X.keeps G4.kp, ?_⟩
  rw [lit_0]
  obtain ⟨lacc, rfl⟩ : ∃ la : List Value, acc = la.toArray := ⟨acc.toList, by simp⟩
  refine' ih (B := hideAll h₃ (145 :: fa (cenv :: fr1))) (xs := a :: (xs.drop i).takeWhile (f · == b)) (p := []) ?G ?X ?T ?hA ?hP ?hT ?tab ?hl ?hv ?hx ?h64 ?hri ?hn ?hp ?_
  (case G => exact ⟨fun b o e => of_hideAll _ e, funFrames_hide G4.ff fun z hz a ha => List.mem_cons_of_mem _ (List.mem_filterMap.mpr ⟨z, hz, ha⟩)⟩)
  (case X => exact X.keeps hBk)
  (case T => exact T.keeps hBk)
  (case hA => exact hA)
  (case hP => exact ⟨hideAll_none _ (.head _), hf145⟩)
  (case hT => exact hT3)
  (case tab => exact ⟨ht, fun pos h1 h2 => .inr ⟨c', hlam pos h1 h2, hrec3, hc'⟩⟩)
  (case hl => exact ⟨_, hideAll_get _ hL3 (fun q => by
    rcases List.mem_cons.mp q with q | q
    · exact hL145 q
    · exact hLf q), rfl, cc, rfl⟩)
  (case hv => exact hacc)
  (case hx => exact hm)
  (case h64 => exact h64)
  (case hri => exact hri)
  (case hn => exact hmn)
  (case hp => exact .inl rfl)
  intro h₄ tk₄ t₄ ps₄ g₄ W4 hT4 hTab4 hG4
  have k4 : ∀ {q : Addr × Obj}, q.1 ∈ [y, dy, x, dx, I] → h₃.get? q.1 = some q.2 → h₄.get? q.1 = some q.2 := fun {q} hq e => W4.keep _ _ (out5 _ hq).2 (fun z => n5 _ hq (List.mem_singleton.mp z)) e
  refine ret h₄ tk₄ t₄ ps₄ g₄ ⟨fun b o p q e => ?_, fun b o p e => ?_⟩ ?_ hT4 hTab4.tri hG4.2 hG4.1 ?_
  · have p' : b ∉ fa (cenv :: fr1) := fun z => by
      rw [hfa] at z
      rcases List.mem_cons.mp z with z | z
      · exact q (z ▸ .head _)
      · exact p z
    refine W4.keep _ _ p' (fun z => q (List.mem_singleton.mp z ▸ by simp)) (W3.keep _ _ p' (fun z => q ?_) (up2 _ _ (fun z => q (z ▸ .head _)) e))
    simp only [List.mem_cons, List.not_mem_nil, or_false] at z ⊢
    rcases z with h | h | h | h | h <;> simp [h]
  · obtain ⟨s1, e1⟩ := W2.slot _ _ p e
    obtain ⟨s2, e2⟩ := W3.slot _ _ (by rw [hfa]; exact .tail _ p) e1
    obtain ⟨s3, e3⟩ := W4.slot _ _ (by rw [hfa]; exact .tail _ p) e2
    exact ⟨s3, e3⟩
  · have ox : x ∈ [y, dy, x, dx, I] := by simp
    have od : dx ∈ [y, dy, x, dx, I] := by simp
    have oi : I ∈ [y, dy, x, dx, I] := by simp
    generalize (xs.drop i).dropWhile (f · == b) = rs at hAf ⊢
    cases rs with
    | nil => exact let ⟨k, g⟩ := hAf; ⟨k, k4 (q := (x, _)) ox g.gx, k4 (q := (dx, _)) od g.gd, k4 (q := (I, _)) oi g.gi, g.dx_x, g.x_I⟩
    | cons r rs => exact let ⟨t, g⟩ := hAf; ⟨t, k4 (q := (x, _)) ox g.gx, k4 (q := (dx, _)) od g.gd, k4 (q := (I, _)) oi g.gi, g.dx_x, g.x_I⟩
  · obtain ⟨o, es, ep, e, hd, r⟩ := hn₂
    obtain ⟨s2, e2⟩ := W3.slot _ _ (by rw [hfa]; exact .head _) e
    obtain ⟨s3, e3⟩ := W4.slot _ _ (by rw [hfa]; exact .head _) e2
    exact ⟨_, _, es, ep, e3, hd, r⟩
end
end Mine
theorem Mine.off31 : True := by w_top off; trivial
-- P15m_groups
namespace Mine
theorem Kw.under {fr1 : List Env} {cenv : Env} {C : Addr} {mu : List Addr} {h h' : Heap} (hC : cenv.frame = some C) (W : Kw (cenv :: fr1) mu h h') : Kw fr1 (C :: mu) h h' := by
  have hfa : fa (cenv :: fr1) = C :: fa fr1 := by simp [fa, hC]
  refine ⟨fun b o p q e => W.keep b o (fun z => ?_) (fun z => q (.tail _ z)) e, fun b o p e => W.slot b o (by rw [hfa]; exact .tail _ p) e⟩
  rw [hfa] at z
  rcases List.mem_cons.mp z with z | z
  · exact q (z ▸ .head _)
  · exact p z
theorem Kw.ns {fr : List Env} {C : Addr} {mu : List Addr} {h h' : Heap} (W : Kw fr mu h h') (hC : C ∈ fa fr) {m : Str → Option Value} (n : h.Ns C m) : h'.Ns C m := by
  obtain ⟨o, es, ep, e, hd, r⟩ := n
  obtain ⟨s2, e2⟩ := W.slot _ _ hC e
  exact ⟨_, es, ep, e2, hd, r⟩
/-- the states of the groups: none told, one, two, the end -/
def Gst (f : List Nat → Bool) (x dx I l kf : Addr) (len : Nat) (b0 : List Nat) (r1 : List (List Nat)) : Nat → Heap → Prop
  | 0, h => ∃ u u2, Gb h x dx I (gbO dx I kf 0 u .none .none false false false 0 u2 .none) (itObj l 0)
  | 1, h => ∃ gn ser u u2, After h x dx I l kf gn ser u u2 true f len (b0 :: r1)
  | 2, h => ∃ gn ser u u2, After h x dx I l kf gn ser u u2 false f len []
  | _, _ => True
theorem Gb.to {h h' : Heap} {x dx I : Addr} {ox oi : Obj} (g : Gb h x dx I ox oi) (k : ∀ a ∈ [x, dx, I], ∀ o, h.get? a = some o → h'.get? a = some o) : Gb h' x dx I ox oi :=
  ⟨k _ (by simp) _ g.gx, k _ (by simp) _ g.gd, k _ (by simp) _ g.gi, g.dx_x, g.x_I⟩
theorem After.to {h h' : Heap} {x dx I l kf : Addr} {n ser : Int} {u u2 : Tok} {b : Bool} {f : List Nat → Bool} {len : Nat} {rs : List (List Nat)} (A : After h x dx I l kf n ser u u2 b f len rs) (k : ∀ a ∈ [x, dx, I], ∀ o, h.get? a = some o → h'.get? a = some o) :
    After h' x dx I l kf n ser u u2 b f len rs := by
  cases rs with
  | nil => exact let ⟨j, g⟩ := A; ⟨j, g.to k⟩
  | cons r rs => exact let ⟨t, g⟩ := A; ⟨t, g.to k⟩
theorem Gst.to {h h' : Heap} {f : List Nat → Bool} {x dx I l kf : Addr} {len : Nat} {b0 : List Nat} {r1 : List (List Nat)} (k : ∀ a ∈ [x, dx, I], ∀ o, h.get? a = some o → h'.get? a = some o) : ∀ {i : Nat}, Gst f x dx I l kf len b0 r1 i h → Gst f x dx I l kf len b0 r1 i h'
  | 0, g => let ⟨u, u2, g⟩ := g; ⟨u, u2, g.to k⟩
  | 1, g => let ⟨a, b, c, d, g⟩ := g; ⟨a, b, c, d, g.to k⟩
  | 2, g => let ⟨a, b, c, d, g⟩ := g; ⟨a, b, c, d, g.to k⟩
  | _ + 3, _ => trivial
/-- what of the generators' states stays, but for one -/
def GensG (g : Nat) (G0 G : Array GenState) : Prop := G0.size ≤ G.size ∧ (∀ i, i < G0.size → i ≠ g → G[i]? = G0[i]?) ∧ (AllBare G0 → AllBare G)
theorem GensG.ok {g : Nat} {G0 G G' : Array GenState} (x : GensG g G0 G) (y : GensOk G G') : GensG g G0 G' :=
  ⟨Nat.le_trans x.1 y.size, fun i hi hg => (y.same i (Nat.lt_of_lt_of_le hi x.1)).trans (x.2.1 i hi hg), fun b => y.bare (x.2.2 b)⟩
theorem GensG.set {g : Nat} {G0 : Array GenState} {s : Shared} {y : GenState} (x : GensG g G0 s.gens) (hy : y.bare = true) : GensG g G0 (s.setGen g y).gens := by
  refine ⟨by simpa [Shared.setGen] using x.1, fun i hi hg => ?_, fun b z hz => ?_⟩
  · rw [← x.2.1 i hi hg]
    simp [Shared.setGen, Ne.symm hg]
  · have hb := x.2.2 b
    obtain ⟨i, hi, rfl⟩ := Array.mem_iff_getElem.mp hz
    by_cases e : i = g
    · subst e
      simp [Shared.setGen, hy]
    · have hi' : i < s.gens.size := by simpa [Shared.setGen] using hi
      have h2 : (s.setGen g y).gens[i]? = s.gens[i]? := by simp [Shared.setGen, Ne.symm e]
      rw [Array.getElem?_eq_getElem hi, Array.getElem?_eq_getElem hi'] at h2
      rw [Option.some.inj h2]
      exact hb _ (Array.getElem_mem hi')
structure Jg (f : List Nat → Bool) (fr1 : List Env) (C x dx I l kf : Addr) (len : Nat) (b0 : List Nat) (r1 : List (List Nat)) (g : Nat) (ps : Array Value) (s0 : Shared) (i : Nat) (s : Shared) : Prop where
  kw : Kw fr1 [C, x, dx, I, 145] s0.heap s.heap
  os : s.os = s0.os
  dr : s.drawn = s0.drawn
  gens : GensG g s0.gens s.gens
  ns : ∃ m, s.heap.Ns C m
  tab : ∃ ps', s.heap.get? 145 = some (tabObj ps') ∧ TriplesOk ps'.toList ∧ TabGrow ps ps'
  st : Gst f x dx I l kf len b0 r1 i s.heap
section
variable {prog : Program} {f : List Nat → Bool} {fr1 : List Env} {B : Heap} {C x dx I l kf a : Addr} {len : Nat} {b0 : List Nat} {r1 : List (List Nat)} {g : Nat} {ps : Array Value} {s0 : Shared} {loose : List Str} {mean : ExcName → Option Value} {mg mb : Str → Option Value} {p : Program}
theorem Jg.prot (G1 : Fl B fr1 s0.heap) (T : Top p loose mean mg mb B) (hmu : ∀ b ∈ [C, x, dx, I, 145], B.get? b = none ∧ b ∉ fa fr1) (hin : ∀ b ∈ [C, x, dx, I, 145], b < s0.heap.objs.size) (ha : s0.heap.IsGen a g) (haf : a ∉ fa fr1) (ham : a ∉ [C, x, dx, I, 145]) (hgs : g < s0.gens.size) :
    Prot (Jg f fr1 C x dx I l kf len b0 r1 g ps s0) s0.heap.objs.size a g where
  frame := fun i s h' tk J k => by
    have k' : ∀ b ∈ [C, x, dx, I, 145], ∀ o, s.heap.get? b = some o → h'.get? b = some o := fun b hb o e => k b o (hin b hb) e
    refine ⟨⟨fun b o p q e => k b o (Heap.lt_size e) (J.kw.keep b o p q e), fun b o p e => let ⟨sl, e2⟩ := J.kw.slot b o p e; ⟨sl, k b _ (Heap.lt_size e) e2⟩⟩, J.os, J.dr, J.gens, ?_, ?_, J.st.to fun b hb o e => k' b (by simp at hb ⊢; rcases hb with h | h | h <;> simp [h]) o e⟩
    · obtain ⟨m, n⟩ := J.ns
      exact ⟨m, n.at' fun o e => k' _ (by simp) o e⟩
    · obtain ⟨ps', e, r⟩ := J.tab
      exact ⟨ps', k' _ (by simp) _ e, r⟩
  setgen := fun i s y J hy => ⟨J.kw, J.os, J.dr, J.gens.set hy, J.ns, J.tab, J.st⟩
  nolimit := fun i s J => T.nolimit.keeps (G1.kw J.kw hmu).kp
  isgen := fun i s J => let ⟨o, nm, qn, ho, r⟩ := ha; ⟨o, nm, qn, J.kw.keep _ _ haf ham ho, r⟩
  room := fun i s J => Nat.lt_of_lt_of_le hgs J.gens.1
end
end Mine
theorem Mine.off32 : True := by w_top off; trivial
-- P15n_gjoin
namespace Mine
theorem takeWhile_all {α : Type} {q : α → Bool} : ∀ {l : List α}, (∀ z ∈ l, q z = true) → l.takeWhile q = l
  | [], _ => rfl
  | a :: l, h => by rw [List.takeWhile_cons_of_pos (h a (.head _)), takeWhile_all fun z hz => h z (.tail _ hz)]
theorem dropWhile_all {α : Type} {q : α → Bool} : ∀ {l : List α}, (∀ z ∈ l, q z = true) → l.dropWhile q = []
  | [], _ => rfl
  | a :: l, h => by rw [List.dropWhile_cons_of_pos (h a (.head _)), dropWhile_all fun z hz => h z (.tail _ hz)]
section
variable {w : World} {dp un : Nat} {fr1 : List Env} {gd : Option (List Code)} {s : Shared} {Q E : Value → Shared → Prop} {loose : List Str} {mean : ExcName → Option Value} {mg mb : Str → Option Value}
theorem groups_join {q1 q2 q3 q4 q5 q6 q7 q8 py : Pos} {k1 k2 : Nat} {iter : Expr} {scope : Scope} {pos : Pos} {n : Nat} {B : Heap} {cenv : Env} {x dx I l kf C c' a g : Addr} {vs : List Value} {a0 b0 : List Nat} {r0 r1 : List (List Nat)} {u u2 tx : Tok} {f : List Nat → Bool} {ps : Array Value} {m : Str → Option Value}
    (ih : RoiAt w loose mean mg mb n) (G1 : Fl B fr1 s.heap) (X : (hd.heap_39 w.params).In B) (T : Top topProg loose mean mg mb B) (hA : dp + 2 * n + 7 < recursionLimit)
    (hC : cenv.frame = some C) (hCl : cenv.locals = C) (hk : cenv.scope.kind = .function) (hco : cenv.scope.isCoroutine = false) (hg1 : cenv.kindOf "group" = some .local) (hg2 : cenv.kindOf "list" = some .globalImplicit) (hg3 : cenv.kindOf "regex_opt_inner" = some .globalImplicit) (hge : cenv.globals = mainGlobals) (hbe : cenv.builtins = builtinsNs)
    (hns : s.heap.Ns C m) (hCB : B.objs.size ≤ C)
    (hmu : ∀ b ∈ [C, x, dx, I, 145], B.get? b = none ∧ b ∉ fa fr1) (hxC : ∀ b ∈ [x, dx, I], b ≠ C) (ha : s.heap.IsGen a g) (haf : a ∉ fa fr1) (ham : a ∉ [C, x, dx, I, 145])
    (hgen : s.gens[g]? = some (.fresh (CS (eltX q1 q2 q3 q4 q5 q6 q7 q8 k1 k2) iter "group" py scope pos x cenv)))
    (hg : Gb s.heap x dx I (gbO dx I kf 0 u .none .none false false false 0 u2 .none) (itObj l 0))
    (hl : B.IsList l vs.toArray) (hvs : StrsAre vs ((a0 :: r0).map S)) (hxs : ∀ a ∈ a0 :: r0, a ≠ [] ∧ a.length ≤ 100000) (h64 : (a0 :: r0).length < 64) (hri : Rise (a0 :: r0)) (hkf : KeyFn w B kf f) (hko : FnAt kf B)
    (hT : s.heap.get? 145 = some (tabObj ps)) (ht : TriplesOk ps.toList) (hlam : ∀ pos : Pos, pos.line = lamL → pos.col = lamC → codeAmong pos ps.toList = some (.ref c')) (hrec : B.CodeRec (.ref c') "regex_opt_inner.<locals>.<lambda>") (hc' : c' ≠ 145)
    (hfa : f a0 = true) (hdw : r0.dropWhile (f · == true) = b0 :: r1) (hall : ∀ z ∈ b0 :: r1, f z = false)
    (hm1 : msr (a0 :: r0.takeWhile (f · == true)) ≤ 100000) (hn1 : msr (a0 :: r0.takeWhile (f · == true)) < n) (hm2 : msr (b0 :: r1) ≤ 100000) (hn2 : msr (b0 :: r1) < n)
    (ret : ∀ h' tk' t g' ps', Kw fr1 [C, x, dx, I, 145] s.heap h' → h'.get? 145 = some (tabObj ps') → TriplesOk ps'.toList → TabGrow ps ps' → GensG g s.gens g' →
      Q (.str (S (roi n (a0 :: r0.takeWhile (f · == true)) [] ++ [124] ++ roi n (b0 :: r1) [])) t) { s with heap := h', toks := tk', gens := g' }) :
    wpAny (model PySem.Challenge.rw_ev0005_01.row.prog w) (Ar dp un (some fr1) gd) (call (.builtin "str.join") [.str (S [124]) tx, .ref a]) Q E s := by
  revert X; k_fill; intro X
  have hlt : ∀ b o, s.heap.get? b = some o → b < s.heap.objs.size := fun b o e => Heap.lt_size e
  have hin : ∀ b ∈ [C, x, dx, I, 145], b < s.heap.objs.size := by
    simp only [List.forall_mem_cons]
    exact ⟨hns.lt, hlt _ _ hg.gx, hlt _ _ hg.gd, hlt _ _ hg.gi, hlt _ _ hT, fun _ h => nomatch h⟩
  have hgs : g < s.gens.size := (Array.getElem?_eq_some_iff.mp hgen).1
  have P := Jg.prot (f := f) (l := l) (kf := kf) (len := (a0 :: r0).length) (b0 := b0) (r1 := r1) (ps := ps) G1 T hmu hin ha haf ham hgs
  generalize hJe : Jg f fr1 C x dx I l kf (a0 :: r0).length b0 r1 g ps s = J at P
  have hCn := hmu C (by simp)
  have hfaE : fa (cenv :: fr1) = C :: fa fr1 := by simp [fa, hC]
  -- what is at hand in a turn
  have grd : ∀ {i s1}, J i s1 → Fl B fr1 s1.heap ∧ Fl B (cenv :: fr1) s1.heap ∧ Out B (cenv :: fr1) x dx I := fun {i s1} hJ => by
    subst hJe
    have G2 := G1.kw hJ.kw hmu
    obtain ⟨m1, n1⟩ := hJ.ns
    have o : ∀ b ∈ [x, dx, I], B.get? b = none ∧ b ∉ fa (cenv :: fr1) := fun b hb => by
      have hb' := hmu b (by simp at hb ⊢; rcases hb with h | h | h <;> simp [h])
      refine ⟨hb'.1, fun z => ?_⟩
      rw [hfaE] at z
      rcases List.mem_cons.mp z with z | z
      · exact hxC b hb z
      · exact hb'.2 z
    exact ⟨G2, ⟨G2.kp, .cons (by rw [hk]; decide) hC n1 hCn.1 G2.ff⟩, ⟨o _ (by simp), o _ (by simp), o _ (by simp)⟩⟩
  have up : ∀ {mu : List Addr} {s1 s2 : Shared}, Kw (cenv :: fr1) mu s1.heap s2.heap → (∀ b ∈ mu, b < s.heap.objs.size ∨ s1.heap.get? b = none) → (∀ b ∈ fa fr1, b < s.heap.objs.size) → Up s.heap.objs.size s1 s2 := fun {mu s1 s2} W hb hf b o hN e => by
    refine W.keep b o (fun z => ?_) (fun z => ?_) e
    · rw [hfaE] at z
      rcases List.mem_cons.mp z with z | z
      · have := hin C (by simp)
        rw [z] at hN
        exact Nat.lt_irrefl _ (Nat.lt_of_lt_of_le this hN)
      · exact Nat.lt_irrefl _ (Nat.lt_of_lt_of_le (hf b z) hN)
    · rcases hb b z with h | h
      · exact Nat.lt_irrefl _ (Nat.lt_of_lt_of_le h hN)
      · rw [h] at e; cases e
  have hff : ∀ b ∈ fa fr1, b < s.heap.objs.size := fun b hb => let ⟨_, o, ho, _⟩ := G1.frame hb; hlt b o ho
  have mu3 : ∀ b ∈ [x, dx, I], b < s.heap.objs.size ∨ False := fun b hb => .inl (hin b (by simp at hb ⊢; rcases hb with h | h | h <;> simp [h]))
  have sub3 : ∀ b ∈ C :: [x, dx, I], b ∈ [C, x, dx, I, 145] := fun b hb => by simp at hb ⊢; rcases hb with h | h | h | h <;> simp [h]
  -- the end
  have seg2 : ∀ s₀ s1, J 2 s1 → Up s.heap.objs.size s₀ s1 → Seg (model PySem.Challenge.rw_ev0005_01.row.prog w) (Ar dp un (some fr1) gd).in1.in1.in1 (Rj J s.heap.objs.size 2) (Yj J s.heap.objs.size 2 [S (roi n (a0 :: r0.takeWhile (f · == true)) []), S (roi n (b0 :: r1) [])]) 0 s₀
      (CL (eltX q1 q2 q3 q4 q5 q6 q7 q8 k1 k2) iter "group" py scope pos x cenv) ((model PySem.Challenge.rw_ev0005_01.row.prog w).den (CL (eltX q1 q2 q3 q4 q5 q6 q7 q8 k1 k2) iter "group" py scope pos x cenv)) [] s1 := by
    intro s₀ s1 hJ hU
    refine seg_stop ?_
    obtain ⟨G2, G3, ho⟩ := grd hJ
    subst hJe
    obtain ⟨gn, ser, v1, v2, j, hAf⟩ := hJ.st
    have IA : InstAt s1.heap x _ 93 (some (dictOf [] 0)) := ⟨hAf.gx, rfl, rfl, hAf.gd⟩
    refine' next_inst (K := hd.heap_39 w.params) (C := 93) (f := 89) (X.keeps G3.kp) IA ?hs ?hf ?_
    (case hs => k_is)
    (case hf => k_is)
    show wpAny _ (Ar (dp + 1) _ (some (cenv :: fr1)) _) _ _ _ s1
    refine gb_end (B := B) G3 X T (by omega) hAf ho (.inr ⟨j, rfl⟩) fun h' tk' e k u R => ⟨e, rfl, R.there, rfl, rfl, rfl, ?_, ?_⟩
    · have W := R.kw
      refine ⟨hJ.kw.trans ((W.under hC).more sub3), hJ.os, hJ.dr, hJ.gens, let ⟨m1, n1⟩ := hJ.ns; ⟨m1, W.ns (by rw [hfaE]; exact .head _) n1⟩, ?_, trivial⟩
      obtain ⟨ps', e1, r⟩ := hJ.tab
      exact ⟨ps', W.keep _ _ (G3.cells e1 rfl) (fun z => by
        simp only [List.mem_cons, List.not_mem_nil, or_false] at z
        rcases z with z | z | z
        · rw [z] at e1; rw [hAf.gx] at e1; cases e1
        · rw [z] at e1; rw [hAf.gd] at e1; cases e1
        · rw [z] at e1; rw [hAf.gi] at e1; cases e1) e1, r⟩
    · exact hU.trans (up (s2 := { s1 with heap := h', toks := tk' }) R.kw (fun b hb => (mu3 b hb).imp id False.elim) hff)
  have n145 : ∀ b ∈ [x, dx, I], (145 : Addr) ≠ b := by
    simp only [List.forall_mem_cons]
    refine ⟨fun z => ?_, fun z => ?_, fun z => ?_, fun _ h => nomatch h⟩
    · rw [z, hg.gx] at hT; cases hT
    · rw [z, hg.gd] at hT; cases hT
    · rw [z, hg.gi] at hT; cases hT
  have m145 : (145 : Addr) ∉ [x, dx, I] := fun z => n145 _ z rfl
  have out4 : ∀ b ∈ C :: [x, dx, I], B.get? b = none ∧ b ∉ fa fr1 := fun b hb => hmu b (sub3 b hb)
  have two : ∀ {s1 : Shared} {h' h'' : Heap} {y dy : Addr}, Kw (cenv :: fr1) [x, dx, I] s1.heap h' → Kw fr1 [C, y, dy, x, dx, I, 145] h' h'' → s1.heap.get? y = none → s1.heap.get? dy = none → Kw fr1 [C, x, dx, I, 145] s1.heap h'' := fun {s1 h' h'' y dy} W V ny nd => by
    have W' := W.under hC
    refine ⟨fun b o p q e => V.keep b o p (fun z => ?_) (W'.keep b o p (fun z => q (sub3 b z)) e), fun b o p e => ?_⟩
    · simp only [List.mem_cons, List.not_mem_nil, or_false] at z q
      rcases z with h | h | h | h | h | h | h
      · exact q (.inl h)
      · rw [h, ny] at e; cases e
      · rw [h, nd] at e; cases e
      · exact q (.inr (.inl h))
      · exact q (.inr (.inr (.inl h)))
      · exact q (.inr (.inr (.inr (.inl h))))
      · exact q (.inr (.inr (.inr (.inr h))))
    · obtain ⟨sl, e1⟩ := W'.slot b o p e
      obtain ⟨sl2, e2⟩ := V.slot b _ p e1
      exact ⟨sl2, e2⟩
  have up5 : ∀ {s1 s2 : Shared}, Kw fr1 [C, x, dx, I, 145] s1.heap s2.heap → Up s.heap.objs.size s1 s2 := fun {s1 s2} W b o hN e =>
    W.keep b o (fun z => Nat.lt_irrefl _ (Nat.lt_of_lt_of_le (hff b z) hN)) (fun z => Nat.lt_irrefl _ (Nat.lt_of_lt_of_le (hin b z) hN)) e
  have body : ∀ (s₀ s1 : Shared) (j mm : Nat) (aa : List Nat) (i : Nat) (h' : Heap) (tk' : Nat) (Pt y dy : Addr) (v1 v2 v3 : Tok) (gn ser : Int) (t : Tok) (bb : Bool) (gl : List (List Nat)), J j s1 → Up s.heap.objs.size s₀ s1 → 2 - mm = j + 1 → 2 - 1 - mm = j →
      Kw (cenv :: fr1) [x, dx, I] s1.heap h' → Gb h' x dx I (gbO dx I kf gn v1 (.bool bb) (.str (S aa) t) true true true ser v2 (.bool bb)) (itObj l i) → Gr h' y dy I (grO dy x gn v3 (.bool bb)) → h'.get? Pt = some (tupObj #[.bool bb, .ref y]) →
      s1.heap.get? Pt = none → s1.heap.get? y = none → s1.heap.get? dy = none → i ≤ (a0 :: r0).length → aa :: ((a0 :: r0).drop i).takeWhile (f · == bb) = gl → msr gl ≤ 100000 → gl.length < 64 → Rise gl → msr gl < n →
      (∀ h'' gn ser v v2, After h'' x dx I l kf gn ser v v2 bb f (a0 :: r0).length (((a0 :: r0).drop i).dropWhile (f · == bb)) → Gst f x dx I l kf (a0 :: r0).length b0 r1 (j + 1) h'') →
      [S (roi n (a0 :: r0.takeWhile (f · == true)) []), S (roi n (b0 :: r1) [])][j]? = some (S (roi n gl [])) →
      (∀ s'', J (j + 1) s'' → Seg (model PySem.Challenge.rw_ev0005_01.row.prog w) (Ar dp un (some fr1) gd).in1.in1.in1 (Rj J s.heap.objs.size 2) (Yj J s.heap.objs.size 2 [S (roi n (a0 :: r0.takeWhile (f · == true)) []), S (roi n (b0 :: r1) [])]) mm s''
        (CL (eltX q1 q2 q3 q4 q5 q6 q7 q8 k1 k2) iter "group" py scope pos x cenv) ((model PySem.Challenge.rw_ev0005_01.row.prog w).den (CL (eltX q1 q2 q3 q4 q5 q6 q7 q8 k1 k2) iter "group" py scope pos x cenv)) [] s'') →
      ∀ un' gd', wpAny (model PySem.Challenge.rw_ev0005_01.row.prog w) (Ar (dp + 1) un' (some (cenv :: fr1)) gd') (assign (.Name "group" py) cenv (.ref Pt)) (fun _ s₂ => wpAny (model PySem.Challenge.rw_ev0005_01.row.prog w) (Ar (dp + 1) un' (some (cenv :: fr1)) gd') (eval (eltX q1 q2 q3 q4 q5 q6 q7 q8 k1 k2) cenv) (fun u s₃ =>
        ∀ kap : Resume → Shared → Prop, (∀ s'', Seg (model PySem.Challenge.rw_ev0005_01.row.prog w) (Ar dp un (some fr1) gd).in1.in1.in1 (Rj J s.heap.objs.size 2) (Yj J s.heap.objs.size 2 [S (roi n (a0 :: r0.takeWhile (f · == true)) []), S (roi n (b0 :: r1) [])]) mm s''
          (CL (eltX q1 q2 q3 q4 q5 q6 q7 q8 k1 k2) iter "group" py scope pos x cenv) ((model PySem.Challenge.rw_ev0005_01.row.prog w).den (CL (eltX q1 q2 q3 q4 q5 q6 q7 q8 k1 k2) iter "group" py scope pos x cenv)) [] s'' → kap (.send .none) s'') →
        Yj J s.heap.objs.size 2 [S (roi n (a0 :: r0.takeWhile (f · == true)) []), S (roi n (b0 :: r1) [])] mm s₀ u s₃ kap) (fun _ _ => False) s₂) (fun _ _ => False) { s1 with heap := h', toks := tk' } := by
    intro s₀ s1 j mm aa i h' tk' Pt y dy v1 v2 v3 gn ser t bb gl hJ hU e1 e2 W hgb hgr hPt nP ny nd hi hgl hm hl64 hgri hmn hst hys hnext un' gd'
    obtain ⟨G2, G3, ho⟩ := grd hJ
    subst hgl
    have hJ' := hJ
    rw [← hJe] at hJ'
    obtain ⟨ps', eT, tri', grow'⟩ := hJ'.tab
    obtain ⟨m1, n1⟩ := hJ'.ns
    have nB : ∀ {b}, s1.heap.get? b = none → B.get? b = none := fun {b} e => by
      cases q : B.get? b with
      | none => rfl
      | some o => have := G2.kp _ _ q; rw [e] at this; cases this
    have nf : ∀ {b}, s1.heap.get? b = none → b ∉ fa (cenv :: fr1) := fun {b} e z => by
      obtain ⟨_, o, ho', _⟩ := G3.frame z
      rw [e] at ho'; cases ho'
    refine turn_body (B := B) (c' := c') (ps := ps') (vs := vs) (xs := a0 :: r0) (i := i) (f := f) ih (G2.kw (W.under hC) out4) X T (by omega) hC hCl hk hg1 hg2 hg3 hge hbe (W.ns (by rw [hfaE]; exact .head _) n1) hCB hCn.2 hPt (nB nP) hgb hgr ho
      ⟨⟨nB ny, nf ny⟩, ⟨nB nd, nf nd⟩⟩ hl hvs hxs (by omega) hkf hko hi (W.keep _ _ (G3.cells eT rfl) m145 eT) (hmu 145 (by simp)).1 tri' (fun pos h1 h2 => grow' _ _ (hlam pos h1 h2)) hrec hc' hm hl64 hgri hmn
      fun h'' tk'' t'' ps'' g'' V hAf hT'' tri'' grow'' hG'' hns'' kap hkap => ?_
    have W2 := two W V ny nd
    have hJn : J (j + 1) { s1 with heap := h'', toks := tk'', gens := g'' } := by
      rw [← hJe]
      exact ⟨hJ'.kw.trans W2, hJ'.os, hJ'.dr, hJ'.gens.ok hG'', hns'', ⟨ps'', hT'', tri'', fun q v e => grow'' _ _ (grow' _ _ e)⟩, hst _ _ _ _ _ hAf⟩
    refine ⟨⟨_, _, by rw [e2]; exact hys, rfl⟩, by rw [e1]; exact hJn, hU.trans (up5 W2), fun s'' hs'' => hkap s'' (hnext s'' (by rw [← e1]; exact hs''))⟩
  have hr0 : r0 = r0.takeWhile (f · == true) ++ b0 :: r1 := by rw [← hdw]; exact (List.takeWhile_append_dropWhile).symm
  have hdrop : (a0 :: r0).drop ((a0 :: r0).length - r1.length) = r1 := by
    generalize r0.takeWhile (f · == true) = tw at hr0
    have e : a0 :: r0 = (a0 :: tw ++ [b0]) ++ r1 := by rw [hr0]; simp
    have e2 : (a0 :: r0).length - r1.length = (a0 :: tw ++ [b0]).length := by rw [e, List.length_append]; omega
    rw [e2, e, List.drop_left]
  have hlen1 : (b0 :: r1).length < 64 := by
    have := congrArg List.length hr0
    simp only [List.length_append, List.length_cons] at this h64 ⊢
    omega
  have hlen0 : (a0 :: r0.takeWhile (f · == true)).length < 64 := by
    have := congrArg List.length hr0
    simp only [List.length_append, List.length_cons] at this h64 ⊢
    omega
  have hri0 : Rise (a0 :: r0.takeWhile (f · == true)) := hri.sublist ((List.takeWhile_sublist _).cons_cons _)
  have hri1 : Rise (b0 :: r1) := by rw [← hdw]; exact hri.sublist ((List.dropWhile_sublist _).trans (List.sublist_cons_self ..))
  have hfb : f b0 = false := hall _ (.head _)
  have htw1 : r1.takeWhile (f · == false) = r1 := takeWhile_all fun z hz => by simpa using hall z (.tail _ hz)
  have hdw1 : r1.dropWhile (f · == false) = [] := dropWhile_all fun z hz => by simpa using hall z (.tail _ hz)
  have seg1 : ∀ s₀ s1, J 1 s1 → Up s.heap.objs.size s₀ s1 → Seg (model PySem.Challenge.rw_ev0005_01.row.prog w) (Ar dp un (some fr1) gd).in1.in1.in1 (Rj J s.heap.objs.size 2) (Yj J s.heap.objs.size 2 [S (roi n (a0 :: r0.takeWhile (f · == true)) []), S (roi n (b0 :: r1) [])]) 1 s₀ (CL (eltX q1 q2 q3 q4 q5 q6 q7 q8 k1 k2) iter "group" py scope pos x cenv) ((model PySem.Challenge.rw_ev0005_01.row.prog w).den (CL (eltX q1 q2 q3 q4 q5 q6 q7 q8 k1 k2) iter "group" py scope pos x cenv)) [] s1 := by
    intro s₀ s1 hJ hU
    refine seg_turn hco ?_
    obtain ⟨G2, G3, ho⟩ := grd hJ
    have hJ' := hJ
    rw [← hJe] at hJ'
    obtain ⟨gn, ser, v1, v2, t, hAf⟩ := hJ'.st
    rw [hfb] at hAf
    have IA : InstAt s1.heap x _ 93 (some (dictOf [] 0)) := ⟨hAf.gx, rfl, rfl, hAf.gd⟩
    refine' next_inst (K := hd.heap_39 w.params) (C := 93) (f := 89) (X.keeps G3.kp) IA ?hs ?hf ?_
    (case hs => k_is)
    (case hf => k_is)
    show wpAny _ (Ar (dp + 1) _ (some (cenv :: fr1)) _) _ _ _ s1
    refine gb_second (B := B) G3 X T (by omega) hAf ho (by decide) fun h' tk' Pt y dy v3 v4 v5 W hgb hgr hPt nP ny nd => ⟨_, rfl, ?_⟩
    exact body s₀ s1 1 0 b0 ((a0 :: r0).length - r1.length) h' tk' Pt y dy _ _ _ _ _ _ false (b0 :: r1) hJ hU rfl rfl W hgb hgr hPt nP ny nd (Nat.sub_le ..) (by rw [hdrop, htw1]) hm2 hlen1 hri1 hn2
      (fun h'' gn ser v v2 hAf => by rw [hdrop, hdw1] at hAf; exact ⟨_, _, _, _, hAf⟩) rfl (fun s'' hs'' => seg2 s'' s'' hs'' .refl) _ _
  have seg0 : ∀ s₀ s1, J 0 s1 → Up s.heap.objs.size s₀ s1 → Seg (model PySem.Challenge.rw_ev0005_01.row.prog w) (Ar dp un (some fr1) gd).in1.in1.in1 (Rj J s.heap.objs.size 2) (Yj J s.heap.objs.size 2 [S (roi n (a0 :: r0.takeWhile (f · == true)) []), S (roi n (b0 :: r1) [])]) 2 s₀ (CL (eltX q1 q2 q3 q4 q5 q6 q7 q8 k1 k2) iter "group" py scope pos x cenv) ((model PySem.Challenge.rw_ev0005_01.row.prog w).den (CL (eltX q1 q2 q3 q4 q5 q6 q7 q8 k1 k2) iter "group" py scope pos x cenv)) [] s1 := by
    intro s₀ s1 hJ hU
    refine seg_turn hco ?_
    obtain ⟨G2, G3, ho⟩ := grd hJ
    have hJ' := hJ
    rw [← hJe] at hJ'
    obtain ⟨v1, v2, hAf⟩ := hJ'.st
    obtain ⟨t0, ht0⟩ := strsAre_at hvs (i := 0) (y := S a0) rfl
    have IA : InstAt s1.heap x _ 93 (some (dictOf [] 0)) := ⟨hAf.gx, rfl, rfl, hAf.gd⟩
    refine' next_inst (K := hd.heap_39 w.params) (C := 93) (f := 89) (X.keeps G3.kp) IA ?hs ?hf ?_
    (case hs => k_is)
    (case hf => k_is)
    show wpAny _ (Ar (dp + 1) _ (some (cenv :: fr1)) _) _ _ _ s1
    refine gb_first (B := B) (i := 0) (items := vs.toArray) (a := a0) (t := t0) (f := f) G3 X T (by omega) hAf ho (hl.at fun o e => G3.kp _ o e) (by simpa using ht0) (hxs a0 (.head _)) hkf hko fun h' tk' Pt y dy v3 v4 v5 W hgb hgr hPt nP ny nd => ⟨_, rfl, ?_⟩
    rw [hfa] at hgb hgr hPt
    exact body s₀ s1 0 1 a0 1 h' tk' Pt y dy _ _ _ _ _ _ true (a0 :: r0.takeWhile (f · == true)) hJ hU rfl rfl W hgb hgr hPt nP ny nd (by simp) rfl hm1 hlen0 hri0 hn1
      (fun h'' gn ser v v2 hAf => ⟨_, _, _, _, by
        have e : ((a0 :: r0).drop 1).dropWhile (f · == true) = b0 :: r1 := hdw
        rw [e] at hAf; exact hAf⟩) rfl (fun s'' hs'' => seg1 s'' s'' hs'' .refl) _ _
  have hl1 := roi_len n (a0 :: r0.takeWhile (f · == true)) [] (by simp)
  have hl2 := roi_len n (b0 :: r1) [] (by simp)
  have hl0 : ([] : List Nat).length = 0 := rfl
  have hJ0 : J 0 s := by
    rw [← hJe]
    exact ⟨.refl, rfl, rfl, ⟨Nat.le_refl _, fun _ _ _ => rfl, id⟩, ⟨m, hns⟩, ⟨ps, hT, ht, fun _ _ e => e⟩, ⟨u, u2, hg⟩⟩
  refine joinJ (n := 2) (ys := [S (roi n (a0 :: r0.takeWhile (f · == true)) []), S (roi n (b0 :: r1) [])]) P rfl (show dp < recursionLimit by omega) (by decide) (Nat.le_refl _) rfl ⟨hJ0, _, hgen, fun s'' hJ => ⟨rfl, seg_begin ?_ (seg0 s'' s'' hJ .refl)⟩⟩ ?_ fun s' t k hJ => ?_
  · obtain ⟨G2, G3, ho⟩ := grd hJ
    have hJ' := hJ
    rw [← hJe] at hJ'
    obtain ⟨v1, v2, hAf⟩ := hJ'.st
    obtain ⟨m1, n1⟩ := hJ'.ns
    have IA : InstAt s''.heap x _ 93 (some (dictOf [] 0)) := ⟨hAf.gx, rfl, rfl, hAf.gd⟩
    have F : Fr B C s''.heap m1 := ⟨n1, G3.kp, hCB⟩
    refine' owit_iter F X IA ?hs ?hf ?_
    (case hs => k_is)
    (case hf => k_is)
    show wpAny _ (Ar (dp + 1) _ (some (cenv :: fr1)) _) _ _ _ s''
    refine gb_iter (B := B) G3.kp X T (by omega) fun h₃ tk₃ hk3 => ?_
    have IA3 : InstAt h₃ x _ 93 (some (dictOf [] 0)) := ⟨hk3 _ _ hAf.gx, rfl, rfl, hk3 _ _ hAf.gd⟩
    refine' owit_it (F.keeps hk3) X IA3 ?hs ?_
    (case hs => k_is)
    exact ⟨rfl, seg0 s'' _ (P.frame 0 s'' h₃ tk₃ hJ fun b o _ e => hk3 b o e) fun b o _ e => hk3 b o e⟩
  · refine joinOk_of ?_
    simp only [List.map_cons, List.map_nil, List.sum_cons, List.sum_nil, S_len, List.length_cons, List.length_nil]
    omega
  · rw [← hJe] at hJ
    obtain ⟨ps', e, tri, grow⟩ := hJ.tab
    obtain ⟨h', g', dr, tk', os⟩ := s'
    obtain rfl : os = s.os := hJ.os
    obtain rfl : dr = s.drawn := hJ.dr
    have ej : Txt.join (S [124]) [S (roi n (a0 :: r0.takeWhile (f · == true)) []), S (roi n (b0 :: r1) [])] = S (roi n (a0 :: r0.takeWhile (f · == true)) [] ++ [124] ++ roi n (b0 :: r1) []) := by
      rw [show ∀ l, Txt.join (S [124]) l = Str.join (S [124]) l from fun l => StrLaws.glued_eq_join _ l]
      show S _ ++ S [124] ++ Str.join (S [124]) [S _] = _
      show S _ ++ S [124] ++ S _ = _
      rw [S_app, S_app]
    rw [ej]
    exact ret h' k t g' ps' hJ.kw e tri grow hJ.gens
end
end Mine
theorem Mine.off33 : True := by w_top off; trivial
-- P15o_misc
namespace Mine
theorem among_congr {p q : Pos} (h1 : p.line = q.line) (h2 : p.col = q.col) (l : List Value) : codeAmong p l = codeAmong q l := by
  fun_induction codeAmong p l with
  | case1 a t b u c r h => simp_all [codeAmong]
  | case2 a t b u c r h ih => simp_all [codeAmong]
  | case3 l h =>
    unfold codeAmong
    split
    · exact absurd rfl (h _ _ _ _ _ _)
    · rfl
theorem GensG.out {G G' : Array GenState} {x : GenState} (hb : x.bare = true) (h : GensG G.size (G.push x) G') : GensOk G G' :=
  ⟨Nat.le_trans (by simp) h.1, fun i hi => by
    rw [h.2.1 i (by simp; omega) (by omega), Array.getElem?_push, if_neg (by omega)], fun b => h.2.2 (b.push hb)⟩
theorem tabSet {h₀ h h' : Heap} {L P : Addr} {m : Str → Option Value} {own rest : List (Addr × Obj)} {o o' : Obj} (F : Fr h₀ L h m) (N : News h₀ L h (own ++ (P, o) :: rest)) (hne : ∀ q ∈ own ++ rest, q.1 ≠ P)
    (hk : ∀ b ob, b ≠ P → h.get? b = some ob → h'.get? b = some ob) (ho : h'.get? P = some o') : Fr h₀ L h' m ∧ News h₀ L h' (own ++ (P, o') :: rest) := by
  have hP := N (P, o) (List.mem_append_right _ (.head _))
  refine backB (mu := [P]) F N (fun b ob hb e => hk b ob (fun z => hb (List.mem_singleton.mpr z)) e) (List.forall_mem_singleton.mpr ⟨hP.2.2, hP.2.1⟩) fun q hq => ?_
  rcases List.mem_append.mp hq with hq | hq
  · exact .inr ⟨List.mem_append_left _ hq, fun z => hne q (List.mem_append_left _ hq) (List.mem_singleton.mp z)⟩
  · rcases List.mem_cons.mp hq with rfl | hq
    · exact .inl ⟨ho, .inr (.head _)⟩
    · exact .inr ⟨List.mem_append_right _ (.tail _ hq), fun z => hne q (List.mem_append_right _ hq) (List.mem_singleton.mp z)⟩
theorem isL_frame {B h : Heap} {fr : List Env} {l : Addr} {its : Array Value} (G : Fl B fr h) (hl : B.IsList l its) : l ∉ fa fr := fun z => by
  obtain ⟨o, ho, _⟩ := hl
  rw [(G.frame z).1] at ho; cases ho
theorem rec_keeps {h h' : Heap} {c : Value} {q : Str} (k : Kp h h') (x : h.CodeRec c q) : h'.CodeRec c q := let ⟨a1, a2, a3, a4, a5, a6, a7⟩ := x; ⟨a1, a2, a3, a4, a5, k _ _ a6, a7⟩
theorem ne_nil_le {x a : List Nat} (hx : x ≠ []) (h : x ≤ a) : a ≠ [] := by
  rintro rfl
  cases x with
  | nil => exact hx rfl
  | cons c x => exact List.not_lt.mpr h (List.nil_lt_cons ..)
theorem size_none (h : Heap) : h.get? h.objs.size = none := Heap.get?_none_of_le (Nat.le_refl _)
theorem memOf4 {h₀ h : Heap} {L x dx I f P : Addr} {a b c d e : Obj} {rest : List (Addr × Obj)} (_N : News h₀ L h ((x, a) :: (dx, b) :: (I, c) :: (f, d) :: (P, e) :: rest)) : ∀ q ∈ [P, x, dx, I], ∃ o, (q, o) ∈ ((x, a) :: (dx, b) :: (I, c) :: (f, d) :: (P, e) :: rest) :=
  List.forall_mem_cons.mpr ⟨⟨_, .tail _ (.tail _ (.tail _ (.tail _ (.head _))))⟩, List.forall_mem_cons.mpr ⟨⟨_, .head _⟩, List.forall_mem_cons.mpr ⟨⟨_, .tail _ (.head _)⟩, List.forall_mem_singleton.mpr ⟨_, .tail _ (.tail _ (.head _))⟩⟩⟩⟩
end Mine
theorem Mine.off34 : True := by w_top off; trivial
-- P16_roi
namespace Mine
section
variable {w : World} {loose : List Str} {mean : ExcName → Option Value} {mg mb : Str → Option Value}
theorem roi_c (n : Nat) : RoiAt w loose mean mg mb n := by
  unfold RoiAt
  induction n with
  | zero =>
    intros
    rename msr _ < 0 => h
    exact absurd h (Nat.not_lt_zero _)
  | succ n ih =>
    intro dp un fr gd s Q E B l vs xs p tp ps G X T hA hP hT hTab hl hvs hx h64 hri hn hp ret
    revert X; k_fill; intro X
    have hC0 : ∀ h : Heap, (hd.heap_39 w.params).In h → CodeHd h 147 145 := fun h X => ⟨_, _, _, _, _, _, _, _, _, X 147 _ (by k_is), rfl, rfl, rfl, rfl, rfl, rfl, rfl, rfl, by decide⟩
    have hN : ∀ q ∈ [((145 : Addr), tabObj ps)], s.heap.get? q.1 = some q.2 ∧ B.get? q.1 = none := List.forall_mem_singleton.mpr ⟨hT, hP.1⟩
    have h145 : @LT.lt Nat _ 145 s.heap.objs.size := Heap.lt_size hT
    have G0 : Fl B fr (But s [(145, tabObj ps)]) := G.but (List.forall_mem_singleton.mpr hP)
    refine' enterC [(145, tabObj ps)] G.kp hN ?k1 ?k2 ?k6 ?k7 ?k8 ?k9 ?kB ?kD ?_ ?c2 ?c3 ?c4
    walk_at "M enterC"
    intro h₁ tk₁ cells XB TB F N Y
    k_cells Y
    (try simp only [List.cons_append, List.nil_append] at N)
    walk1
    walk1
    refine wpAny_mono (Q := fun v s' => ∃ tk' t, v = .str (S (cls p)) t ∧ s' = { s with heap := h₁, toks := tk' }) ?_ (fun v s' hv => ?_) (fun _ _ z => z)
    · rcases hp with rfl | rfl | rfl
      · walk_at "M steps"
        walk_at "M go"
        exact ⟨_, _, congrArg (Value.str · _) (by decide), rfl⟩
      · walk_at "M steps"
        walk_at "M go"
        exact ⟨_, _, congrArg (Value.str · _) (by decide), rfl⟩
      · walk_at "M steps"
        walk_at "M go"
        exact ⟨_, _, congrArg (Value.str · _) (by decide), rfl⟩
    obtain ⟨tk₂, t₂, rfl, rfl⟩ := hv
    have hlen : vs.length = xs.length := by rw [strsLen hvs, List.length_map]
    have hml := len_le_msr xs
    have hpl : p.length ≤ 3 := by rcases hp with rfl | rfl | rfl <;> decide
    have hcl := cls_len p
    have hdp : (Ar dp un (some fr) gd).depth = dp := rfl
    have hNf : ∀ q ∈ [((145 : Addr), tabObj ps)], q.1 ∉ fa fr := List.forall_mem_singleton.mpr hP.2
    have hl1 : (But s [(145, tabObj ps)]).IsList l vs.toArray := hl.at fun o e => (but_base G.kp fun q hq => (hN q hq).2) _ _ e
    rcases xs with _ | ⟨x, _ | ⟨y, r⟩⟩
    · cases hvs
      walk_at "M steps"
      (with_reducible rename Fr _ _ _ _ => F); (with_reducible rename News _ _ _ _ => N)
      dsimp only
      have W := Kw.fin .refl F.keep hNf
      rw [lit_0]
      exact ret _ _ _ ps _ W (N.get (.tail _ (.tail _ (.tail _ (.head _))))) (hTab.kw G W) ⟨.refl, fun _ _ h => h⟩
    · cases hvs with
      | cons _ t0 hvs =>
        cases hvs
        simp only [List.length_cons, List.length_nil] at hml hlen
        have hxl : x.length + 1 ≤ msr [x] := mem_le_msr (.head _)
        have hel := escL_len x
        have hbad : ∀ P : Prop, (((([Value.str (S x) t0] : List Value).length : Nat) : Int) ≠ 1) → P := fun _ h => absurd rfl h
        walk_at "M steps"
        · walk_at "M go"
          (with_reducible rename Fr _ _ _ _ => F); (with_reducible rename News _ _ _ _ => N)
          refine ⟨by k_in, ?_⟩
          refine escape_c (XB.keeps F.keep) (TB.keeps F.keep) (by omega) (by omega) fun h₃ tk₃ t₃ hk3 => ?_
          obtain ⟨F2, N2⟩ := frK F N hk3
          clear F N
          walk_at "M steps"
          (with_reducible rename Fr _ _ _ _ => F); (with_reducible rename News _ _ _ _ => N)
          dsimp only
          simp only [S_app]
          have W := Kw.fin .refl F.keep hNf
          exact ret _ _ _ ps _ W (N.get (.tail _ (.tail _ (.tail _ (.head _))))) (hTab.kw G W) ⟨.refl, fun _ _ h => h⟩
        all_goals exact hbad _ (by assumption)
    · cases hvs with
      | cons _ t0 hvs =>
        cases hvs with
        | cons _ t1 hvs =>
          simp only [List.length_cons] at hml hlen
          have hxl : x.length + 1 ≤ msr (x :: y :: r) := mem_le_msr (.head _)
          have hbad : ∀ (P : Prop) (a b : Value) (tl : List Value), (((a :: b :: tl).length : Nat) : Int) = 1 → P := fun P a b tl h => by
            simp only [List.length_cons] at h; omega
          walk_at "M steps"
          · exact hbad _ _ _ _ (by assumption)
          · rename x.isEmpty = true => hemp
            obtain rfl := List.isEmpty_iff.mp hemp
            have hrl := roi_len n (y :: r) opn (by simp)
            have hms := msr_cons [] (y :: r)
            have hopn : opn.length = 3 := rfl
            simp only [List.length_nil] at hms
            walk_at "M go"
            (with_reducible rename Fr _ _ _ _ => F); (with_reducible rename News _ _ _ _ => N)
            refine ⟨by k_in, ?_⟩
            rw [lit_8]
            rename _ ∧ _ ∧ _ ∧ _ => lD
            refine' ih (xs := y :: r) (p := opn) ?G ?X ?T ?hA ?hP ?hT ?tab ?hl ?hv ?hx ?h64 ?hri ?hn ?hp ?_
            (case G => exact in_fl (M := [145]) G0 F N (List.forall_mem_singleton.mpr ⟨_, (.tail _ (.tail _ (.tail _ (.tail _ (.head _)))))⟩) (by rfl) (by rfl))
            (case X => exact X.keeps (in_kp G0 F N (List.forall_mem_singleton.mpr ⟨_, (.tail _ (.tail _ (.tail _ (.tail _ (.head _)))))⟩) (by rfl) (by rfl)))
            (case T => exact T.keeps (in_kp G0 F N (List.forall_mem_singleton.mpr ⟨_, (.tail _ (.tail _ (.tail _ (.tail _ (.head _)))))⟩) (by rfl) (by rfl)))
            (case hA => omega)
            (case hP => exact in_mu G0 F N (List.forall_mem_singleton.mpr ⟨_, (.tail _ (.tail _ (.tail _ (.tail _ (.head _)))))⟩) (by rfl) (by rfl) (.head _))
            (case hT => exact N.get (.tail _ (.tail _ (.tail _ (.tail _ (.head _))))))
            (case tab => exact hTab.kw G (Kw.fin .refl F.keep hNf))
            (case hl => exact in_list G0 F N (List.forall_mem_singleton.mpr ⟨_, (.tail _ (.tail _ (.tail _ (.tail _ (.head _)))))⟩) (by rfl) (by rfl) (.head _) (nin (List.forall_mem_singleton.mpr (neN (by (try dsimp only); omega)))))
            (case hv => exact .cons _ _ hvs)
            (case hx => omega)
            (case h64 => simp only [List.length_cons] at h64 ⊢; omega)
            (case hri => exact (List.pairwise_cons.mp hri).2)
            (case hn => omega)
            (case hp => exact .inr (.inr rfl))
            intro h₃ tk₃ t₃ ps₃ g₃ W₃ hT₃ hTab₃ hG₃
            obtain ⟨h₄, W4, G4, X4, T4, F4, N4⟩ := frW (news' := [(145, tabObj ps₃)]) G0 X T .refl F N W₃ rfl
              (List.forall_mem_singleton.mpr (N _ (.tail _ (.tail _ (.tail _ (.tail _ (.head _)))))).2.symm)
              (List.forall_mem_singleton.mpr (.inl ⟨hT₃, .inr (.head _)⟩))
            clear F N XB TB
            walk_at "M steps"
            (with_reducible rename Fr _ _ _ _ => F)
            dsimp only
            rw [lit_6]
            simp only [S_app]
            have e : p ++ roi n (y :: r) opn ++ [63] ++ cls p = roi (n + 1) ([] :: y :: r) p := by simp [roi]
            rw [e]
            exact ret _ _ _ ps₃ _ (Kw.fin W4 F.keep hNf) hT₃ hTab₃ hG₃
          · rename x.isEmpty = false => hemp
            have hxne : x ≠ [] := fun e => by rw [e] at hemp; cases hemp
            walk_at "M go"
            (with_reducible rename Fr _ _ _ _ => F); (with_reducible rename News _ _ _ _ => N); rename _ = Data.cell (some _) => hfirst
            obtain ⟨oc3, oc2, oc1, N5, hoc2, ⟨v3, hoc3⟩, ⟨v1, hoc1⟩⟩ : ∃ a b c, News (But s [(145, tabObj ps)]) s.heap.objs.size _ [(s.heap.objs.size + 1 + 1 + 1, a), (s.heap.objs.size + 1 + 1, b), (s.heap.objs.size + 1, c), (145, tabObj ps)] ∧ b.data = Data.cell (some (Value.str (S x) t0)) ∧ (∃ v, a.data = Data.cell v) ∧ (∃ v, c.data = Data.cell v) := ⟨_, _, _, N, hfirst, ⟨_, by assumption⟩, ⟨_, by assumption⟩⟩
            clear N hfirst
            refine wpAny_mono (Q := fun f s' => (f = .next ∧ ¬ (x.length = 1 ∧ 1 < ((x :: y :: r).filter fun s => s.length = 1).length) ∧ ∃ h' tk' m', s' = { s with heap := h', toks := tk' } ∧ Fr (But s [(145, tabObj ps)]) s.heap.objs.size h' m' ∧
              News (But s [(145, tabObj ps)]) s.heap.objs.size h' [(s.heap.objs.size + 1 + 1 + 1, oc3), (s.heap.objs.size + 1 + 1, oc2), (s.heap.objs.size + 1, oc1), (145, tabObj ps)] ∧
              m' "strings" = some (.ref l) ∧ m' "open_paren" = some (.str (S p) tp) ∧ m' "close_paren" = some (.str (S (cls p)) t₂)) ∨ (∃ v, f = .ret v ∧ Q v s')) ?_ (fun f s' hf => ?_) (fun _ _ z => z)
            -- A{
            · have ns : NoStop := ⟨⟩
              walk1
              clear ns
              walk_at "M steps"
              · walk_at "M go"
                (with_reducible rename Fr _ _ _ _ => F); (with_reducible rename News _ _ _ _ => N); rename _ ∧ _ => lD
                rename (x.length : Int) = 1 => hx1
                rename List Value => vt
                obtain ⟨R, O, m6, F6, N6, q1, q2, q3, q4, q5, lOR, lO3⟩ : ∃ R O m6, Fr (But s [(145, tabObj ps)]) s.heap.objs.size _ m6 ∧
                    News (But s [(145, tabObj ps)]) s.heap.objs.size _ [(R, PySem.W.listOf #[] 0), (O, PySem.W.listOf #[] 0), (s.heap.objs.size + 1 + 1 + 1, oc3), (s.heap.objs.size + 1 + 1, oc2), (s.heap.objs.size + 1, oc1), (145, tabObj ps)] ∧
                    m6 "oneletter" = some (.ref O) ∧ m6 "rest" = some (.ref R) ∧ m6 "strings" = some (.ref l) ∧ m6 "open_paren" = some (.str (S p) tp) ∧ m6 "close_paren" = some (.str (S (cls p)) t₂) ∧ @LT.lt Nat _ O R ∧ @LT.lt Nat _ (s.heap.objs.size + 1 + 1 + 1) O :=
                  ⟨_, _, _, F, N, rfl, rfl, rfl, rfl, rfl, lD.1, by omega⟩
                clear F N lD
                refine forJ ?_ ?hs ?ht ?hE
                (case hs => intro _; rfl)
                (case ht => intro _ _; rfl)
                (case hE => passes_own)
                walk_at "M steps"
                (with_reducible rename Fr _ _ _ _ => F); (with_reducible rename News _ _ _ _ => N)
                refine iterL F N (isL_base F hl1) fun I h₇ F7 N7 lI hk7 => ?_
                k_lt lI
                clear F N
                have hvs' : StrsAre (Value.str (S x) t0 :: Value.str (S y) t1 :: vt) ((x :: y :: r).map S) := .cons _ _ (.cons _ _ hvs)
                refine ⟨I, (x :: y :: r).length, fun i s' => ∃ h tk m ao ar cO cR, s' = { s with heap := h, toks := tk } ∧ Fr (But s [(145, tabObj ps)]) s.heap.objs.size h m ∧
                    News (But s [(145, tabObj ps)]) s.heap.objs.size h [(I, itObj l i), (R, PySem.W.listOf ar cR), (O, PySem.W.listOf ao cO), (s.heap.objs.size + 1 + 1 + 1, oc3), (s.heap.objs.size + 1 + 1, oc2), (s.heap.objs.size + 1, oc1), (145, tabObj ps)] ∧
                    StrsAre ao.toList ((((x :: y :: r).take i).filter fun s => decide (s.length = 1)).map S) ∧ StrsAre ar.toList ((((x :: y :: r).take i).filter fun s => decide (s.length ≠ 1)).map S) ∧
                    m "oneletter" = some (.ref O) ∧ m "rest" = some (.ref R) ∧ m "strings" = some (.ref l) ∧ m "open_paren" = some (.str (S p) tp) ∧ m "close_paren" = some (.str (S (cls p)) t₂), rfl, ⟨h₇, _, m6, #[], #[], 0, 0, rfl, F7, N7, .nil, .nil, q1, q2, q3, q4, q5⟩, ?_, ?_⟩
                · rintro i s₃ hi ⟨h, tk, m, ao, ar, cO, cR, rfl, F, N, ho1, hr1, w1, w2, w3, w4, w5⟩
                  obtain ⟨t, ht⟩ := strsAre_at hvs' (i := i) (y := S (x :: y :: r)[i]) (by rw [List.getElem?_map, List.getElem?_eq_getElem hi]; rfl)
                  have hal := mem_le_msr (List.getElem_mem hi)
                  generalize hae : (x :: y :: r)[i] = a at *
                  have hts : (x :: y :: r).take (i + 1) = (x :: y :: r).take i ++ [a] := by rw [List.take_add_one, List.getElem?_eq_getElem hi, hae]; rfl
                  have hol : ao.size ≤ (x :: y :: r).length := by
                    have h1 := strsLen ho1
                    have h2 := List.length_filter_le (fun s : List Nat => decide (s.length = 1)) ((x :: y :: r).take i)
                    simp only [List.length_map, Array.length_toList, List.length_take] at h1 h2
                    omega
                  have hrl' : ar.size ≤ (x :: y :: r).length := by
                    have h1 := strsLen hr1
                    have h2 := List.length_filter_le (fun s : List Nat => decide (s.length ≠ 1)) ((x :: y :: r).take i)
                    simp only [List.length_map, Array.length_toList, List.length_take] at h1 h2
                    omega
                  refine nextL F N (by simp only [List.forall_mem_cons]; exact ⟨neN (by (try dsimp only); omega), neN (by (try dsimp only); omega), neN (by (try dsimp only); omega), neN (by (try dsimp only); omega), neN (by (try dsimp only); omega), neN (by (try dsimp only); omega), fun _ h => nomatch h⟩) (isL_base F hl1) (by simpa using ht) fun h' F' N' hk' => ⟨_, rfl, ?_⟩
                  clear F N
                  walk_at "M steps"
                  · walk_at "M go"
                    (with_reducible rename Fr _ _ _ _ => F); (with_reducible rename News _ _ _ _ => N); rename (a.length : Int) = 1 => ha1
                    have ha1' : a.length = 1 := by omega
                    dsimp only
                    refine ⟨_, _, _, _, _, _, _, rfl, F, N, ?_, ?_, w1, w2, w3, w4, w5⟩
                    · rw [hts, List.filter_append, List.map_append, List.filter_cons_of_pos (by simp [ha1'])]
                      rw [Array.toList_push]
                      exact strsAre_push ho1 _ _
                    · rw [hts, List.filter_append, List.filter_cons_of_neg (by simp [ha1']), List.filter_nil, List.append_nil]
                      exact hr1
                  · walk_at "M go"
                    (with_reducible rename Fr _ _ _ _ => F); (with_reducible rename News _ _ _ _ => N); rename (a.length : Int) ≠ 1 => ha1
                    have ha1' : a.length ≠ 1 := by omega
                    dsimp only
                    refine ⟨_, _, _, _, _, _, _, rfl, F, N, ?_, ?_, w1, w2, w3, w4, w5⟩
                    · rw [hts, List.filter_append, List.filter_cons_of_neg (by simp [ha1']), List.filter_nil, List.append_nil]
                      exact ho1
                    · rw [hts, List.filter_append, List.map_append, List.filter_cons_of_pos (by simp [ha1'])]
                      rw [Array.toList_push]
                      exact strsAre_push hr1 _ _
                · rintro s₃ ⟨h, tk, m, ao, ar, cO, cR, rfl, F, N, ho1, hr1, w1, w2, w3, w4, w5⟩
                  obtain ⟨vo, rfl⟩ : ∃ vo : List Value, ao = vo.toArray := ⟨ao.toList, by simp⟩
                  obtain ⟨vr, rfl⟩ : ∃ vr : List Value, ar = vr.toArray := ⟨ar.toList, by simp⟩
                  rw [List.take_length] at ho1 hr1
                  simp only [] at ho1 hr1
                  have hol := strsLen ho1
                  have hrl' := strsLen hr1
                  rw [List.length_map] at hol hrl'
                  have hs : msr ((x :: y :: r).filter fun s => decide (s.length = 1)) + msr ((x :: y :: r).filter fun s => decide (s.length ≠ 1)) = msr (x :: y :: r) := by
                    have h1 := msr_split (fun s : List Nat => decide (s.length = 1)) (x :: y :: r)
                    rw [← filter_ne (x :: y :: r) (fun s : List Nat => s.length = 1)] at h1
                    exact h1
                  have hom := len_le_msr ((x :: y :: r).filter fun s => decide (s.length = 1))
                  have hrm := len_le_msr ((x :: y :: r).filter fun s => decide (s.length ≠ 1))
                  refine nextL_end rfl F N (by simp only [List.forall_mem_cons]; exact ⟨neN (by (try dsimp only); omega), neN (by (try dsimp only); omega), neN (by (try dsimp only); omega), neN (by (try dsimp only); omega), neN (by (try dsimp only); omega), neN (by (try dsimp only); omega), fun _ h => nomatch h⟩) (isL_base F hl1) (by simp [hlen]) fun h' F' N' hk' => ⟨rfl, ?_⟩
                  clear F N
                  dsimp only
                  walk_at "M steps"
                  · walk_at "M go"
                    (with_reducible rename Fr _ _ _ _ => F); (with_reducible rename News _ _ _ _ => N); rename (1 : Int) < _ => hgt
                    have hcond : x.length = 1 ∧ 1 < ((x :: y :: r).filter fun s => s.length = 1).length := ⟨by omega, by omega⟩
                    have hve : vr = [] := by
                      rename vr.isEmpty = true => he
                      exact List.isEmpty_iff.mp he
                    subst hve
                    have hnil : ((x :: y :: r).filter fun s => decide (s.length ≠ 1)) = [] := List.length_eq_zero_iff.mp hrl'.symm
                    have hn0 : ([] : List Nat).length = 0 := rfl
                    have hchl := charset_len (xs := (x :: y :: r).filter fun s => decide (s.length = 1)) (fun a ha => by simpa using (List.mem_filter.mp ha).2)
                    have hone := (ones_msr ((x :: y :: r).filter fun s => decide (s.length = 1)) (fun a ha => by simpa using (List.mem_filter.mp ha).2)).1
                    refine ⟨by k_in, ?_⟩
                    refine charset_c (xs := (x :: y :: r).filter fun s => decide (s.length = 1)) (XB.keeps F.keep) (TB.keeps F.keep) (by omega) (isL_news N (.tail _ (.head _))) ho1 (by omega) fun h₃ tk₃ t₃ hk3 => ?_
                    obtain ⟨F2, N2⟩ := frK F N hk3
                    clear F N
                    walk_at "M steps"
                    (with_reducible rename Fr _ _ _ _ => F); (with_reducible rename News _ _ _ _ => N)
                    dsimp only
                    simp only [S_app]
                    have W := Kw.fin .refl F.keep hNf
                    have e : p ++ charset ((x :: y :: r).filter fun s => decide (s.length = 1)) ++ cls p = roi (n + 1) (x :: y :: r) p := by
                      simp only [roi]
                      rw [if_neg hxne, if_pos hcond, if_pos hnil]
                    rw [e]
                    exact .inr ⟨_, rfl, ret _ _ _ ps _ W (N.get (.tail _ (.tail _ (.tail _ (.tail _ (.tail _ (.head _))))))) (hTab.kw G W) ⟨.refl, fun _ _ h => h⟩⟩
                  · walk_at "M go"
                    (with_reducible rename Fr _ _ _ _ => F); (with_reducible rename News _ _ _ _ => N); rename (1 : Int) < _ => hgt
                    have hcond : x.length = 1 ∧ 1 < ((x :: y :: r).filter fun s => s.length = 1).length := ⟨by omega, by omega⟩
                    rename vr.isEmpty = false => he
                    have hnn : ((x :: y :: r).filter fun s => decide (s.length ≠ 1)) ≠ [] := fun e => by
                      rw [e] at hrl'
                      rw [List.length_eq_zero_iff.mp hrl'] at he
                      cases he
                    have hrl := roi_len n ((x :: y :: r).filter fun s => decide (s.length ≠ 1)) [] hnn
                    have hn0 : ([] : List Nat).length = 0 := rfl
                    have hchl := charset_len (xs := (x :: y :: r).filter fun s => decide (s.length = 1)) (fun a ha => by simpa using (List.mem_filter.mp ha).2)
                    refine ⟨by k_in, ?_⟩
                    rw [lit_0]
                    refine' ih (xs := (x :: y :: r).filter fun s => decide (s.length ≠ 1)) (p := []) ?G ?X ?T ?hA ?hP ?hT ?tab ?hl ?hv ?hx ?h64 ?hri ?hn ?hp ?_
                    (case G => exact in_fl (M := [145]) G0 F N (List.forall_mem_singleton.mpr ⟨_, (.tail _ (.tail _ (.tail _ (.tail _ (.tail _ (.head _))))))⟩) (by rfl) (by rfl))
                    (case X => exact X.keeps (in_kp G0 F N (List.forall_mem_singleton.mpr ⟨_, (.tail _ (.tail _ (.tail _ (.tail _ (.tail _ (.head _))))))⟩) (by rfl) (by rfl)))
                    (case T => exact T.keeps (in_kp G0 F N (List.forall_mem_singleton.mpr ⟨_, (.tail _ (.tail _ (.tail _ (.tail _ (.tail _ (.head _))))))⟩) (by rfl) (by rfl)))
                    (case hA => omega)
                    (case hP => exact in_mu G0 F N (List.forall_mem_singleton.mpr ⟨_, (.tail _ (.tail _ (.tail _ (.tail _ (.tail _ (.head _))))))⟩) (by rfl) (by rfl) (.head _))
                    (case hT => exact N.get (.tail _ (.tail _ (.tail _ (.tail _ (.tail _ (.head _)))))))
                    (case tab => exact hTab.kw G (Kw.fin .refl F.keep hNf))
                    (case hl => exact in_list G0 F N (List.forall_mem_singleton.mpr ⟨_, (.tail _ (.tail _ (.tail _ (.tail _ (.tail _ (.head _))))))⟩) (by rfl) (by rfl) (.head _) (nin (List.forall_mem_singleton.mpr (neN (by (try dsimp only); omega)))))
                    (case hv => exact hr1)
                    (case hx => omega)
                    (case h64 => exact Nat.lt_of_le_of_lt (List.length_filter_le ..) h64)
                    (case hri => exact List.Pairwise.filter _ hri)
                    (case hn => omega)
                    (case hp => exact .inl rfl)
                    intro h₃ tk₃ t₃ ps₃ g₃ W₃ hT₃ hTab₃ hG₃
                    obtain ⟨h₄, W4, G4, X4, T4, F4, N4⟩ := frW (news' := [(O, PySem.W.listOf vo.toArray cO), (145, tabObj ps₃)]) G0 X T .refl F N W₃ rfl
                      (List.forall_mem_singleton.mpr (N _ (.tail _ (.tail _ (.tail _ (.tail _ (.tail _ (.head _))))))).2.symm)
                      (by
                        simp only [List.forall_mem_cons]
                        refine ⟨?_, .inl ⟨hT₃, .inr (.head _)⟩, fun _ h => nomatch h⟩
                        (refine' Or.inr ⟨?km, Mine.nin (List.forall_mem_cons.mpr ⟨?kn, fun _ h => nomatch h⟩)⟩; (case km => k_mem); (case kn => k_ne)))
                    clear F N XB TB
                    walk_at "M steps"
                    walk_at "M go"
                    (with_reducible rename Fr _ _ _ _ => F); (with_reducible rename News _ _ _ _ => N)
                    refine ⟨by k_in, ?_⟩
                    refine charset_c (xs := (x :: y :: r).filter fun s => decide (s.length = 1)) (X4.keeps F.keep) (T4.keeps F.keep) (by omega) (isL_news N (.head _)) ho1 (by omega) fun h₅ tk₅ t₅ hk5 => ?_
                    obtain ⟨F2, N2⟩ := frK F N hk5
                    clear F N
                    walk_at "M steps"
                    (with_reducible rename Fr _ _ _ _ => F); (with_reducible rename News _ _ _ _ => N)
                    dsimp only
                    rw [lit_5]
                    simp only [S_app]
                    have W := Kw.fin W4 F.keep hNf
                    have e : p ++ roi n ((x :: y :: r).filter fun s => decide (s.length ≠ 1)) [] ++ [124] ++ charset ((x :: y :: r).filter fun s => decide (s.length = 1)) ++ cls p = roi (n + 1) (x :: y :: r) p := by
                      simp only [roi]
                      rw [if_neg hxne, if_pos hcond, if_neg hnn]
                    rw [e]
                    exact .inr ⟨_, rfl, ret _ _ _ ps₃ _ W (N.get (.tail _ (.head _))) (hTab₃.keeps hk5) hG₃⟩
                  · (with_reducible rename Fr _ _ _ _ => F); (with_reducible rename News _ _ _ _ => N); rename ¬ (1 : Int) < _ => hgt
                    exact .inl ⟨rfl, fun h => hgt (by omega), _, _, _, rfl, F, fun q hq => N q (.tail _ (.tail _ hq)), w3, w4, w5⟩
              · (with_reducible rename Fr _ _ _ _ => F); (with_reducible rename News _ _ _ _ => N); rename (x.length : Int) ≠ 1 => hx1
                dsimp only
                exact .inl ⟨rfl, fun h => hx1 (by omega), _, _, _, rfl, F, N, rfl, rfl, rfl⟩
            -- }A
            · rcases hf with ⟨rfl, hcond, h₅, tk₅, m₅, rfl, F5, N6, hm1, hm2, hm3⟩ | ⟨v, rfl, hv⟩
              · clear F N5
                have hel : (cpAll (x :: y :: r)).length ≤ x.length := (cpAll_pre (.head _)).length_le
                have hvs' : StrsAre (Value.str (S x) t0 :: Value.str (S y) t1 :: _) ((x :: y :: r).map S) := .cons _ _ (.cons _ _ hvs)
                walk_at "M steps"
                walk_at "M go"
                refine ⟨by k_in, ?_⟩
                refine cprefix_c (xs := x :: y :: r) (XB.keeps F5.keep) (TB.keeps F5.keep) (by omega) (isL_base F5 hl1) hvs' (by simp) hx fun h₆ tk₆ t₆ hk6 => ?_
                obtain ⟨F6, N7⟩ := frK F5 N6 hk6
                clear F5 N6
                walk_at "M steps"
                · rename (cpAll (x :: y :: r)).isEmpty = true => hcp
                  have hcp0 : cpAll (x :: y :: r) = [] := List.isEmpty_iff.mp hcp
                  have hmr := msr_map List.reverse 0 (x :: y :: r) (fun a _ => by simp)
                  walk_at "M go"
                  (with_reducible rename Fr _ _ _ _ => F8); (with_reducible rename News _ _ _ _ => N8)
                  with_reducible refine' assignCompL (fun a => a.reverse) ?c1 ?d1 ?d2 ?d3 ?c2 ?c3 ?c4 ?c5 ?c6 ?_ ?c7
                  (case d1 => exact rfl); (case d2 => exact rfl); (case d3 => exact rfl)
                  (case c1 => exact rfl); (case c2 => exact rfl); (case c3 => decide +kernel); (case c4 => exact rfl); (case c5 => decide +kernel); (case c6 => exact rfl); (case c7 => intro _; rfl)
                  walk_at "M steps"
                  walk_at "M go"
                  refine ⟨_, _, x :: y :: r, rfl, isL_base F8 hl1, hvs', by simp only [List.length_cons]; omega, _, _, _, F8, N8, ?_, ?_⟩
                  · intro a C u s₃ m₃ E' ha hk FC NC hm
                    have hal := mem_le_msr ha
                    clear F8 N8
                    walk_at "M steps"
                    walk_at "M go"
                    rename Kp _ _ => hkp
                    exact ⟨⟨_, rfl⟩, _, _, rfl, hkp⟩
                  · intro D h' tk' ys nn F N hD hys
                    clear F8 N8
                    walk_at "M steps"
                    walk_at "M go"
                    (with_reducible rename Fr _ _ _ _ => F); (with_reducible rename News _ _ _ _ => N)
                    refine ⟨by k_in, ?_⟩
                    refine cprefix_c (xs := (x :: y :: r).map List.reverse) (XB.keeps F.keep) (TB.keeps F.keep) (by omega) ⟨_, N.get (.head _), rfl, nn, rfl⟩ (by rw [List.map_map]; exact hys) (by simp) (by omega) fun h₇ tk₇ t₇ hk7 => ?_
                    obtain ⟨F9, N9⟩ := frK F N hk7
                    clear F N
                    have hsl : (cpAll ((x :: y :: r).map List.reverse)).length ≤ x.length := by
                      have := (cpAll_pre (xs := (x :: y :: r).map List.reverse) (x := x.reverse) (.head _)).length_le
                      simpa using this
                    walk_at "M steps"
                    · rename (cpAll ((x :: y :: r).map List.reverse)).isEmpty = true => hsf
                      have hsf0 : cpAll ((x :: y :: r).map List.reverse) = [] := List.isEmpty_iff.mp hsf
                      have hlamB : ∀ pos : Pos, pos.line = lamL → pos.col = lamC → codeAmong pos ps.toList = none ∨ ∃ c', codeAmong pos ps.toList = some (.ref c') ∧ (But s [(145, tabObj ps)]).CodeRec (.ref c') "regex_opt_inner.<locals>.<lambda>" := fun pos h1 h2 => by
                        rcases hTab.lam pos h1 h2 with e | ⟨c', e, hr, hne⟩
                        · exact .inl e
                        · refine .inr ⟨c', e, ?_⟩
                          obtain ⟨c1, o1, v1, t1, e1, ho1, r1⟩ := hr
                          obtain rfl := Value.ref.inj e1
                          exact ⟨_, o1, v1, t1, rfl, but_of ho1 (by simpa using hne), r1⟩
                      walk_at "M go"
                      (with_reducible rename Fr _ _ _ _ => F); (with_reducible rename News _ _ _ _ => N)
                      (try simp only [List.cons_append, List.nil_append] at N)
                      refine' wpAny_GeneratorExp_make ?d1 ?c2 ?c3 ?d2 ?c4 ?d3 ?_ ?c7
                      (case d1 => exact rfl); (case c2 => exact rfl); (case c3 => decide +kernel); (case d2 => exact rfl); (case c4 => exact rfl); (case c7 => intro _; rfl)
                      (case d3 => show dp + 1 < recursionLimit; omega)
                      walk_at "M steps"
                      walk_at "M go"
                      refine lamMake (own := [(D, PySem.W.listOf ys.toArray nn), (s.heap.objs.size + 1 + 1 + 1, oc3), (s.heap.objs.size + 1 + 1, oc2), (s.heap.objs.size + 1, oc1)]) (P := 145) (c := 147) (qual := "regex_opt_inner.<locals>.<lambda>") (loose := loose) (mean := mean) (mb := mb) F N ?_ ⟨_, .tail _ (.head _), ?_⟩ TB (hC0 _ XB) rfl rfl hTab.tri (by show ("regex_opt_inner" : Str) ++ ".<locals>." ++ "<lambda>" = _; decide) ?_ rfl rfl ?_
                      · simp only [List.forall_mem_cons]
                        exact ⟨(hD _ (.tail _ (.tail _ (.tail _ (.head _))))).symm, neN (by (try dsimp only); omega), neN (by (try dsimp only); omega), neN (by (try dsimp only); omega), fun _ h => nomatch h⟩
                      · exact ltN (by (try dsimp only); omega)
                      · exact hlamB _ rfl rfl
                      · intro f c' ctv h₉ tk₉ ps₉ extra F9 N9 hcc hcf hc5 hl9 hext hfo h145f hex
                        clear F N
                        simp only [List.cons_append, List.nil_append] at N9
                        have hDf := hfo _ (.head _)
                        have hc3f := hfo _ (.tail _ (.head _))
                        have hc2f := hfo _ (.tail _ (.tail _ (.head _)))
                        have hc1f := hfo _ (.tail _ (.tail _ (.tail _ (.head _))))
                        k_lt2 hDf
                        k_lt2 hc3f
                        k_lt2 hc2f
                        k_lt2 hc1f
                        k_lt2 h145f
                        k_lt2 hcf
                        dsimp only at hDf hc3f hc2f hc1f
                        walk_at "M steps"
                        walk_at "M go"
                        refine ⟨by k_in, ?_⟩
                        refine gb_new (l := l) (kf := f) (items := _) F9 N9 XB TB (by omega) (fun h' F' _ => hl1.at fun o e => F'.keep _ o e) fun h₁₀ tk₁₀ gx gdx gI gu gu2 FA NA lA lB lC => ?_
                        clear F9 N9
                        have hfdx := lA _ (.head _)
                        k_lt2 hfdx
                        k_lt2 lB
                        k_lt2 lC
                        dsimp only at hfdx
                        show wpAny _ _ (pyIter (.ref gx)) _ _ _
                        have IA : InstAt h₁₀ gx _ 93 (some (dictOf [] 0)) := ⟨NA.get (.head _), rfl, rfl, NA.get (.tail _ (.head _))⟩
                        refine' owit_iter FA XB IA ?hs ?hf ?_
                        (case hs => k_is)
                        (case hf => k_is)
                        refine gb_iter (B := But s [(145, tabObj ps)]) FA.keep XB TB (by omega) fun h₁₁ tk₁₁ hk11 => ?_
                        obtain ⟨FB, NB⟩ := frK FA NA hk11
                        have IA' : InstAt h₁₁ gx _ 93 (some (dictOf [] 0)) := ⟨NB.get (.head _), rfl, rfl, NB.get (.tail _ (.head _))⟩
                        clear FA NA
                        refine' owit_it FB XB IA' ?hs ?_
                        (case hs => k_is)
                        refine ⟨TB.nolimit.keeps FB.keep, ?_⟩
                        refine genCode (c := 147) (P := 145) (ps := ps₉) rfl ((hC0 _ XB).keeps FB.keep) (NB.get (.tail _ (.tail _ (.tail _ (.tail _ (.head _)))))) (hext.tri hTab.tri) fun code h₁₂ tk₁₂ ps₁₂ hk12 hP12 hext2 => ?_
                        obtain ⟨FC, NC⟩ := tabSet (own := [(gx, _), (gdx, _), (gI, _), (f, _)]) (rest := (D, _) :: (s.heap.objs.size + 1 + 1 + 1, _) :: (s.heap.objs.size + 1 + 1, _) :: (s.heap.objs.size + 1, _) :: extra) FB NB (by
                          simp only [List.cons_append, List.nil_append, List.forall_mem_cons]
                          exact ⟨neN (by (try dsimp only); omega), neN (by (try dsimp only); omega), neN (by (try dsimp only); omega), neN (by (try dsimp only); omega), (hD _ (.tail _ (.tail _ (.tail _ (.head _))))).symm, neN (by (try dsimp only); omega), neN (by (try dsimp only); omega), neN (by (try dsimp only); omega), fun q hq => (hex q hq).1⟩) hk12 hP12
                        simp only [List.cons_append, List.nil_append] at NC
                        clear FB NB
                        obtain ⟨bm, ob, b1, b2, b3, b4, b5, b6⟩ := TB.bmain
                        refine wpAny_builtinsFor (TB.g.keeps FC.keep) b1 b2 (FC.keep _ _ b3) b4 b5 b6 ?_
                        intro h₁₃ hn13 hs13
                        have keep13 : Kp h₁₂ h₁₃ := fun b o e => hs13.extBut b o (Nat.ne_of_lt (Heap.lt_size e)) (Heap.get?_push_of_some _ e)
                        have sz13 : h₁₃.objs.size = h₁₂.objs.size + 1 := by rw [hs13.1, Heap.size_push]
                        have keepJ : ∀ ob : Obj, Kp h₁₂ (h₁₃.push ob) := fun ob b o e => Heap.get?_push_of_some _ (keep13 b o e)
                        have hM := memOf4 NC
                        walk_at "M steps"
                        walk_at "M go"
                        rw [lit_5]
                        have hri2 := List.pairwise_cons.mp hri
                        have hnea : ∀ a ∈ x :: y :: r, a ≠ [] := fun a ha => by
                          rcases List.mem_cons.mp ha with rfl | ha
                          · exact hxne
                          · exact ne_nil_le hxne (hri2.1 a ha)
                        have hsp := rise_split (x := x) (xs := y :: r) hri2.2 (fun a ha => hnea a (.tail _ ha)) hri2.1 hxne
                        have hone := others_ne (x := x) (l := y :: r) hxne hcp0
                        have eA : x :: (y :: r).filter (fun s => decide (s.head? = x.head?)) = (x :: y :: r).filter (fun s => decide (s.head? = x.head?)) := (List.filter_cons_of_pos (by simp)).symm
                        have eB : (x :: y :: r).filter (fun s => decide (s.head? ≠ x.head?)) = (y :: r).filter (fun s => decide (s.head? ≠ x.head?)) := List.filter_cons_of_neg (by simp)
                        have hfe : (fun a : List Nat => ((a.head? == x.head?) == true)) = (fun a => a.head? == x.head?) := by funext a; simp
                        have hmab : msr ((x :: y :: r).filter fun s => decide (s.head? = x.head?)) + msr ((x :: y :: r).filter fun s => decide (s.head? ≠ x.head?)) = msr (x :: y :: r) := by
                          have h1 := msr_split (fun s : List Nat => decide (s.head? = x.head?)) (x :: y :: r)
                          rw [← filter_ne (x :: y :: r) (fun s : List Nat => s.head? = x.head?)] at h1
                          exact h1
                        have hpA := msr_pos (xs := (x :: y :: r).filter fun s => decide (s.head? = x.head?)) (by simp)
                        have hpB := msr_pos hone
                        obtain ⟨b0, r1, hb⟩ : ∃ b0 r1, (y :: r).filter (fun s => decide (s.head? ≠ x.head?)) = b0 :: r1 := by
                          rw [eB] at hone
                          cases hb : (y :: r).filter (fun s => decide (s.head? ≠ x.head?)) with
                          | nil => exact absurd hb hone
                          | cons b0 r1 => exact ⟨b0, r1, rfl⟩
                        have hrlA := roi_len n ((x :: y :: r).filter fun s => decide (s.head? = x.head?)) [] (by simp)
                        have hrlB := roi_len n ((x :: y :: r).filter fun s => decide (s.head? ≠ x.head?)) [] hone
                        have hn0 : ([] : List Nat).length = 0 := rfl
                        have hszC : ∀ a ∈ [145, gx, gdx, gI], @LT.lt Nat _ a h₁₂.objs.size := fun a ha => let ⟨o, ho⟩ := hM a ha; Heap.lt_size (NC _ ho).1
                        have hsub : ∀ b ∈ [gx, gdx, gI, 145], b ∈ [145, gx, gdx, gI] := fun b hb => by
                          simp only [List.mem_cons, List.not_mem_nil, or_false] at hb ⊢
                          rcases hb with h | h | h | h <;> simp [h]
                        refine' groups_join (f := fun a => a.head? == x.head?) (c' := c') (a0 := x) (r0 := y :: r) (b0 := b0) (r1 := r1) @ih ?G1 ?X ?T ?hA ?hC ?hCl ?hk ?hco ?hg1 ?hg2 ?hg3 ?hge ?hbe ?hns ?hCB ?hmu ?hxC ?ha ?haf ?ham ?hgen ?hg ?hl ?hvs ?hxs ?h64 ?hri ?hkf ?hko ?hT ?ht ?hlam ?hrec ?hc' ?hfa ?hdw ?hall ?hm1 ?hn1 ?hm2 ?hn2 ?_
                        (case G1 => exact (in_fl (M := [145, gx, gdx, gI]) G0 FC NC hM (by rfl) (by rfl)).grow (keepJ _))
                        (case hgen => exact Array.getElem?_push_size ..)
                        (case X => exact X.keeps (in_kp G0 FC NC hM (by rfl) (by rfl)))
                        (case T => exact T.keeps (in_kp G0 FC NC hM (by rfl) (by rfl)))
                        (case hA => show dp + 1 + 2 * n + 7 < recursionLimit; omega)
                        (case hC => exact rfl); (case hCl => exact rfl); (case hk => exact rfl); (case hco => exact rfl); (case hg1 => exact rfl); (case hg2 => exact rfl); (case hg3 => exact rfl); (case hge => exact rfl); (case hbe => exact rfl)
                        (case hns => exact hn13.push _)
                        (case hCB => exact Nat.le_of_eq (hideAll_size _ _))
                        (case hmu =>
                          refine List.forall_mem_cons.mpr ⟨⟨Heap.get?_none_of_le (Nat.le_of_eq (hideAll_size _ _)), fun z => ?_⟩, fun b hb => ?_⟩
                          · obtain ⟨_, o, ho, _⟩ := (in_fl (M := [145, gx, gdx, gI]) G0 FC NC hM (by rfl) (by rfl)).frame z
                            exact Nat.lt_irrefl _ (Heap.lt_size ho)
                          · exact in_mu (M := [145, gx, gdx, gI]) G0 FC NC hM (by rfl) (by rfl) (hsub b hb))
                        (case hxC => exact fun b hb => Nat.ne_of_lt (hszC b (.tail _ hb)))
                        (case ha => exact ⟨_, _, _, Heap.get?_push_size _ rfl, rfl, rfl, rfl⟩)
                        (case haf =>
                          intro z
                          obtain ⟨_, o, ho, _⟩ := (in_fl (M := [145, gx, gdx, gI]) G0 FC NC hM (by rfl) (by rfl)).frame z
                          have := Heap.lt_size ho
                          rw [sz13] at this
                          exact Nat.not_succ_lt_self this)
                        (case ham =>
                          refine nin (List.forall_mem_cons.mpr ⟨by rw [sz13]; exact Nat.ne_of_lt (Nat.lt_succ_self _), fun b hb => ?_⟩)
                          rw [sz13]
                          exact Nat.ne_of_lt (Nat.lt_succ_of_lt (hszC b (hsub b hb))))
                        (case hg => exact ⟨keepJ _ _ _ (NC.get (.head _)), keepJ _ _ _ (NC.get (.tail _ (.head _))), keepJ _ _ _ (NC.get (.tail _ (.tail _ (.head _)))), lB, lC⟩)
                        (case hl => exact hl.at fun o e => in_kp G0 FC NC hM (by rfl) (by rfl) _ _ e)
                        (case hvs => exact hvs')
                        (case hxs => exact fun a ha => ⟨hnea a ha, by have := mem_le_msr ha; omega⟩)
                        (case h64 => exact h64)
                        (case hri => exact hri)
                        (case hrec =>
                          rcases hcc with ⟨a1, a2, a3, a4, a5, a6, a7, a8⟩ | ⟨oc, v1, v2, hm1, hd1, hv1⟩
                          · exact ⟨a1, a2, a3, a4, a5, (inner [145, gx, gdx, gI] G0 FC NC (by rfl) (by rfl) hM).2.2.2.2 _ _ a6 (G0.cells a6 a7), a7, a8⟩
                          · exact ⟨c', oc, v1, v2, rfl, in_news (q := (c', oc)) G0 FC NC hM (by rfl) (by rfl) (.tail _ (.tail _ (.tail _ (.tail _ (.tail _ (.tail _ (.tail _ (.tail _ (.tail _ hm1))))))))) (nin (List.forall_mem_cons.mpr ⟨hc5.symm, List.forall_mem_cons.mpr ⟨neN (by (try dsimp only); omega), List.forall_mem_cons.mpr ⟨neN (by (try dsimp only); omega), List.forall_mem_singleton.mpr (neN (by (try dsimp only); omega))⟩⟩⟩)), hd1, hv1⟩)
                        (case hkf =>
                          refine keyL (T.keeps (in_kp G0 FC NC hM (by rfl) (by rfl))) (in_news G0 FC NC hM (by rfl) (by rfl) (.tail _ (.tail _ (.tail _ (.head _)))) (nin (List.forall_mem_cons.mpr ⟨neN (by (try dsimp only); omega), List.forall_mem_cons.mpr ⟨neN (by (try dsimp only); omega), List.forall_mem_cons.mpr ⟨neN (by (try dsimp only); omega), List.forall_mem_singleton.mpr (neN (by (try dsimp only); omega))⟩⟩⟩))) ?_ (in_news (q := (s.heap.objs.size + 1 + 1, oc2)) G0 FC NC hM (by rfl) (by rfl) (.tail _ (.tail _ (.tail _ (.tail _ (.tail _ (.tail _ (.tail _ (.head _)))))))) (nin (List.forall_mem_cons.mpr ⟨neN (by (try dsimp only); omega), List.forall_mem_cons.mpr ⟨neN (by (try dsimp only); omega), List.forall_mem_cons.mpr ⟨neN (by (try dsimp only); omega), List.forall_mem_singleton.mpr (neN (by (try dsimp only); omega))⟩⟩⟩))) hoc2 hxne (by omega) (fun _ => rfl) rfl rfl rfl rfl rfl rfl (by decide)
                          rcases hcc with ⟨a1, a2, a3, a4, a5, a6, a7, a8⟩ | ⟨oc, v1, v2, hm1, hd1, hv1⟩
                          · exact ⟨a1, a2, a3, a4, a5, (inner [145, gx, gdx, gI] G0 FC NC (by rfl) (by rfl) hM).2.2.2.2 _ _ a6 (G0.cells a6 a7), a7, a8⟩
                          · exact ⟨c', oc, v1, v2, rfl, in_news (q := (c', oc)) G0 FC NC hM (by rfl) (by rfl) (.tail _ (.tail _ (.tail _ (.tail _ (.tail _ (.tail _ (.tail _ (.tail _ (.tail _ hm1))))))))) (nin (List.forall_mem_cons.mpr ⟨hc5.symm, List.forall_mem_cons.mpr ⟨neN (by (try dsimp only); omega), List.forall_mem_cons.mpr ⟨neN (by (try dsimp only); omega), List.forall_mem_singleton.mpr (neN (by (try dsimp only); omega))⟩⟩⟩)), hd1, hv1⟩)
                        (case hko => exact ⟨_, _, _, _, in_news G0 FC NC hM (by rfl) (by rfl) (.tail _ (.tail _ (.tail _ (.head _)))) (nin (List.forall_mem_cons.mpr ⟨neN (by (try dsimp only); omega), List.forall_mem_cons.mpr ⟨neN (by (try dsimp only); omega), List.forall_mem_cons.mpr ⟨neN (by (try dsimp only); omega), List.forall_mem_singleton.mpr (neN (by (try dsimp only); omega))⟩⟩⟩))⟩)
                        (case hT => exact keepJ _ _ _ hP12)
                        (case ht => exact hext2.tri (hext.tri hTab.tri))
                        (case hlam => exact fun pos h1 h2 => (among_congr (h1.trans rfl) (h2.trans rfl) _).trans (hext2.grow (hext.tri hTab.tri) _ _ hl9))
                        (case hc' => exact hc5)
                        (case hfa => simp)
                        (case hdw =>
                          show List.dropWhile (fun a : List Nat => ((a.head? == x.head?) == true)) (y :: r) = b0 :: r1
                          rw [hfe, hsp.2, hb])
                        (case hall =>
                          intro z hz
                          rw [← hb] at hz
                          have := (List.mem_filter.mp hz).2
                          simpa using this)
                        (case hm1 =>
                          show msr (x :: List.takeWhile (fun a : List Nat => ((a.head? == x.head?) == true)) (y :: r)) ≤ _
                          rw [hfe, hsp.1, eA]
                          omega)
                        (case hn1 =>
                          show msr (x :: List.takeWhile (fun a : List Nat => ((a.head? == x.head?) == true)) (y :: r)) < _
                          rw [hfe, hsp.1, eA]
                          omega)
                        (case hm2 =>
                          rw [← hb, ← eB]
                          omega)
                        (case hn2 =>
                          rw [← hb, ← eB]
                          omega)
                        intro h₁₄ tk₁₄ t₁₄ g₁₄ ps₁₄ W14 hT14 htri14 hgrow14 hG14
                        rw [show List.takeWhile (fun a : List Nat => ((fun a : List Nat => a.head? == x.head?) a == true)) (y :: r) = (y :: r).filter (fun s => decide (s.head? = x.head?)) by
                          show List.takeWhile (fun a : List Nat => ((a.head? == x.head?) == true)) (y :: r) = _
                          rw [hfe, hsp.1], eA, ← hb, ← eB]
                        have hcr : h₁₄.CodeRec (.ref c') "regex_opt_inner.<locals>.<lambda>" := by
                          have hJ : ∃ oc vs t, h₁₂.get? c' = some oc ∧ oc.data = Data.fields vs ∧ vs[1]? = some (Value.str "regex_opt_inner.<locals>.<lambda>" t) := by
                            rcases hcc with ⟨a1, a2, a3, a4, a5, a6, a7, a8⟩ | ⟨oc, v1, v2, hm1, hd1, hv1⟩
                            · obtain rfl := Value.ref.inj a5
                              exact ⟨a2, a3, a4, FC.keep _ _ a6, a7, a8⟩
                            · exact ⟨oc, v1, v2, NC.get (.tail _ (.tail _ (.tail _ (.tail _ (.tail _ (.tail _ (.tail _ (.tail _ (.tail _ hm1))))))))), hd1, hv1⟩
                          obtain ⟨oc, v1, v2, e, hd1, hv1⟩ := hJ
                          have hcsz : @LT.lt Nat _ c' h₁₂.objs.size := Heap.lt_size e
                          refine ⟨c', oc, v1, v2, rfl, W14.keep _ _ ((in_fl (M := [145, gx, gdx, gI]) G0 FC NC hM (by rfl) (by rfl)).cells e hd1) (nin ?_) (keepJ _ _ _ e), hd1, hv1⟩
                          exact List.forall_mem_cons.mpr ⟨neN (by (try dsimp only); omega), List.forall_mem_cons.mpr ⟨neN (by (try dsimp only); omega), List.forall_mem_cons.mpr ⟨neN (by (try dsimp only); omega), List.forall_mem_cons.mpr ⟨neN (by (try dsimp only); omega), List.forall_mem_singleton.mpr hc5.symm⟩⟩⟩⟩
                        have hnC := hn13
                        obtain ⟨oC, _, _, hoC, _⟩ := hnC
                        have NE := fun ob => (newsNew FC NC (keepJ ob) (size_none h₁₂) (Heap.get?_push_of_some ob hoC)).1
                        have hmuE : ∀ a ∈ [h₁₂.objs.size, gx, gdx, gI, 145], (But s [(145, tabObj ps)]).get? a = none ∧ a ≠ s.heap.objs.size := by
                          simp only [List.forall_mem_cons]
                          exact ⟨(NE default _ (.head _)).2.symm, (NE default _ (.tail _ (.head _))).2.symm, (NE default _ (.tail _ (.tail _ (.head _)))).2.symm, (NE default _ (.tail _ (.tail _ (.tail _ (.head _))))).2.symm, (NE default _ (.tail _ (.tail _ (.tail _ (.tail _ (.tail _ (.head _))))))).2.symm, fun _ h => nomatch h⟩
                        obtain ⟨h₄, W4, G4, X4, T4, F4, N4⟩ := frW (news' := [(145, tabObj ps₁₄)]) G0 X T .refl (frK FC NC (keepJ _)).1 (NE _) W14 rfl hmuE
                          (List.forall_mem_singleton.mpr (.inl ⟨hT14, .inr (.tail _ (.tail _ (.tail _ (.tail _ (.head _)))))⟩))
                        clear FC NC NE XB TB
                        have hlen2 : (roi n ((x :: y :: r).filter fun s => decide (s.head? = x.head?)) [] ++ [124] ++ roi n ((x :: y :: r).filter fun s => decide (s.head? ≠ x.head?)) []).length ≤ 900000 := by
                          simp only [List.length_append, List.length_cons, List.length_nil]
                          omega
                        walk_at "M steps"
                        dsimp only
                        simp only [S_app]
                        have e : p ++ (roi n ((x :: y :: r).filter fun s => decide (s.head? = x.head?)) [] ++ [124] ++ roi n ((x :: y :: r).filter fun s => decide (s.head? ≠ x.head?)) []) ++ cls p = roi (n + 1) (x :: y :: r) p := by
                          simp only [roi]
                          rw [if_neg hxne, if_neg hcond, if_neg (fun h => h hcp0), if_neg (fun h => h hsf0)]
                        rw [e]
                        exact ret _ _ _ ps₁₄ _ (Kw.fin W4 F4.keep hNf) hT14 ⟨htri14, fun pos h1 h2 => .inr ⟨c', hgrow14 _ _ ((among_congr (h1.trans rfl) (h2.trans rfl) _).trans (hext2.grow (hext.tri hTab.tri) _ _ hl9)), hcr, hc5⟩⟩
                          ⟨GensG.out rfl hG14, fun q v z => hgrow14 _ _ (hext2.grow (hext.tri hTab.tri) _ _ (hext.grow hTab.tri _ _ z))⟩
                    · rename (cpAll ((x :: y :: r).map List.reverse)).isEmpty = false => hsf
                      have hsne : cpAll ((x :: y :: r).map List.reverse) ≠ [] := fun e => by rw [e] at hsf; cases hsf
                      have hell := escL_len (cpAll ((x :: y :: r).map List.reverse)).reverse
                      rw [List.length_reverse] at hell
                      walk_at "M go"
                      (with_reducible rename Fr _ _ _ _ => F); (with_reducible rename News _ _ _ _ => N)
                      with_reducible refine' genL (c := 147) (P := 145) (fun a => a.take (a.length - (cpAll ((x :: y :: r).map List.reverse)).length)) ?c1 ?d1 ?c2 ?c3 ?d2 ?c6 ?c4 ?d3 ?d4 ?d5 ?_ ?c7
                      (case c1 => exact rfl); (case d1 => exact rfl); (case c2 => exact rfl); (case c3 => decide +kernel); (case d2 => exact rfl); (case c6 => exact rfl); (case c4 => exact rfl); (case d4 => exact rfl); (case d5 => exact rfl); (case c7 => intro _; rfl)
                      (case d3 => show dp + 1 < recursionLimit; omega)
                      walk_at "M steps"
                      walk_at "M go"
                      simp only [List.cons_append, List.nil_append] at N
                      rename _ = Data.cell (some (Value.int _ _)) => hslen
                      obtain ⟨o3, N, t3, hslen⟩ : ∃ o3, News (But s [(145, tabObj ps)]) s.heap.objs.size _ [(D, PySem.W.listOf ys.toArray nn), (s.heap.objs.size + 1 + 1 + 1, o3), (s.heap.objs.size + 1 + 1, oc2), (s.heap.objs.size + 1, oc1), (145, tabObj ps)] ∧ ∃ t3, o3.data = Data.cell (some (Value.int ((cpAll ((x :: y :: r).map List.reverse)).length : Nat) t3)) := ⟨_, N, _, hslen⟩
                      have hjj : (cpAll ((x :: y :: r).map List.reverse)).length ≠ 0 := fun e => hsne (List.length_eq_zero_iff.mp e)
                      refine ⟨_, _, x :: y :: r, rfl, isL_base F hl1, hvs', h64, _, _, _, _, ps, [(D, PySem.W.listOf ys.toArray nn), (s.heap.objs.size + 1 + 1 + 1, o3), (s.heap.objs.size + 1 + 1, oc2), (s.heap.objs.size + 1, oc1)], _, _, _, _, _, F, N, TB, hC0 _ XB, .tail _ (.tail _ (.tail _ (.tail _ (.head _)))), hTab.tri, ?_, ?_, ?_⟩
                      · simp only [List.forall_mem_cons]
                        exact ⟨⟨.head _, (hD _ (.tail _ (.tail _ (.tail _ (.head _))))).symm⟩, ⟨.tail _ (.head _), neN (by (try dsimp only); omega)⟩, ⟨.tail _ (.tail _ (.head _)), neN (by (try dsimp only); omega)⟩, ⟨.tail _ (.tail _ (.tail _ (.head _))), neN (by (try dsimp only); omega)⟩, fun _ h => nomatch h⟩
                      · intro A' a C code bi u s₃ m₃ E' hA' ha FC NC hm
                        have hal := mem_le_msr ha
                        clear F N
                        walk_at "M steps"
                        walk_at "M go"
                        rename Kp _ _ => hkp
                        rw [Int.neg_neg, Int.toNat_natCast]
                        exact ⟨⟨_, rfl⟩, _, _, rfl, hkp⟩
                      · intro ga s₅ hsort
                        walk_at "M steps"
                        walk_at "M go"
                        refine hsort _ fun out ss' D2 e2 h₉ tk₉ g₉ ps₉ F9 N9 hD2 ho hp9 hso hext hge => ?_
                        clear F N
                        have hssr := sorted_srt hp9 hso
                        rw [hssr] at ho
                        have hT9 : TabOk h₉ ps₉ := (hTab.kw G (Kw.fin .refl F9.keep hNf)).ext hext (by decide)
                        have hlD2 : D2 ≠ 145 := (hD2 _ (.tail _ (.tail _ (.tail _ (.tail _ (.head _)))))).symm
                        have hmm := msr_map (fun s => s.take (s.length - (cpAll ((x :: y :: r).map List.reverse)).length)) (cpAll ((x :: y :: r).map List.reverse)).length (x :: y :: r) (fun a ha => by
                          have := (cpAll_pre (List.mem_map_of_mem (f := List.reverse) ha)).length_le
                          simp only [List.length_take, List.length_reverse] at *; omega)
                        have hms := msr_srt ((x :: y :: r).map fun s => s.take (s.length - (cpAll ((x :: y :: r).map List.reverse)).length))
                        have hsl2 := (srt_perm ((x :: y :: r).map fun s => s.take (s.length - (cpAll ((x :: y :: r).map List.reverse)).length))).length_eq
                        have hrl := roi_len n (srt ((x :: y :: r).map fun s => s.take (s.length - (cpAll ((x :: y :: r).map List.reverse)).length))) opn (srt_ne (by simp))
                        have hopn : opn.length = 3 := rfl
                        have hc1 : 1 ≤ (cpAll ((x :: y :: r).map List.reverse)).length := List.length_pos_iff.mpr hsne
                        have hll : (cpAll ((x :: y :: r).map List.reverse)).length * 1 ≤ (cpAll ((x :: y :: r).map List.reverse)).length * (x :: y :: r).length := Nat.mul_le_mul_left _ (by simp)
                        walk_at "M steps"
                        walk_at "M go"
                        refine ⟨by k_in, ?_⟩
                        rw [lit_8]
                        refine' ih (xs := srt ((x :: y :: r).map fun s => s.take (s.length - (cpAll ((x :: y :: r).map List.reverse)).length))) (p := opn) ?G ?X ?T ?hA ?hP ?hT ?tab ?hl ?hv ?hx ?h64 ?hri ?hn ?hp ?_
                        (case G => exact in_fl (M := [145]) G0 F9 N9 (List.forall_mem_singleton.mpr ⟨_, (.tail _ (.head _))⟩) (by rfl) (by rfl))
                        (case X => exact X.keeps (in_kp G0 F9 N9 (List.forall_mem_singleton.mpr ⟨_, (.tail _ (.head _))⟩) (by rfl) (by rfl)))
                        (case T => exact T.keeps (in_kp G0 F9 N9 (List.forall_mem_singleton.mpr ⟨_, (.tail _ (.head _))⟩) (by rfl) (by rfl)))
                        (case hA => omega)
                        (case hP => exact in_mu G0 F9 N9 (List.forall_mem_singleton.mpr ⟨_, (.tail _ (.head _))⟩) (by rfl) (by rfl) (.head _))
                        (case hT => exact N9.get (.tail _ (.head _)))
                        (case tab => exact hT9)
                        (case hl => exact in_list G0 F9 N9 (List.forall_mem_singleton.mpr ⟨_, (.tail _ (.head _))⟩) (by rfl) (by rfl) (.head _) (nin (List.forall_mem_singleton.mpr hlD2.symm)))
                        (case hv => exact ho)
                        (case hx => omega)
                        (case h64 => rw [hsl2, List.length_map]; exact h64)
                        (case hri => exact srt_pw _)
                        (case hn => omega)
                        (case hp => exact .inr (.inr rfl))
                        intro h₃ tk₃ t₃ ps₃ g₃ W₃ hT₃ hTab₃ hG₃
                        obtain ⟨h₄, W4, G4, X4, T4, F4, N4⟩ := frW (news' := [(145, tabObj ps₃)]) G0 X T .refl F9 N9 W₃ rfl
                          (List.forall_mem_singleton.mpr (N9 _ (.tail _ (.head _))).2.symm)
                          (List.forall_mem_singleton.mpr (.inl ⟨hT₃, .inr (.head _)⟩))
                        clear F9 N9 XB TB
                        walk_at "M steps"
                        walk_at "M go"
                        (with_reducible rename Fr _ _ _ _ => F); (with_reducible rename News _ _ _ _ => N)
                        rename Kp _ _ => hkr
                        refine ⟨by k_in, ?_⟩
                        refine escape_c (X4.keeps F.keep) (T4.keeps F.keep) (by omega) (by simp only [List.length_reverse]; omega) fun h₆ tk₆ t₆ hk6 => ?_
                        obtain ⟨F6, N6⟩ := frK F N hk6
                        have hk36 : TabOk h₆ ps₃ := (hTab₃.keeps hkr).keeps hk6
                        clear F N
                        walk_at "M steps"
                        (with_reducible rename Fr _ _ _ _ => F); (with_reducible rename News _ _ _ _ => N)
                        dsimp only
                        simp only [S_app]
                        have e : p ++ roi n (srt ((x :: y :: r).map fun s => s.take (s.length - (cpAll ((x :: y :: r).map List.reverse)).length))) opn ++ escL (cpAll ((x :: y :: r).map List.reverse)).reverse ++ cls p = roi (n + 1) (x :: y :: r) p := by
                          simp only [roi]
                          rw [if_neg hxne, if_neg hcond, if_neg (fun h => h hcp0), if_pos hsne]
                        rw [e]
                        exact ret _ _ _ ps₃ _ (Kw.fin W4 F.keep hNf) (N.get (.head _)) hk36 ⟨hge.trans hG₃.1, fun q v z => hG₃.2 q v (hext.grow hTab.tri q v z)⟩
                · rename (cpAll (x :: y :: r)).isEmpty = false => hcp
                  have hcpne : cpAll (x :: y :: r) ≠ [] := fun e => by rw [e] at hcp; cases hcp
                  have hell := escL_len (cpAll (x :: y :: r))
                  walk_at "M go"
                  (with_reducible rename Fr _ _ _ _ => F); (with_reducible rename News _ _ _ _ => N)
                  refine ⟨by k_in, ?_⟩
                  refine escape_c (XB.keeps F.keep) (TB.keeps F.keep) (by omega) (by omega) fun h₇ tk₇ t₇ hk7 => ?_
                  obtain ⟨F8, N8⟩ := frK F N hk7
                  clear F N
                  walk_at "M steps"
                  walk_at "M go"
                  with_reducible refine' compL (fun a => a.drop (cpAll (x :: y :: r)).length) ?c1 ?c2 ?c3 ?c4 ?c5 ?c6 ?_ ?c7
                  (case c1 => exact rfl); (case c2 => exact rfl); (case c3 => decide +kernel); (case c4 => exact rfl); (case c5 => decide +kernel); (case c6 => exact rfl); (case c7 => intro _; rfl)
                  walk_at "M steps"
                  walk_at "M go"
                  refine ⟨_, _, x :: y :: r, rfl, isL_base F8 hl1, hvs', by simp only [List.length_cons]; omega, _, _, _, _, F8, N8, ?_, ?_⟩
                  · intro a C u s₃ m₃ E' ha hk FC NC hm
                    have hal := mem_le_msr ha
                    clear F8 N8
                    walk_at "M steps"
                    walk_at "M go"
                    rename Kp _ _ => hkp
                    rw [Int.toNat_natCast]
                    exact ⟨⟨_, rfl⟩, _, _, rfl, hkp⟩
                  · intro D h' tk' ys nn F N hD hys hk
                    clear F8 N8
                    have hmm := msr_map (fun s => s.drop (cpAll (x :: y :: r)).length) (cpAll (x :: y :: r)).length (x :: y :: r) (fun a ha => by
                      have := (cpAll_pre ha).length_le
                      simp only [List.length_drop]; omega)
                    have hrl := roi_len n ((x :: y :: r).map fun s => s.drop (cpAll (x :: y :: r)).length) opn (by simp)
                    have hopn : opn.length = 3 := rfl
                    have hc1 : 1 ≤ (cpAll (x :: y :: r)).length := List.length_pos_iff.mpr hcpne
                    have hll : (cpAll (x :: y :: r)).length * 1 ≤ (cpAll (x :: y :: r)).length * (x :: y :: r).length := Nat.mul_le_mul_left _ (by simp)
                    have hlD : ∀ q ∈ _, (q : Addr × Obj).1 ≠ D := hD
                    walk_at "M steps"
                    walk_at "M go"
                    refine ⟨by k_in, ?_⟩
                    rw [lit_8]
                    refine' ih (xs := (x :: y :: r).map fun s => s.drop (cpAll (x :: y :: r)).length) (p := opn) ?G ?X ?T ?hA ?hP ?hT ?tab ?hl ?hv ?hx ?h64 ?hri ?hn ?hp ?_
                    (case G => exact in_fl (M := [145]) G0 F N (List.forall_mem_singleton.mpr ⟨_, (.tail _ (.tail _ (.tail _ (.tail _ (.head _)))))⟩) (by rfl) (by rfl))
                    (case X => exact X.keeps (in_kp G0 F N (List.forall_mem_singleton.mpr ⟨_, (.tail _ (.tail _ (.tail _ (.tail _ (.head _)))))⟩) (by rfl) (by rfl)))
                    (case T => exact T.keeps (in_kp G0 F N (List.forall_mem_singleton.mpr ⟨_, (.tail _ (.tail _ (.tail _ (.tail _ (.head _)))))⟩) (by rfl) (by rfl)))
                    (case hA => omega)
                    (case hP => exact in_mu G0 F N (List.forall_mem_singleton.mpr ⟨_, (.tail _ (.tail _ (.tail _ (.tail _ (.head _)))))⟩) (by rfl) (by rfl) (.head _))
                    (case hT => exact N.get (.tail _ (.tail _ (.tail _ (.tail _ (.head _))))))
                    (case tab => exact hTab.kw G (Kw.fin .refl F.keep hNf))
                    (case hl => exact in_list G0 F N (List.forall_mem_singleton.mpr ⟨_, (.tail _ (.tail _ (.tail _ (.tail _ (.head _)))))⟩) (by rfl) (by rfl) (.head _) (nin (List.forall_mem_singleton.mpr (hD _ (.tail _ (.tail _ (.tail _ (.head _))))))))
                    (case hv => rw [List.map_map]; exact hys)
                    (case hx => omega)
                    (case h64 => rw [List.length_map]; exact h64)
                    (case hri => exact rise_drop (fun a ha => cpAll_pre ha) hri)
                    (case hn => omega)
                    (case hp => exact .inr (.inr rfl))
                    intro h₃ tk₃ t₃ ps₃ g₃ W₃ hT₃ hTab₃ hG₃
                    obtain ⟨h₄, W4, G4, X4, T4, F4, N4⟩ := frW (news' := [(145, tabObj ps₃)]) G0 X T .refl F N W₃ rfl
                      (List.forall_mem_singleton.mpr (N _ (.tail _ (.tail _ (.tail _ (.tail _ (.head _)))))).2.symm)
                      (List.forall_mem_singleton.mpr (.inl ⟨hT₃, .inr (.head _)⟩))
                    clear F N XB TB
                    walk_at "M steps"
                    (with_reducible rename Fr _ _ _ _ => F)
                    dsimp only
                    simp only [S_app]
                    have e : p ++ escL (cpAll (x :: y :: r)) ++ roi n ((x :: y :: r).map fun s => s.drop (cpAll (x :: y :: r)).length) opn ++ cls p = roi (n + 1) (x :: y :: r) p := by
                      simp only [roi]
                      rw [if_neg hxne, if_neg hcond, if_pos hcpne]
                    rw [e]
                    exact ret _ _ _ ps₃ _ (Kw.fin W4 F.keep hNf) hT₃ hTab₃ hG₃
              · exact hv
end
end Mine
theorem Mine.off35 : True := by w_top off; trivial
-- P17a_set
namespace Mine
theorem standIn_led (t : SetTable) (n : Nat) : (t.standIn n).led = t.led := rfl
theorem orStandIn_led (t : SetTable) (n : Nat) : (t.orStandIn n).led = t.led := by unfold SetTable.orStandIn; split <;> rfl
theorem layNew_led (t : SetTable) (es : Array (Int × Value)) (h : Int) (x : Value) : (layNew t es h x).2.1.led = t.led := by
  unfold layNew
  split
  · exact orStandIn_led _ _
  · rfl
theorem orStandIn_plain (t : SetTable) (n : Nat) (h : t.plain = false) : (t.orStandIn n).plain = false := by unfold SetTable.orStandIn; split; exact h; rfl
theorem layNew_plain (t : SetTable) (es : Array (Int × Value)) (h : Int) (x : Value) (hp : t.plain = false) : (layNew t es h x).2.1.plain = false := by
  unfold layNew
  split
  · exact orStandIn_plain _ _ hp
  · rfl
theorem laid_flags {mask finger moves : Nat} {led plain : Bool} {hashes : Array Int} {t : SetTable} {o : Array Nat} (h : SetTable.laid mask finger moves led plain hashes = some (t, o)) : t.led = led ∧ t.plain = plain := by
  unfold SetTable.laid at h
  cases e : SetTable.layClean mask hashes with
  | none => rw [e] at h; cases h
  | some owner =>
    rw [e] at h
    cases h
    exact ⟨rfl, rfl⟩
theorem relayAll_led (t : SetTable) (es : Array (Int × Value)) (wanted : Nat) : (relayAll t es wanted).2.1.led = t.led := by
  unfold relayAll
  split
  · rename_i t' order e
    dsimp only
    split
    · exact (laid_flags e).1
    · rfl
  · rfl
theorem relayAll_plain (t : SetTable) (es : Array (Int × Value)) (wanted : Nat) (hp : t.plain = false) : (relayAll t es wanted).2.1.plain = false := by
  unfold relayAll
  split
  · rename_i t' order e
    dsimp only
    split
    · exact (laid_flags e).2.trans hp
    · rfl
  · rfl
/-- a set of texts, with its table's marks -/
structure SetS (prog : Program) (w : World) (o : Obj) (led : Bool) (ys : List Str) : Prop where
  ex : o.ExactSet
  at_ : ∃ es ep t, o.data = .set es ep t ∧ ElemsOf (strKind prog w) es.toList ∧ (es.toList.map (·.2)).Perm (es.toList.map (·.2)) ∧ (∃ us, StrsAre (es.toList.map (·.2)) us ∧ us.Perm ys) ∧ t.fits es.size = true ∧ t.led = led ∧ (ys ≠ [] → t.plain = false)
theorem strsAre_mem {vs : List Value} {ss : List Str} (h : StrsAre vs ss) {v : Value} (hv : v ∈ vs) : ∃ y u, y ∈ ss ∧ v = .str y u := by
  induction h with
  | nil => cases hv
  | cons x t h ih =>
    rcases List.mem_cons.mp hv with rfl | hv
    · exact ⟨x, t, .head _, rfl⟩
    · obtain ⟨y, u, hy, e⟩ := ih hv
      exact ⟨y, u, .tail _ hy, e⟩
theorem strsAre_perm {vs ws : List Value} {ss : List Str} (h : StrsAre vs ss) (p : ws.Perm vs) : ∃ us, StrsAre ws us ∧ us.Perm ss := by
  induction p generalizing ss with
  | nil => exact ⟨ss, h, .refl _⟩
  | cons a p ih =>
    cases h with
    | cons x t h =>
      obtain ⟨us, h1, h2⟩ := ih h
      exact ⟨x :: us, .cons _ _ h1, h2.cons _⟩
  | swap a b l =>
    cases h with
    | cons x t h =>
      cases h with
      | cons y u h => exact ⟨_, .cons _ _ (.cons _ _ h), .swap ..⟩
  | trans p q ihp ihq =>
    obtain ⟨us, h1, h2⟩ := ihq h
    obtain ⟨us', h3, h4⟩ := ihp h1
    exact ⟨us', h3, h4.trans h2⟩
theorem strsAre_append {vs ws : List Value} {ss us : List Str} (h : StrsAre vs ss) (k : StrsAre ws us) : StrsAre (vs ++ ws) (ss ++ us) := by
  induction h with
  | nil => exact k
  | cons x t h ih => exact .cons _ _ ih
section
variable {prog : Program} {w : World} {A : Around} {E : Value → Shared → Prop} {s : Shared}
theorem addTailS {g : Bool → Sem Unit} (hg : ∀ (b : Bool) (s₁ : Shared) (Q' : Unit → Shared → Prop), Q' () s₁ → wpAny (model prog w) A (g b) Q' E s₁)
    {a : Addr} {o : Obj} {es es1 : Array (Int × Value)} {ep : Nat} {t t2 : SetTable} {led : Bool} {ys : List Str} (ho : s.heap.get? a = some o) (hex : o.ExactSet) (hd : o.data = .set es ep t)
    (hel : ElemsOf (strKind prog w) es1.toList) (hus : ∃ us, StrsAre (es1.toList.map (·.2)) us ∧ us.Perm ys) (hb : es1.size < scanBound) (hf : t2.fits es1.size = true) (hl : t2.led = led) (hp : t2.plain = false) {wasDummy : Bool} {R : Option Bool → Shared → Prop}
    (h : ∀ h' o', Heap.SameBut a s.heap h' → h'.get? a = some o' → SetS prog w o' led ys → R (some true) { s with heap := h' }) :
    wpAny (model prog w) A (do
        storeSet a es1 t2
        if (!wasDummy && t2.tooFull) = true then do
            g (relayAll t2 es1 (SetTable.grown es1.size)).2.2
            storeSet a (relayAll t2 es1 (SetTable.grown es1.size)).1 (relayAll t2 es1 (SetTable.grown es1.size)).2.1
            pure (some true)
          else pure (some true)) R E s := by
  refine wpAny_bind (wpAny_storeSet_of ho hd ?_ (fits_of_scanBound hb))
  have get1 : ∀ {h0 : Heap} {o0 : Obj} {e0 : Array (Int × Value)} {p0 : Nat} {t0 : SetTable} (e' : Array (Int × Value)) (t' : SetTable), h0.get? a = some o0 → o0.data = .set e0 p0 t0 → (h0.update a (Obj.putSet e' t')).get? a = some { o0 with data := .set e' (p0 + 1) t' } := fun {h0 o0 e0 p0 t0} e' t' ho hd => by
    have := Heap.get?_update_self (Obj.putSet e' t') ho (by rw [putSet_of e' t' hd]; rfl)
    rw [putSet_of e' t' hd] at this; exact this
  have ho1 := get1 es1 t2 ho hd
  have hsb1 := Heap.SameBut.update s.heap a (Obj.putSet es1 t2)
  split
  · have hpm := relayAll_perm t2 es1 (SetTable.grown es1.size)
    have hfr := relayAll_fits t2 es1 (SetTable.grown es1.size)
    have hrl := relayAll_led t2 es1 (SetTable.grown es1.size)
    have hrp := relayAll_plain t2 es1 (SetTable.grown es1.size) hp
    generalize relayAll t2 es1 (SetTable.grown es1.size) = Rl at hpm hfr hrl hrp ⊢
    obtain ⟨es2, t3, gave2⟩ := Rl
    dsimp only at hpm hfr hrl hrp ⊢
    have hsz : es2.size = es1.size := by rw [← Array.length_toList, hpm.length_eq, Array.length_toList]
    refine wpAny_bind (hg _ _ _ ?_)
    refine wpAny_bind (wpAny_storeSet_of ho1 rfl ?_ (fits_of_scanBound (by rw [hsz]; exact hb)))
    refine wpAny_pure (h _ _ (hsb1.trans (Heap.SameBut.update _ a _)) (get1 es2 t3 ho1 rfl) ⟨hex, es2, _, t3, rfl, hel.perm hpm, .refl _, ?_, hfr, hrl.trans hl, fun _ => hrp⟩)
    obtain ⟨us, h1, h2⟩ := hus
    obtain ⟨us', h3, h4⟩ := strsAre_perm h1 (hpm.map (·.2))
    exact ⟨us', h3, h4.trans h2⟩
  · exact wpAny_pure (h _ _ hsb1 ho1 ⟨hex, es1, _, t2, rfl, hel, .refl _, hus, hf, hl, fun _ => hp⟩)
theorem setAddS {a : Addr} {o : Obj} {led : Bool} {ys : List Str} {y : Str} {u : Tok} {Q : Bool → Shared → Prop} (ho : s.heap.get? a = some o) (hS : SetS prog w o led ys) (hy : y ∉ ys) (hroom : ys.length < 1000)
    (h : ∀ h' o', Heap.SameBut a s.heap h' → h'.get? a = some o' → SetS prog w o' led (ys ++ [y]) → Q true { s with heap := h' }) :
    wpAny (model prog w) A (setAddHashed a (.str y u) (hashStr w y)) Q E s := by
  obtain ⟨hex, es, ep, t, hd, hel, _, ⟨us, hus, hpy⟩, hf, hl, hp⟩ := hS
  have hlen : es.size = ys.length := by rw [← hpy.length_eq, ← strsLen hus, List.length_map, Array.length_toList]
  have hkey : (strKind prog w).is y (.str y u) = true := strKind_is _ _ _ _
  have hb4 : scanBound = 4096 := rfl
  unfold setAddHashed setAddHashedIn
  refine wpAny_holding (wpAny_bind (wpAny_setState_of ho hd hf ?_))
  dsimp only
  rw [byScan_of (knd := strKind prog w) rfl (by omega) hel]
  simp only [↓reduceIte]
  unfold setAddByScan
  refine wpAny_bind ?_
  refine wpAny_bind (wpAny_rule ?_)
  refine wpAny_bind (wpAny_setScan_of (knd := strKind prog w) (k := y) hkey ho hd hf hel ?_)
  have hnone : es.toList.findIdx? (fun e => (strKind prog w).is y e.2) = none := by
    rw [List.findIdx?_eq_none_iff]
    intro e he
    cases hq : (strKind prog w).is y e.2 with
    | false => rfl
    | true =>
      obtain ⟨t', e'⟩ := Value.isStrOf_shape (show Value.isStrOf y e.2 = true from hq)
      obtain ⟨z, u', hz, e2⟩ := strsAre_mem hus (List.mem_map_of_mem (f := (·.2)) he)
      rw [e'] at e2
      cases e2
      exact absurd (hpy.mem_iff.mp hz) hy
  rw [hnone]
  dsimp only
  have hgw : ∀ (b : Bool) {s₁ : Shared} {Q' : Unit → Shared → Prop}, Q' () s₁ → wpAny (model prog w) A (match b with | true => rule "set.scan.the-table-gave-way" | false => pure ()) Q' E s₁ :=
    fun b s₁ Q' hq => by cases b <;> first | exact wpAny_pure hq | exact wpAny_rule hq
  have hperm := layNew_perm t es (hashStr w y) (.str y u)
  have hfits := layNew_fits t es (hashStr w y) (.str y u)
  have hled := layNew_led t es (hashStr w y) (.str y u)
  have hpl := layNew_plain t es (hashStr w y) (.str y u)
  generalize layNew t es (hashStr w y) (.str y u) = L at hperm hfits hled hpl ⊢
  obtain ⟨es1, t1, wasDummy, gave⟩ := L
  dsimp only at hperm hfits hled hpl ⊢
  rw [Array.toList_push] at hperm
  have hel1 : ElemsOf (strKind prog w) es1.toList := (hel.push (k := y) hkey rfl).perm hperm
  have hus1 : ∃ us, StrsAre (es1.toList.map (·.2)) us ∧ us.Perm (ys ++ [y]) := by
    have h1 := hperm.map (·.2)
    rw [List.map_append, List.map_cons, List.map_nil] at h1
    obtain ⟨us', h3, h4⟩ := strsAre_perm (strsAre_append hus (.cons y u .nil)) h1
    exact ⟨us', h3, h4.trans (hpy.append_right _)⟩
  have hsz1 : es1.size = ys.length + 1 := by rw [← Array.length_toList, hperm.length_eq, List.length_append, Array.length_toList, hlen]; rfl
  refine wpAny_bind (hgw _ ?_)
  split
  · refine wpAny_bind ?_
    rw [hashByValue_scannable 8 rfl]
    refine wpAny_pure ?_
    simp only [plainKind, Bool.false_eq_true, if_false]
    refine addTailS (led := led) (ys := ys ++ [y]) ?_ ho hex hd hel1 hus1 (by omega) (SetTable.fits_plain_off hfits) (hled.trans hl) rfl ?_
    · intro b s₁ Q' hq; cases b <;> first | exact wpAny_pure hq | exact wpAny_rule hq
    · intro h' o' hsb ho' hS'; dsimp only; exact wpAny_pure (h h' o' hsb ho' hS')
  · rename_i hnp
    refine wpAny_bind (wpAny_pure ?_)
    simp only [↓reduceIte]
    refine addTailS (led := led) (ys := ys ++ [y]) ?_ ho hex hd hel1 hus1 (by omega) hfits (hled.trans hl) (by simpa using hnp) ?_
    · intro b s₁ Q' hq; cases b <;> first | exact wpAny_pure hq | exact wpAny_rule hq
    · intro h' o' hsb ho' hS'; dsimp only; exact wpAny_pure (h h' o' hsb ho' hS')
end
end Mine
theorem Mine.off36 : True := by w_top off; trivial
-- P17b_setnew
namespace Mine
-- the kit's step, its dear arms last
local macro_rules | `(tactic| walk_at "M fast") => `(tactic| (first | (with_reducible (first | refine wpAny_pure ?_ | refine wpAny_bind ?_ | refine wpAny_holding ?_ | refine wpAny_standAt ?_ | refine wpAny_point ?_ | refine wpAny_rule ?_ | refine wpAny_letGo ?_ | refine wpAny_attempt ?_ | refine wpAny_of_eq (by assumption) ?_ | refine wpAny_typeOf (by assumption) ?_ | refine wpAny_specialOf_val (by assumption) (by assumption) ?_ | refine wpAny_specialOf (by assumption) (by assumption) ?_ | refine wpAny_isInstance_val (by assumption) (by assumption) ?_ | refine wpAny_isInstance (by assumption) (by assumption) ?_ | refine wpAny_call ?_ | refine wpAny_runValue ?_ | refine wpAny_run ?_)) | ((with_reducible apply wpAny_load'); focus (heap_get; done)) | ((with_reducible apply wpAny_loadPart'); focus (heap_get; done)) | ((with_reducible apply wpAny_ite_false); focus (rfl; done)) | ((with_reducible apply wpAny_ite_true); focus (rfl; done)) | ((with_reducible apply wpAny_ite_false); focus (simp only [*]; done)) | wp_delta | wp_step))
section
variable {prog : Program} {w : World} {A : Around} {E : Value → Shared → Prop} {s : Shared} {h₀ : Heap} {L : Addr} {m : Str → Option Value} {news : List (Addr × Obj)}
theorem setLoop {l I T : Addr} {vs : List Value} {xs : List Str} {led : Bool} {R : Result → Shared → Prop} (hh : A.handled = none) (hl : h₀.IsList l vs.toArray) (hvs : StrsAre vs xs) (hnd : xs.Nodup) (h64 : xs.length < 1000) (hIT : I ≠ T) (hne : ∀ p ∈ news, p.1 ≠ I ∧ p.1 ≠ T) :
    ∀ (k i : Nat) (s : Shared) (o : Obj), xs.length - i = k → i ≤ xs.length → Fr h₀ L s.heap m → News h₀ L s.heap ((I, itObj l i) :: (T, o) :: news) → SetS prog w o led (xs.take i) →
      (∀ h' tk o', Fr h₀ L h' m → News h₀ L h' ((T, o') :: news) → SetS prog w o' led xs → R (.ok (.ret .none)) { s with heap := h', toks := tk }) →
      codeAny (model prog w) A (.builtin "set.update.loop" ⟨[.ref T, .ref I], []⟩) R s := by
  have hlen : vs.length = xs.length := strsLen hvs
  intro k
  induction k with
  | zero =>
    intro i s o hk hi FF N hS hR
    obtain rfl : i = xs.length := by omega
    refine codeAny_builtin F.entry_set_update_loop ?_
    rw [Around.under_plainId F.plain_set_update_loop _]
    show wpAny _ A.in1 (pyNext (.ref I) >>= _) _ _ s
    refine wpAny_bind (nextL_end hh FF N (fun p hp => ?_) (isL_base FF hl) (by simp [hlen]) fun h' F' N' hk' => ?_)
    · rcases List.mem_cons.mp hp with rfl | hp
      · exact hIT.symm
      · exact (hne p hp).1
    · show wpAny _ _ (ret Value.none) _ _ _
      rw [List.take_length] at hS
      exact wpAny_pure (hR h' _ o F' N' hS)
  | succ k ih =>
    intro i s o hk hi FF N hS hR
    have hlt : i < xs.length := by omega
    obtain ⟨t, ht⟩ := strsAre_at hvs (i := i) (y := xs[i]) (by simp [hlt])
    refine codeAny_builtin F.entry_set_update_loop ?_
    rw [Around.under_plainId F.plain_set_update_loop _]
    show wpAny _ A.in1 (pyNext (.ref I) >>= _) _ _ s
    refine wpAny_bind (nextL FF N (fun p hp => ?_) (isL_base FF hl) (by simpa using ht) fun h' F' N' hk' => ?_)
    · rcases List.mem_cons.mp hp with rfl | hp
      · exact hIT.symm
      · exact (hne p hp).1
    show wpAny _ A.in1 (holding [Value.str xs[i] t] (setAdd T (.str xs[i] t)) >>= _) _ _ _
    refine wpAny_bind (wpAny_holding ?_)
    unfold setAdd
    refine wpAny_holding ?_
    refine wpAny_bind ((strKind prog w).pyHash (k := xs[i]) (strKind_is _ _ _ _) ?_)
    have hts : xs.take (i + 1) = xs.take i ++ [xs[i]] := by rw [List.take_add_one, List.getElem?_eq_getElem hlt]; rfl
    refine setAddS (s := { s with heap := h', toks := s.toks + 1 }) (N'.get (.tail _ (.head _))) hS (fun hm => ?_) (by rw [List.length_take]; omega) fun h₂ o₂ hsb ho₂ hS₂ => ?_
    · obtain ⟨j, hj, e⟩ := List.getElem_of_mem hm
      have hj' : j < i ∧ j < xs.length := by rw [List.length_take] at hj; omega
      rw [List.getElem_take] at e
      have := (List.getElem_inj hnd).mp e
      omega
    · rw [← hts] at hS₂
      have k2 : ∀ b ob, b ≠ T → h'.get? b = some ob → h₂.get? b = some ob := fun b ob hb e => (hsb.2 b hb).trans e
      have N1 : News h₀ L h' ((T, o) :: (I, itObj l (i + 1)) :: news) := fun p hp => N' p (by
        rcases List.mem_cons.mp hp with rfl | hp
        · exact .tail _ (.head _)
        · rcases List.mem_cons.mp hp with rfl | hp
          · exact .head _
          · exact .tail _ (.tail _ hp))
      obtain ⟨F2, N2⟩ := newsHead F' N1 (fun p hp => by
        rcases List.mem_cons.mp hp with rfl | hp
        · exact hIT
        · exact (hne p hp).2) k2 ho₂
      refine wpAny_pure ⟨plainId_quiet F.plain_set_update_loop _, ?_⟩
      refine ih (i + 1) _ o₂ (by omega) hlt F2 (fun p hp => N2 p (by
        rcases List.mem_cons.mp hp with rfl | hp
        · exact .tail _ (.head _)
        · rcases List.mem_cons.mp hp with rfl | hp
          · exact .head _
          · exact .tail _ (.tail _ hp))) hS₂ hR
theorem code_set_led (a : Value) {Q₁ : Value → Shared → Prop}
    (h : Q₁ (.ref s.heap.objs.size) { s with heap := s.heap.push { cls := .type "set", dict := none, data := .set #[] 0 (.fresh 0 0 (!w.params.followText "set-order")) } }) :
    codeAny (model prog w) A (.call (.builtin "set.__new__") ⟨[.type "set", a], []⟩) (wants Q₁ E) s := by
  refine codeAny_of_tree ?_
  show wpAny _ A.in1 (do checkBuiltinCall "set.__new__" ⟨[.type "set", a], []⟩; again (.builtin "set.__new__" ⟨[.type "set", a], []⟩)) _ _ s
  refine wpAny_bind (wpAny_of_eq (F.newCall_set_1 a) (wpAny_pure ⟨plainId_quiet F.plain_set_new _, codeAny_builtin F.entry_set_new ?_⟩))
  rw [Around.under_plainId F.plain_set_new _]
  unfold Builtin.«set.__new__» Builtin.Frozenset.newClass
  have hsub := sub_set_self
  obtain ⟨hp, g, d, tk, os⟩ := s
  dsimp only
  wp_walk
  refine wpAny_askSetting (wpAny_pure ?_)
  dsimp only
  simp only [newObj]
  refine wpAny_bind (wpAny_alloc (wpAny_pure ?_))
  exact wpAny_pure h
theorem fresh_set : SetS prog w { cls := .type "set", dict := none, data := .set #[] 0 (.fresh 0 0 (!w.params.followText "set-order")) } (!w.params.followText "set-order") [] :=
  ⟨⟨rfl, rfl, rfl⟩, #[], 0, _, rfl, fun e he => by simp at he, .refl _, ⟨[], .nil, .refl _⟩, rfl, rfl, fun h => absurd rfl h⟩
set_option maxHeartbeats 8000000 in
/-- set over a list of texts, each once -/
theorem call_set_strs {l : Addr} {vs : List Value} {xs : List Str} {Q : Value → Shared → Prop} (hh : A.handled = none) (FF : Fr h₀ L s.heap m) (N : News h₀ L s.heap news) (hl : h₀.IsList l vs.toArray) (hvs : StrsAre vs xs) (hnd : xs.Nodup) (h64 : xs.length < 1000)
    (h : ∀ T o h' tk, Fr h₀ L h' m → News h₀ L h' ((T, o) :: news) → (∀ p ∈ news, p.1 < T) → SetS prog w o (!w.params.followText "set-order") xs → Q (.ref T) { s with heap := h', toks := tk }) :
    wpAny (model prog w) A (call (.type "set") [.ref l]) Q E s := by
  obtain ⟨c, tl, hmro⟩ := F.called_set.mro
  have hmade := F.called_set.made
  have hsub := F.called_set.sub
  have hlS := isL_base FF hl
  generalize hTe : s.heap.objs.size = T at *
  have F1 := FF.push (o := { cls := .type "set", dict := none, data := .set #[] 0 (.fresh 0 0 (!w.params.followText "set-order")) })
  have N1 := News.push FF N { cls := .type "set", dict := none, data := .set #[] 0 (.fresh 0 0 (!w.params.followText "set-order")) } rfl
  rw [hTe] at N1
  have hlt : ∀ q ∈ news, q.1 < T := fun q hq => by rw [← hTe]; exact Heap.lt_size (N q hq).1
  refine wpAny_call (codeAny_of_tree ?_)
  show wpAny _ _ (callAny (.type "set") _) _ _ _
  refine wpAny_pure ⟨Code.quiet_builtin _ (by decide +kernel), codeAny_builtin F.entry_type_call ?_⟩
  rw [Around.under_plain (weight_type_call_type "set" [.ref l] []) rfl]
  have h1 := F.called_set.notType
  have h2 := F.called_set.canCreate
  have hct := F.typeCall_set_1 (.ref l)
  repeat (any_goals (first | assumption | walk_at "M fast"))
  refine codeAny_mono (code_set_led (.ref l) (E := E) (Q₁ := fun obj s₁ => obj = .ref T ∧ s₁ = { s with heap := s.heap.push { cls := .type "set", dict := none, data := .set #[] 0 (.fresh 0 0 (!w.params.followText "set-order")) } }) ⟨by rw [hTe], rfl⟩) fun r s₁ hr => ?_
  cases r with
  | error e => exact hr
  | ok fl =>
    cases fl with
    | ret obj =>
      obtain ⟨rfl, rfl⟩ := hr
      have hT : Shared.TypeIs { s with heap := s.heap.push { cls := .type "set", dict := none, data := .set #[] 0 (.fresh 0 0 (!w.params.followText "set-order")) } } (.ref T) "set" := ⟨_, (N1 _ (.head _)).1, rfl⟩
      have hli := F.called_set.init.lookup
      have hbi := F.called_set.init.bind (.ref T)
      repeat (any_goals (first | assumption | walk_at "M fast"))
      refine codeAny_mono (codeAny_call_builtin (R := wants (fun r s₂ => r = .none ∧ Q (.ref T) s₂) E) F.called_set.init.plain F.entry_set_init (check_set_init_1 hT ?_)) fun r₂ s₂ hr₂ => ?_
      · have hl1 := hl.at fun o e => F1.keep _ o e
        have hS1 := (N1 _ (.head _)).1
        dsimp only at hS1
        generalize s.heap.push { cls := .type "set", dict := none, data := .set #[] 0 (.fresh 0 0 (!w.params.followText "set-order")) } = h₁ at *
        obtain ⟨ol, hol, hcl, nl, hdl⟩ := id hl1
        obtain ⟨ocls, odict, odata, oslots⟩ := ol
        simp only at hcl hdl
        subst hcl; subst hdl
        have hol' : h₁.get? l = some { cls := .type "list", dict := odict, data := .seq vs.toArray nl, slots := oslots } := hol
        have hsls := F.sub_list_set
        have hslf := F.sub_list_frozenset
        have hne : (Value.type "list" == Value.type "dict") = false := by decide
        unfold Builtin.«set.__init__» noKeywords Builtin.Frozenset.updateFrom
        generalize hPI : pyIter = PI
        repeat walk_at "M fast"
        subst hPI
        refine iterL (s := { s with heap := h₁ }) F1 N1 hl1 fun I h₂ F2 N2 lI _ => ?_
        refine wpAny_bind (wpAny_runValue ?_)
        refine setLoop (prog := prog) (A := A.in1.in1) (T := T) (show A.in1.in1.handled = none from hh) hl hvs hnd h64 (Nat.ne_of_gt (lI _ (.head _))) (fun p hp => ⟨Nat.ne_of_lt (lI _ (.tail _ hp)), Nat.ne_of_lt (hlt p hp)⟩) (xs.length - 0) 0 { s with heap := h₂ } _ rfl (Nat.zero_le _) F2 N2 fresh_set fun h₃ tk o' F3 N3 hS3 => ?_
        show wpAny _ _ _ _ _ _
        refine wpAny_pure ?_
        show wpAny _ _ (ret Value.none) _ _ _
        exact wpAny_pure ⟨rfl, h T o' h₃ tk F3 N3 hlt hS3⟩
      · cases r₂ with
        | error e => exact hr₂
        | ok fl₂ =>
          cases fl₂ with
          | ret r =>
            obtain ⟨rfl, hq⟩ := hr₂
            repeat (any_goals (first | assumption | walk_at "M fast"))
          | _ => exact hr₂.elim
    | _ => exact hr.elim
end
end Mine
theorem Mine.off37 : True := by w_top off; trivial
-- P17c_seti
namespace Mine
theorem slot_seti_next : Slot "set_iterator" "__next__" "set_iterator.__next__" :=
  .of (owner := "set_iterator") (n := "__next__") (by rw [typeLookup_type, builtinLookup_eq_fast]; kernel_rfl) (by decide +kernel) (by decide +kernel) (by decide +kernel)
    (by first | exact .inl (by decide +kernel) | exact .inr (by decide +kernel)) (by rw [isSubtype_type]; kernel_rfl)
theorem entry_seti_next : entryFor table "set_iterator.__next__" = some Builtin.«set_iterator.__next__» := entryFor_of_fast (by kernel_rfl)
theorem args_seti_next (a : Value) : argsOk "set_iterator.__next__" ⟨[a], []⟩ := by unfold argsOk; kernel_rfl
theorem entry_set_iter' : entryFor table "set.__iter__" = some Builtin.«frozenset.__iter__» :=
  entryFor_alias (id' := "frozenset.__iter__") (by kernel_rfl) rfl (by decide +kernel) (by kernel_rfl)
theorem set_len : typeLookup (.type "set") "__len__" = pure (some (.builtin "set.__len__")) := by rw [typeLookup_type, builtinLookup_eq_fast]; kernel_rfl
theorem set_is_set : isSubtype (.type "set") (.type "set") = pure true := by rw [isSubtype_type]; kernel_rfl
theorem erase_perm {α : Type} : ∀ {l : List α} {i : Nat} (h : i < l.length), (l[i] :: l.eraseIdx i).Perm l
  | a :: l, 0, _ => .refl _
  | a :: l, i + 1, h => ((List.Perm.swap ..).trans ((erase_perm (l := l) (i := i) (by simpa using h)).cons a))
theorem pick_go (next : Nat → Nat) {α : Type} : ∀ (n k : Nat) (left : List α) (out : Array α), left.length ≤ n → (pickOrder.go next n k left out).toList.Perm (out.toList ++ left)
  | 0, k, left, out, h => by
    have : left = [] := List.length_eq_zero_iff.mp (Nat.le_zero.mp h)
    subst this
    simp [pickOrder.go]
  | n + 1, k, left, out, h => by
    unfold pickOrder.go
    cases e : left[next k % left.length]? with
    | none =>
      have : left = [] := by
        cases left with
        | nil => rfl
        | cons a l => rw [List.getElem?_eq_getElem (Nat.mod_lt _ (by simp))] at e; cases e
      subst this
      simp
    | some x =>
      obtain ⟨hj, ex⟩ := List.getElem?_eq_some_iff.mp e
      have hl := List.length_eraseIdx_of_lt hj
      refine (pick_go next n (k + 1) _ _ (by omega)).trans ?_
      rw [Array.toList_push, List.append_assoc]
      refine List.Perm.append_left _ ?_
      rw [← ex]
      exact (erase_perm hj)
theorem pick_perm {α : Type} (next : Nat → Nat) (xs : Array α) : (pickOrder next xs).toList.Perm xs.toList := by
  have := pick_go next xs.size 0 xs.toList #[] (by simp)
  simpa [pickOrder] using this
section
variable {prog : Program} {w : World} {A : Around} {E : Value → Shared → Prop} {s : Shared}
theorem chooseAny {M : Model} {src : Source} {n : Nat} {Q : Nat → Shared → Prop} (hn : n ≠ 0) (h : ∀ i d, i < n → Q i { s with drawn := d }) : wpAny M A (choose src n) Q E s := fun Γ p hΓ => by
  show Sem.wp M Γ (.choose src n .pure) _ _ p s
  rw [Sem.wp_choose]
  exact ⟨hn, by
    have := h (M.w.draws src (s.drawn.get src) % n) (s.drawn.bump src) (Nat.mod_lt _ (Nat.pos_of_ne_zero hn))
    simpa [Sem.wp] using this⟩
theorem drawAny {α : Type} : ∀ (n : Nat) (xs : List α) {s : Shared} {Q : List α → Shared → Prop}, xs.length = n → (∀ ys d, ys.Perm xs → Q ys { s with drawn := d }) → wpAny (model prog w) A (drawOrder n xs) Q E s
  | 0, xs, s, Q, hn, h => by
    have : xs = [] := List.length_eq_zero_iff.mp hn
    subst this
    exact wpAny_pure (h [] s.drawn (.refl _))
  | n + 1, [], s, Q, hn, h => by cases hn
  | n + 1, a :: xs, s, Q, hn, h => by
    show wpAny _ _ (choose .order (a :: xs).length >>= _) _ _ _
    refine wpAny_bind (chooseAny (by simp) fun i d hi => ?_)
    rw [List.getElem?_eq_getElem hi]
    refine wpAny_bind (drawAny n ((a :: xs).eraseIdx i) (by rw [List.length_eraseIdx_of_lt hi]; omega) fun ys d' hp => ?_)
    refine wpAny_pure (h _ d' ?_)
    exact (hp.cons _).trans (erase_perm hi)
end
end Mine
theorem Mine.off38 : True := by w_top off; trivial
-- P17d_seti2
namespace Mine
abbrev siObj (first : Value) (i : Nat) (T : Addr) (n ep : Nat) : Obj := { cls := .type "set_iterator", data := .fields #[first, .int i 0, .ref T, .int n 0, .int ep 0] }
section
variable {prog : Program} {w : World} {A : Around} {E : Value → Shared → Prop} {s : Shared}
theorem setiAt {h : Heap} {I T : Addr} {first : Value} {i n ep : Nat} (e : h.get? I = some (siObj first i T n ep)) (k : Nat) (v : Value) :
    (h.update I (Obj.mapFields (·.setIfInBounds k v))).get? I = some { cls := .type "set_iterator", data := .fields (#[first, .int i 0, .ref T, .int n 0, .int ep 0].setIfInBounds k v) } := by
  have := Heap.get?_update_self (Obj.mapFields (·.setIfInBounds k v)) e rfl
  rw [this]; rfl
theorem nextSetA {I P T : Addr} {oT : Obj} {es : Array (Int × Value)} {ep i : Nat} {t : SetTable} {places : List Nat} {j : Nat} {hx : Int} {x : Value} {Q : Option Value → Shared → Prop}
    (hI : s.heap.get? I = some (siObj (.ref P) i T es.size ep)) (hT : s.heap.get? T = some oT) (hd : oT.data = .set es ep t) (hf : t.fits es.size = true)
    (hP : s.heap.get? P = some (tupObj (places.map fun k : Nat => rawInt (k : Int)).toArray)) (hj : places[i]? = some j) (hxj : es[j]? = some (hx, x))
    (hQ : ∀ h', (∀ b o, b ≠ I → s.heap.get? b = some o → h'.get? b = some o) → h'.get? I = some (siObj (.ref P) (i + 1) T es.size ep) → Q (some x) { s with heap := h' }) :
    wpAny (model prog w) A (pyNext (.ref I)) Q E s := by
  have hty : s.TypeIs (.ref I) "set_iterator" := ⟨_, hI, rfl⟩
  unfold pyNext
  refine wpAny_bind (wpAny_attempt (wpAny_callSpecial?_slot (name := Str.ofString "__next__") hty slot_seti_next
    (wpAny_call_entry slot_seti_next hty entry_seti_next ?_ (args_seti_next _))))
  unfold Builtin.«set_iterator.__next__»
  refine wpAny_bind (m := slotArgs "__next__" 0 _) (wpAny_of_eq (a := (.ref I, [])) (by first | rfl | kernel_rfl!) ?_)
  refine wpAny_bind (wpAny_fieldsOf hI rfl ?_)
  show wpAny _ _ (setEntries T >>= _) _ _ _
  refine wpAny_bind (wpAny_setEntries_of hT hd hf ?_)
  dsimp only
  rw [if_neg (by simp)]
  show wpAny _ _ (seqItems? (.ref P) >>= _) _ _ _
  refine wpAny_bind (wpAny_seqItems hP rfl ?_)
  have hpl : (places.map fun k : Nat => rawInt (k : Int)).toArray[((i : Int)).toNat]? = some (rawInt j) := by simp [hj]
  dsimp only
  rw [hpl]
  show wpAny _ _ (setNextDrawn T ((j : Int)).toNat (((ep : Nat) : Int)).toNat >>= _) _ _ _
  unfold setNextDrawn
  refine wpAny_bind (wpAny_bind (wpAny_setState_of hT hd hf ?_))
  dsimp only
  rw [if_neg (by simp)]
  simp only [Int.toNat_natCast, hxj]
  refine wpAny_pure ?_
  have e0 := setiAt hI 1 (rawInt ((i : Int) + 1))
  refine wpAny_bind (wpAny_setField hI rfl (by simp) (wpAny_pure ⟨x, rfl, wpAny_pure (hQ _ (fun b o hb e => (Heap.get?_update_other _ _ (Ne.symm hb)).trans e) (e0.trans ?_))⟩))
  simp [rawInt]
theorem endSetA {I P T : Addr} {oT : Obj} {es : Array (Int × Value)} {ep i : Nat} {t : SetTable} {places : List Nat} {Q : Option Value → Shared → Prop} (hh : A.handled = none)
    (hI : s.heap.get? I = some (siObj (.ref P) i T es.size ep)) (hT : s.heap.get? T = some oT) (hd : oT.data = .set es ep t) (hf : t.fits es.size = true)
    (hP : s.heap.get? P = some (tupObj (places.map fun k : Nat => rawInt (k : Int)).toArray)) (hj : places[i]? = none)
    (hQ : ∀ h', (∀ b o, b ≠ I → s.heap.get? b = some o → h'.get? b = some o) → Q none { s with heap := h' }) :
    wpAny (model prog w) A (pyNext (.ref I)) Q E s := by
  have hty : s.TypeIs (.ref I) "set_iterator" := ⟨_, hI, rfl⟩
  unfold pyNext
  refine wpAny_bind (wpAny_attempt (wpAny_callSpecial?_slot (name := Str.ofString "__next__") hty slot_seti_next
    (wpAny_call_entry slot_seti_next hty entry_seti_next ?_ (args_seti_next _))))
  unfold Builtin.«set_iterator.__next__»
  refine wpAny_bind (m := slotArgs "__next__" 0 _) (wpAny_of_eq (a := (.ref I, [])) (by first | rfl | kernel_rfl!) ?_)
  refine wpAny_bind (wpAny_fieldsOf hI rfl ?_)
  show wpAny _ _ (setEntries T >>= _) _ _ _
  refine wpAny_bind (wpAny_setEntries_of hT hd hf ?_)
  dsimp only
  rw [if_neg (by simp)]
  show wpAny _ _ (seqItems? (.ref P) >>= _) _ _ _
  refine wpAny_bind (wpAny_seqItems hP rfl ?_)
  have hpl : (places.map fun k : Nat => rawInt (k : Int)).toArray[((i : Int)).toNat]? = none := by
    simp only [Int.toNat_natCast, List.getElem?_toArray, List.getElem?_map, hj]; rfl
  dsimp only
  rw [hpl]
  have e0 := setiAt hI 0 (rawInt 0)
  refine wpAny_bind (wpAny_setField hI rfl (by simp) ?_)
  refine wpAny_bind (wpAny_setField e0 rfl (by simp) ?_)
  show wpAny _ _ (newExc (.type "StopIteration") [] >>= _) _ _ _
  refine wpAny_bind ?_
  simp only [newExc, newTuple]
  refine wpAny_bind (wpAny_newObj_type ?_ (by size_fits))
  refine wpAny_bind (m := firstArgMember _ _) (wpAny_of_eq (a := Value.none) (by first | rfl | (simp only [firstArgMember]; rfl)) ?_)
  refine wpAny_newObj_type ?_ (by size_fits)
  simp only [raiseNew]
  refine wpAny_bind (wpAny_handled ?_)
  first | rw [show A.in1.handled = none from hh] | rw [hh]
  refine wpAny_bind (wpAny_pure (wpAny_throw ?_))
  refine wpAny_bind (wpAny_isInstance (T := "StopIteration") (b := true) ⟨_, Heap.get?_push_size _ rfl, rfl⟩ isSubtype_stop ?_)
  exact wpAny_pure (hQ _ fun b o hb e => Heap.get?_push_of_some _ (Heap.get?_push_of_some _ ((Heap.get?_update_other _ _ (Ne.symm hb)).trans ((Heap.get?_update_other _ _ (Ne.symm hb)).trans e))))
theorem nextSetI {I T : Addr} {oT : Obj} {es : Array (Int × Value)} {ep i : Nat} {t : SetTable} {k k' : Nat} {x : Value} {Q : Option Value → Shared → Prop}
    (hI : s.heap.get? I = some (siObj (.int k 0) i T es.size ep)) (hT : s.heap.get? T = some oT) (hd : oT.data = .set es ep t) (hf : t.fits es.size = true)
    (hN : ∀ {A' : Around} {Q' : Option (Value × Nat) → Shared → Prop} {E'}, Q' (some (x, k')) s → wpAny (model prog w) A' (setNext T k i ep) Q' E' s)
    (hQ : ∀ h', (∀ b o, b ≠ I → s.heap.get? b = some o → h'.get? b = some o) → h'.get? I = some (siObj (.int k' 0) (i + 1) T es.size ep) → Q (some x) { s with heap := h' }) :
    wpAny (model prog w) A (pyNext (.ref I)) Q E s := by
  have hty : s.TypeIs (.ref I) "set_iterator" := ⟨_, hI, rfl⟩
  unfold pyNext
  refine wpAny_bind (wpAny_attempt (wpAny_callSpecial?_slot (name := Str.ofString "__next__") hty slot_seti_next
    (wpAny_call_entry slot_seti_next hty entry_seti_next ?_ (args_seti_next _))))
  unfold Builtin.«set_iterator.__next__»
  refine wpAny_bind (m := slotArgs "__next__" 0 _) (wpAny_of_eq (a := (.ref I, [])) (by first | rfl | kernel_rfl!) ?_)
  refine wpAny_bind (wpAny_fieldsOf hI rfl ?_)
  show wpAny _ _ (setEntries T >>= _) _ _ _
  refine wpAny_bind (wpAny_setEntries_of hT hd hf ?_)
  dsimp only
  rw [if_neg (by simp)]
  show wpAny _ _ (setNext T ((k : Int)).toNat ((i : Int)).toNat ((ep : Int)).toNat >>= _) _ _ _
  simp only [Int.toNat_natCast]
  refine wpAny_bind (hN ?_)
  dsimp only
  have e0 := setiAt hI 0 (rawInt (k' : Int))
  have e1 : (s.heap.update I (Obj.mapFields (·.setIfInBounds 0 (rawInt (k' : Int))))).get? I = some (siObj (.int k' 0) i T es.size ep) := e0.trans (by simp [rawInt])
  have e2 := setiAt e1 1 (rawInt ((i : Int) + 1))
  refine wpAny_bind (wpAny_setField hI rfl (by simp) ?_)
  refine wpAny_bind (wpAny_setField e1 rfl (by simp) (wpAny_pure ⟨x, rfl, wpAny_pure (hQ _ (fun b o hb e => (Heap.get?_update_other _ _ (Ne.symm hb)).trans ((Heap.get?_update_other _ _ (Ne.symm hb)).trans e)) (e2.trans ?_))⟩))
  simp [rawInt]
theorem endSetI {I T : Addr} {oT : Obj} {es : Array (Int × Value)} {ep i : Nat} {t : SetTable} {k : Nat} {Q : Option Value → Shared → Prop} (hh : A.handled = none)
    (hI : s.heap.get? I = some (siObj (.int k 0) i T es.size ep)) (hT : s.heap.get? T = some oT) (hd : oT.data = .set es ep t) (hf : t.fits es.size = true)
    (hN : ∀ {A' : Around} {Q' : Option (Value × Nat) → Shared → Prop} {E'}, Q' none s → wpAny (model prog w) A' (setNext T k i ep) Q' E' s)
    (hQ : ∀ h', (∀ b o, b ≠ I → s.heap.get? b = some o → h'.get? b = some o) → Q none { s with heap := h' }) :
    wpAny (model prog w) A (pyNext (.ref I)) Q E s := by
  have hty : s.TypeIs (.ref I) "set_iterator" := ⟨_, hI, rfl⟩
  unfold pyNext
  refine wpAny_bind (wpAny_attempt (wpAny_callSpecial?_slot (name := Str.ofString "__next__") hty slot_seti_next
    (wpAny_call_entry slot_seti_next hty entry_seti_next ?_ (args_seti_next _))))
  unfold Builtin.«set_iterator.__next__»
  refine wpAny_bind (m := slotArgs "__next__" 0 _) (wpAny_of_eq (a := (.ref I, [])) (by first | rfl | kernel_rfl!) ?_)
  refine wpAny_bind (wpAny_fieldsOf hI rfl ?_)
  show wpAny _ _ (setEntries T >>= _) _ _ _
  refine wpAny_bind (wpAny_setEntries_of hT hd hf ?_)
  dsimp only
  rw [if_neg (by simp)]
  show wpAny _ _ (setNext T ((k : Int)).toNat ((i : Int)).toNat ((ep : Int)).toNat >>= _) _ _ _
  simp only [Int.toNat_natCast]
  refine wpAny_bind (hN ?_)
  dsimp only
  refine wpAny_bind (wpAny_setField hI rfl (by simp) ?_)
  show wpAny _ _ (newExc (.type "StopIteration") [] >>= _) _ _ _
  refine wpAny_bind ?_
  simp only [newExc, newTuple]
  refine wpAny_bind (wpAny_newObj_type ?_ (by size_fits))
  refine wpAny_bind (m := firstArgMember _ _) (wpAny_of_eq (a := Value.none) (by first | rfl | (simp only [firstArgMember]; rfl)) ?_)
  refine wpAny_newObj_type ?_ (by size_fits)
  simp only [raiseNew]
  refine wpAny_bind (wpAny_handled ?_)
  first | rw [show A.in1.handled = none from hh] | rw [hh]
  refine wpAny_bind (wpAny_pure (wpAny_throw ?_))
  refine wpAny_bind (wpAny_isInstance (T := "StopIteration") (b := true) ⟨_, Heap.get?_push_size _ rfl, rfl⟩ isSubtype_stop ?_)
  exact wpAny_pure (hQ _ fun b o hb e => Heap.get?_push_of_some _ (Heap.get?_push_of_some _ ((Heap.get?_update_other _ _ (Ne.symm hb)).trans e)))
theorem setNextText {A : Around} {E : Value → Shared → Prop} {T : Addr} {oT : Obj} {es : Array (Int × Value)} {ep i k : Nat} {t : SetTable} {Q : Option (Value × Nat) → Shared → Prop} (hT : s.heap.get? T = some oT) (hd : oT.data = .set es ep t) (hf : t.fits es.size = true)
    (hb : w.params.followText "set-order" = true) (h : Q (((pickOrder (w.params.setOrder T ep) es)[i]?).map fun e => (e.2, k)) s) : wpAny (model prog w) A (setNext T k i ep) Q E s := by
  unfold setNext setsByText
  refine wpAny_bind (wpAny_setState_of hT hd hf ?_)
  dsimp only
  refine wpAny_bind (wpAny_bind (wpAny_askSetting (wpAny_pure ?_)))
  show wpAny _ _ (if (w.params.followText "set-order") = true then _ else _) _ _ _
  rw [if_pos hb, if_neg (by simp)]
  unfold setWalk setsByText
  refine wpAny_bind (wpAny_bind (wpAny_setState_of hT hd hf ?_))
  dsimp only
  refine wpAny_bind (wpAny_bind (wpAny_askSetting (wpAny_pure ?_)))
  show wpAny _ _ (if (w.params.followText "set-order") = true then _ else _) _ _ _
  rw [if_pos hb]
  refine wpAny_bind (wpAny_askSetting (wpAny_pure ?_))
  exact wpAny_pure h
theorem setNextOne {A : Around} {E : Value → Shared → Prop} {T : Addr} {oT : Obj} {es : Array (Int × Value)} {ep i k : Nat} {t : SetTable} {Q : Option (Value × Nat) → Shared → Prop} (hT : s.heap.get? T = some oT) (hd : oT.data = .set es ep t) (hf : t.fits es.size = true)
    (hb : w.params.followText "set-order" = false) (hl : t.led = true) (h1 : es.size ≤ 1)
    (h : Q (match es[SetTable.below t.place k]?, t.place[SetTable.below t.place k]? with | some (_, x), some j => some (x, j + 1) | _, _ => none) s) : wpAny (model prog w) A (setNext T k i ep) Q E s := by
  unfold setNext setsByText
  refine wpAny_bind (wpAny_setState_of hT hd hf ?_)
  dsimp only
  refine wpAny_bind (wpAny_bind (wpAny_askSetting (wpAny_pure ?_)))
  show wpAny _ _ (if (w.params.followText "set-order") = true then _ else _) _ _ _
  rw [hb, if_neg (by simp)]
  refine wpAny_ite_split (fun hab => ?_) (fun _ => ?_)
  · have : (!t.plain && decide (es.size > 1)) = true := hab
    simp at this
    omega
  · refine wpAny_bind ?_
    show wpAny _ _ (if (!t.led && !es.isEmpty) = true then unsupported _ else pure ()) _ _ _
    rw [if_neg (by simp [hl])]
    exact wpAny_pure (wpAny_pure h)
theorem iterSet {h₀ : Heap} {L T : Addr} {m : Str → Option Value} {news : List (Addr × Obj)} {oT : Obj} {es : Array (Int × Value)} {ep : Nat} {t : SetTable} {Q : Value → Shared → Prop} (FF : Fr h₀ L s.heap m) (N : News h₀ L s.heap news) (hT : (T, oT) ∈ news) (hc : oT.cls = .type "set") (hd : oT.data = .set es ep t) (hf : t.fits es.size = true) (hz : es.size < 1000)
    (hA : w.params.followText "set-order" = false → t.plain = false → 1 < es.size → ∀ (P I : Addr) (places : List Nat) h' d, Fr h₀ L h' m → News h₀ L h' ((I, siObj (.ref P) 0 T es.size ep) :: (P, tupObj (places.map fun k : Nat => rawInt (k : Int)).toArray) :: news) → (∀ p ∈ news, p.1 < P) → P < I → places.Perm (List.range es.size) → Q (.ref I) { s with heap := h', drawn := d })
    (hI : (w.params.followText "set-order" = true ∨ t.plain = true ∨ es.size ≤ 1) → ∀ I h', Fr h₀ L h' m → News h₀ L h' ((I, siObj (.int 0 0) 0 T es.size ep) :: news) → (∀ p ∈ news, p.1 < I) → Q (.ref I) { s with heap := h' }) :
    wpAny (model prog w) A (pyIter (.ref T)) Q E s := by
  have hT' := N.get hT
  have hty : s.TypeIs (.ref T) "set" := ⟨_, hT', hc⟩
  refine wpAny_pyIter_slot hty F.slot_set_iter (wpAny_call_entry F.slot_set_iter hty entry_set_iter' ?_ (F.args_set_iter_1 _))
  unfold Builtin.«frozenset.__iter__»
  refine wpAny_bind (m := Builtin.Frozenset.slot0 "__iter__" _) (wpAny_of_eq (a := T) (by first | rfl | kernel_rfl!) ?_)
  unfold Builtin.Frozenset.sizeOf
  refine wpAny_bind (wpAny_bind (wpAny_setEntries_of hT' hd hf (wpAny_pure ?_)))
  unfold setDrawn setsByText
  refine wpAny_bind (wpAny_bind (wpAny_setState_of hT' hd hf ?_))
  dsimp only
  refine wpAny_bind (wpAny_bind (wpAny_askSetting (wpAny_pure ?_)))
  refine wpAny_pure ?_
  refine wpAny_ite_split (fun hab => ?_) (fun hab => ?_)
  · have hab : (!w.params.followText "set-order" && (!t.plain && decide (es.size > 1))) = true := hab
    simp only [Bool.and_eq_true, Bool.not_eq_true', decide_eq_true_eq] at hab
    refine wpAny_bind (drawAny es.size (List.range es.size) (by simp) fun places d hp => ?_)
    show wpAny _ _ (newTuple (places.map fun i : Nat => rawInt (i : Int)) >>= _) _ _ { s with drawn := d }
    refine wpAny_bind ?_
    simp only [newTuple]
    have hpl : places.length = es.size := by rw [hp.length_eq, List.length_range]
    have hz1 : (places.map fun i : Nat => rawInt (i : Int)).length ≤ 1000 := by rw [List.length_map, hpl]; omega
    have hz2 : (1000 : Nat) ≤ sizeLine := by decide
    refine wpAny_newObj_type ?_ (by show (places.map fun i : Nat => rawInt (i : Int)).toArray.size ≤ sizeLine; simp only [List.size_toArray]; omega)
    have F1 := FF.push (o := tupObj (places.map fun i : Nat => rawInt (i : Int)).toArray)
    have N1 := News.push FF N (tupObj (places.map fun i : Nat => rawInt (i : Int)).toArray) rfl
    have hTn := (N1 _ (.tail _ hT)).1
    have hlt : ∀ p ∈ news, p.1 < s.heap.objs.size := fun p hp => Heap.lt_size (N p hp).1
    have hPsz : s.heap.objs.size < (s.heap.push (tupObj (places.map fun i : Nat => rawInt (i : Int)).toArray)).objs.size := by rw [Heap.size_push]; exact Nat.lt_succ_self _
    show wpAny _ _ _ _ _ { s with heap := s.heap.push (tupObj (places.map fun i : Nat => rawInt (i : Int)).toArray), drawn := d }
    generalize s.heap.push (tupObj (places.map fun i : Nat => rawInt (i : Int)).toArray) = h₁ at *
    unfold setEpoch
    refine wpAny_bind (wpAny_bind (wpAny_setState_of hTn hd hf (wpAny_pure ?_)))
    simp only [newFields]
    refine wpAny_bind (wpAny_newObj_type (wpAny_pure ⟨_, rfl, "set_iterator", _, ⟨_, Heap.get?_push_size _ rfl, rfl⟩, slot_seti_next.lookup, ?_⟩) (by size_fits))
    exact hA hab.1 hab.2.1 hab.2.2 _ _ places _ d (F1.push _) (News.push F1 N1 _ rfl) hlt hPsz hp
  · have hab : ¬ (!w.params.followText "set-order" && (!t.plain && decide (es.size > 1))) = true := hab
    have hab' : w.params.followText "set-order" = true ∨ t.plain = true ∨ es.size ≤ 1 := by
      cases h1 : w.params.followText "set-order" <;> cases h2 : t.plain <;> simp [h1, h2] at hab ⊢
      omega
    refine wpAny_bind (wpAny_pure ?_)
    unfold setEpoch
    refine wpAny_bind (wpAny_bind (wpAny_setState_of hT' hd hf (wpAny_pure ?_)))
    simp only [newFields]
    refine wpAny_bind (wpAny_newObj_type (wpAny_pure ⟨_, rfl, "set_iterator", _, ⟨_, Heap.get?_push_size _ rfl, rfl⟩, slot_seti_next.lookup, ?_⟩) (by size_fits))
    exact hI hab' _ _ (FF.push _) (News.push FF N _ rfl) fun p hp => Heap.lt_size (N p hp).1
end
end Mine
theorem Mine.off39 : True := by w_top off; trivial
-- P17e_sets
namespace Mine
section
variable {prog : Program} {w : World} {A : Around} {E : Value → Shared → Prop} {s : Shared} {h₀ : Heap} {L : Addr} {m : Str → Option Value} {news : List (Addr × Obj)}
/-- an iterator, by what it gives -/
structure Gives1 (prog : Program) (w : World) (I : Addr) (news : List (Addr × Obj)) (It : Nat → Obj → Prop) (vals : List Value) : Prop where
  next : ∀ {A' : Around} {i : Nat} {s : Shared} {o : Obj} {Q : Option Value → Shared → Prop} {E : Value → Shared → Prop}, A'.handled = none → (∀ p ∈ news, s.heap.get? p.1 = some p.2) → s.heap.get? I = some o → It i o → (hi : i < vals.length) →
    (∀ h' o', (∀ b ob, b ≠ I → s.heap.get? b = some ob → h'.get? b = some ob) → h'.get? I = some o' → It (i + 1) o' → Q (some vals[i]) { s with heap := h' }) → wpAny (model prog w) A' (pyNext (.ref I)) Q E s
  done : ∀ {A' : Around} {s : Shared} {o : Obj} {Q : Option Value → Shared → Prop} {E : Value → Shared → Prop}, A'.handled = none → (∀ p ∈ news, s.heap.get? p.1 = some p.2) → s.heap.get? I = some o → It vals.length o →
    (∀ h', (∀ b ob, b ≠ I → s.heap.get? b = some ob → h'.get? b = some ob) → Q none { s with heap := h' }) → wpAny (model prog w) A' (pyNext (.ref I)) Q E s
theorem newsSwap {h : Heap} {a b : Addr × Obj} (N : News h₀ L h (a :: b :: news)) : News h₀ L h (b :: a :: news) := fun p hp => N p (by
  rcases List.mem_cons.mp hp with rfl | hp
  · exact .tail _ (.head _)
  · rcases List.mem_cons.mp hp with rfl | hp
    · exact .head _
    · exact .tail _ (.tail _ hp))
theorem newsDrop {h h' : Heap} {a : Addr} {o : Obj} (FF : Fr h₀ L h m) (N : News h₀ L h ((a, o) :: news)) (hne : ∀ p ∈ news, p.1 ≠ a) (hk : ∀ b ob, b ≠ a → h.get? b = some ob → h'.get? b = some ob) : Fr h₀ L h' m ∧ News h₀ L h' news := by
  have ha := N _ (.head _)
  obtain ⟨oL, es, ep, hL, r⟩ := FF.ns
  exact ⟨⟨⟨oL, es, ep, hk _ _ (Ne.symm ha.2.1) hL, r⟩, fun b ob e => hk _ _ (fun q => by rw [q, ha.2.2] at e; cases e) (FF.keep _ _ e), FF.above⟩, fun p hp => ⟨hk _ _ (hne p hp) (N _ (.tail _ hp)).1, (N _ (.tail _ hp)).2⟩⟩
theorem extendIt {I Lr : Addr} {It : Nat → Obj → Prop} {vals : List Value} (G : Gives1 prog w I news It vals) (hh : A.handled = none) (hz : vals.length ≤ 1000) (hIL : I ≠ Lr) (hne : ∀ p ∈ news, p.1 ≠ I ∧ p.1 ≠ Lr) (res : Value) {R : Result → Shared → Prop} :
    ∀ (k i : Nat) (s : Shared) (o : Obj) (acc : Array Value) (c : Nat), vals.length - i = k → i ≤ vals.length → Fr h₀ L s.heap m → News h₀ L s.heap ((Lr, liObj acc c) :: (I, o) :: news) → It i o → acc.toList = vals.take i →
      (∀ h' acc' c', Fr h₀ L h' m → News h₀ L h' ((Lr, liObj acc' c') :: news) → acc'.toList = vals → R (.ok (.ret res)) { s with heap := h' }) →
      codeAny (model prog w) A (.builtin "list.extend.loop" ⟨[.ref Lr, .ref I, res], []⟩) R s := by
  intro k
  induction k with
  | zero =>
    intro i s o acc c hk hi FF N hI hacc hR
    obtain rfl : i = vals.length := by omega
    refine codeAny_builtin F.entry_extend_loop ?_
    rw [Around.under_plainId F.plain_extend_loop _]
    show wpAny _ A.in1 (pyNext (.ref I) >>= _) _ _ s
    refine wpAny_bind (G.done hh (fun p hp => (N p (.tail _ (.tail _ hp))).1) (N.get (.tail _ (.head _))) hI fun h' hk' => ?_)
    obtain ⟨F2, N2⟩ := newsDrop FF (newsSwap N) (fun p hp => by
      rcases List.mem_cons.mp hp with rfl | hp
      · exact hIL.symm
      · exact (hne p hp).1) hk'
    exact wpAny_pure (hR h' acc c F2 N2 (by rw [hacc, List.take_length]))
  | succ k ih =>
    intro i s o acc c hk hi FF N hI hacc hR
    have hlt : i < vals.length := by omega
    have hsz : acc.size = i := by
      have := congrArg List.length hacc
      rw [List.length_take, Array.length_toList] at this
      omega
    refine codeAny_builtin F.entry_extend_loop ?_
    rw [Around.under_plainId F.plain_extend_loop _]
    show wpAny _ A.in1 (pyNext (.ref I) >>= _) _ _ s
    refine wpAny_bind (G.next hh (fun p hp => (N p (.tail _ (.tail _ hp))).1) (N.get (.tail _ (.head _))) hI hlt fun h' o' hk' ho' hI' => ?_)
    obtain ⟨F2, N2⟩ := newsHead (o' := o') FF (newsSwap N) (fun p hp => by
      rcases List.mem_cons.mp hp with rfl | hp
      · exact hIL.symm
      · exact (hne p hp).1) hk' ho'
    have N2 := newsSwap N2
    have hS' := (N2 _ (.head _)).1
    show wpAny _ A.in1 (updateSeq Lr (·.push _) >>= _) _ _ _
    refine wpAny_bind ?_
    obtain ⟨c', hS3⟩ := liAt hS' vals[i]
    have h20 : (200000 : Nat) ≤ sizeLine := by decide
    have hz1 : acc.size ≤ sizeLine := by omega
    have hz2 : (acc.push vals[i]).size ≤ sizeLine + 1 := by rw [Array.size_push]; omega
    refine wpAny_updateSeq hS' rfl (wpAny_pure ⟨plainId_quiet F.plain_extend_loop _, ?_⟩) hz1 hz2
    obtain ⟨F3, N3⟩ := newsHead F2 N2 (fun p hp => by
      rcases List.mem_cons.mp hp with rfl | hp
      · exact hIL
      · exact (hne p hp).2) (fun b ob hb e => (Heap.get?_update_other _ _ (Ne.symm hb)).trans e) hS3
    exact ih (i + 1) _ o' _ c' (by omega) hlt F3 N3 hI' (by rw [Array.toList_push, hacc, List.take_add_one, List.getElem?_eq_getElem hlt]; rfl) hR
theorem hintSet {T : Addr} {Q : Bool → Shared → Prop} (hT : s.TypeIs (.ref T) "set") (h : Q false s) : wpAny (model prog w) A (Builtin.List.listLengthHint (.ref T)) Q E s := by
  unfold Builtin.List.listLengthHint
  refine wpAny_bind (wpAny_specialOf hT set_len ?_)
  dsimp only
  have hs : splitId "set.__len__" = some ("set", "__len__") := by kernel_rfl
  rw [hs]
  dsimp only
  refine wpAny_bind (wpAny_isInstance hT set_is_set ?_)
  simp only [Bool.not_true, Bool.false_eq_true, if_false]
  refine wpAny_ite_split (fun _ => ?_) (fun hab => absurd (by decide +kernel) hab)
  refine wpAny_bind (wpAny_typeOf hT ?_)
  exact wpAny_pure h
/-- a list is touched -/
theorem touchL {Lr : Addr} {rest : List (Addr × Obj)} {c : Nat} {Q : Unit → Shared → Prop} (FF : Fr h₀ L s.heap m) (N : News h₀ L s.heap ((Lr, liObj #[] c) :: rest)) (hne : ∀ p ∈ rest, p.1 ≠ Lr)
    (h : ∀ h' c', Fr h₀ L h' m → News h₀ L h' ((Lr, liObj #[] c') :: rest) → Q () { s with heap := h' }) : wpAny (model prog w) A (Builtin.List.listTouch (.ref Lr)) Q E s := by
  show wpAny _ _ (updateSeq Lr (·.push .none) >>= fun _ => updateSeq Lr (·.pop)) _ _ _
  have hS₁ := (N _ (.head _)).1
  refine wpAny_bind (wpAny_updateSeq hS₁ rfl ?_)
  have hS₂ := Heap.get?_update_self (Obj.mapSeq (·.push Value.none)) hS₁ rfl
  refine wpAny_updateSeq (hz := by seq_fits) hS₂ rfl ?_
  have hS₃ := Heap.get?_update_self (Obj.mapSeq (·.pop)) hS₂ rfl
  obtain ⟨F2, N2⟩ := newsHead FF N hne (fun b ob hb e => (Heap.get?_update_other _ _ (Ne.symm hb)).trans ((Heap.get?_update_other _ _ (Ne.symm hb)).trans e)) hS₃
  exact h _ _ F2 N2
/-- the items of a set, in some order -/
theorem collectSet {T : Addr} {oT : Obj} {ys : List Str} {Q : List Value → Shared → Prop} (hh : A.handled = none) (FF : Fr h₀ L s.heap m) (N : News h₀ L s.heap news) (hT : (T, oT) ∈ news) (hS : SetS prog w oT (!w.params.followText "set-order") ys) (h64 : ys.length < 64)
    (hQ : ∀ h' tk d vs us, Fr h₀ L h' m → News h₀ L h' news → StrsAre vs us → us.Perm ys → Q vs { s with heap := h', toks := tk, drawn := d }) : wpAny (model prog w) A (collect (.ref T)) Q E s := by
  obtain ⟨hex, es, ep, t, hd, hel, _, ⟨us, hus, hpy⟩, hf, hl, hp⟩ := hS
  have hlen : es.size = ys.length := by rw [← hpy.length_eq, ← strsLen hus, List.length_map, Array.length_toList]
  have hTs : T < s.heap.objs.size := Heap.lt_size (N _ hT).1
  unfold collect
  refine wpAny_bind (wpAny_runValue (codeAny_builtin F.entry_proto_collect ?_))
  rw [Around.under_plainId F.plain_proto_collect _]
  show wpAny _ A.in1 (newList [] >>= fun l => again (.builtin "list.__iadd__" ⟨[l, .ref T], []⟩)) _ _ s
  refine wpAny_bind (wpAny_newObj_type ?_)
  refine wpAny_pure ⟨plainId_quiet F.plain_list_iadd _, codeAny_builtin F.entry_list_iadd ?_⟩
  rw [Around.under_plainId F.plain_list_iadd _]
  have F1 := FF.push (o := liObj #[] 0)
  have N1 := News.push FF N (liObj #[] 0) rfl
  have hlt : ∀ p ∈ news, p.1 < s.heap.objs.size := fun p hp => Heap.lt_size (N p hp).1
  show wpAny _ A.in1 (Builtin.List.listExtendWith (.ref s.heap.objs.size) (.ref T) (.ref s.heap.objs.size)) _ _ { s with heap := s.heap.push (liObj #[] 0) }
  generalize s.heap.push (liObj #[] 0) = h₁ at *
  generalize s.heap.objs.size = Lr at *
  have hT1 := (N1 _ (.tail _ hT)).1
  unfold Builtin.List.listExtendWith
  have hty : ∀ (h : Heap) tk d, News h₀ L h news → Shared.TypeIs { s with heap := h, toks := tk, drawn := d } (.ref T) "set" := fun h tk d N => ⟨_, (N _ hT).1, hex.1⟩
  refine wpAny_bind (wpAny_typeOf (hty h₁ s.toks s.drawn fun p hp => N1 p (.tail _ hp)) ?_)
  have h1 : Builtin.List.listSameRef (.ref Lr) (.ref T) = false := by simp [Builtin.List.listSameRef, Nat.ne_of_gt hTs]
  have h2 : (Value.type "set" == Value.type "list") = false := by decide
  have h3 : (Value.type "set" == Value.type "tuple") = false := by decide
  simp only [h1, h2, h3, Bool.or_false, Bool.false_eq_true, if_false]
  have hlT : ∀ p ∈ news, p.1 ≠ Lr := fun p hp => Nat.ne_of_lt (hlt p hp)
  have h1000 : ∀ {vals : List Value}, vals.Perm (es.toList.map (·.2)) → vals.length < 64 := fun hpv => by
    have h5 : (es.toList.map (·.2)).length = es.size := by simp
    have := hpv.length_eq
    omega
  refine wpAny_bind (iterSet F1 N1 (.tail _ hT) hex.1 hd hf (by omega) (fun hb1 hb2 hb3 P I places h₂ d F2 N2 lP lPI hpp => ?_) (fun hab I h₂ F2 N2 lI => ?_))
  · have hLP := lP _ (.head _)
    have hpv : (places.map fun j => ((es[j]?).map (·.2)).getD .none).Perm (es.toList.map (·.2)) := by
      refine (hpp.map _).trans (List.Perm.of_eq ?_)
      apply List.ext_getElem
      · simp
      · intro i h1 h2
        simp at h1
        simp [h1]
    refine wpAny_bind (wpAny_holding (hintSet ⟨_, (N2 _ (.tail _ (.tail _ (.tail _ hT)))).1, hex.1⟩ ?_))
    refine wpAny_ite_split (fun _ => ?_) (fun hab => absurd (by decide +kernel) hab)
    refine wpAny_bind (wpAny_rule ?_)
    have NL : News h₀ L h₂ ((Lr, liObj #[] 0) :: (I, siObj (.ref P) 0 T es.size ep) :: (P, tupObj (places.map fun k : Nat => rawInt (k : Int)).toArray) :: news) := fun p hp => N2 p (by
      rcases List.mem_cons.mp hp with rfl | hp
      · exact .tail _ (.tail _ (.head _))
      · rcases List.mem_cons.mp hp with rfl | hp
        · exact .head _
        · rcases List.mem_cons.mp hp with rfl | hp
          · exact .tail _ (.head _)
          · exact .tail _ (.tail _ (.tail _ hp)))
    refine wpAny_bind (touchL F2 NL (fun p hp => ?_) fun h₂ c₂ F2 N2 => ?_)
    · rcases List.mem_cons.mp hp with rfl | hp
      · exact Nat.ne_of_gt (Nat.lt_trans hLP lPI)
      · rcases List.mem_cons.mp hp with rfl | hp
        · exact Nat.ne_of_gt hLP
        · exact hlT p hp
    have hTP : ∀ {p : Addr × Obj}, p ∈ news → p ∈ (P, tupObj (places.map fun k : Nat => rawInt (k : Int)).toArray) :: news := fun h => .tail _ h
    refine wpAny_pure ⟨plainId_quiet F.plain_extend_loop _, extendIt (A := A) (I := I) (news := (P, tupObj (places.map fun k : Nat => rawInt (k : Int)).toArray) :: news) (It := fun i o => o = siObj (.ref P) i T es.size ep) (vals := places.map fun j => ((es[j]?).map (·.2)).getD .none) ⟨?_, ?_⟩ hh (Nat.le_trans (Nat.le_of_lt (h1000 hpv)) (by decide)) (Nat.ne_of_gt (Nat.lt_trans hLP lPI)) ?_ _ _ 0 _ _ #[] c₂ rfl (Nat.zero_le _) F2 N2 rfl rfl fun h₃ acc c F3 N3 hacc => ?_⟩
    · intro A' i s' o Q' E' hA hN hI hIt hi hk
      subst hIt
      have hi' : i < places.length := by simpa using hi
      have hj : places[i] < es.size := by
        have := hpp.mem_iff.mp (List.getElem_mem hi')
        simpa using this
      refine nextSetA hI (hN _ (.tail _ hT)) hd hf (hN _ (.head _)) (List.getElem?_eq_getElem hi') (hx := es[places[i]].1) (x := es[places[i]].2) (by simp [hj]) fun h' k1 k2 => ?_
      have e : (places.map fun j => ((es[j]?).map (·.2)).getD .none)[i] = es[places[i]].2 := by simp [hj]
      rw [← e]
      exact hk h' _ k1 k2 rfl
    · intro A' s' o Q' E' hA hN hI hIt hk
      subst hIt
      exact endSetA hA hI (hN _ (.tail _ hT)) hd hf (hN _ (.head _)) (by simp) hk
    · intro p hp
      rcases List.mem_cons.mp hp with rfl | hp
      · exact ⟨Nat.ne_of_lt lPI, Nat.ne_of_gt hLP⟩
      · exact ⟨Nat.ne_of_lt (Nat.lt_trans (lP _ (.tail _ hp)) lPI), hlT p hp⟩
    · obtain ⟨us', h3, h4⟩ := strsAre_perm hus hpv
      show wpAny _ A (load Lr >>= _) _ _ _
      exact wpAny_bind (wpAny_load (N3 _ (.head _)).1 (wpAny_pure (hQ h₃ s.toks d acc.toList us' F3 (fun p hp => N3 p (.tail _ (.tail _ hp))) (by rw [hacc]; exact h3) (h4.trans hpy))))
  · have hI0 := lI _ (.head _)
    refine wpAny_bind (wpAny_holding (hintSet ⟨_, (N2 _ (.tail _ (.tail _ hT))).1, hex.1⟩ ?_))
    refine wpAny_ite_split (fun _ => ?_) (fun hab => absurd (by decide +kernel) hab)
    refine wpAny_bind (wpAny_rule ?_)
    refine wpAny_bind (touchL F2 (newsSwap N2) (fun p hp => ?_) fun h₂ c₂ F2 N2 => ?_)
    · rcases List.mem_cons.mp hp with rfl | hp
      · exact Nat.ne_of_gt hI0
      · exact hlT p hp
    obtain ⟨It, vals, hpv, hG, hI0'⟩ : ∃ (It : Nat → Obj → Prop) (vals : List Value), vals.Perm (es.toList.map (·.2)) ∧ Gives1 prog w I news It vals ∧ It 0 (siObj (.int 0 0) 0 T es.size ep) := by
      cases hbt : w.params.followText "set-order" with
      | true =>
        refine ⟨fun i o => ∃ k : Nat, o = siObj (.int k 0) i T es.size ep, (pickOrder (w.params.setOrder T ep) es).toList.map (·.2), (pick_perm _ _).map _, ⟨?_, ?_⟩, 0, rfl⟩
        · intro A' i s' o Q' E' hA hN hI hIt hi hk
          obtain ⟨k, rfl⟩ := hIt
          have hi' : i < (pickOrder (w.params.setOrder T ep) es).size := by simpa using hi
          refine nextSetI (k' := k) (x := (pickOrder (w.params.setOrder T ep) es)[i].2) hI (hN _ hT) hd hf (fun hq => setNextText (hN _ hT) hd hf hbt (by simpa [hi'] using hq)) fun h' k1 k2 => ?_
          have e : ((pickOrder (w.params.setOrder T ep) es).toList.map (·.2))[i] = (pickOrder (w.params.setOrder T ep) es)[i].2 := by simp
          rw [← e]
          exact hk h' _ k1 k2 ⟨k, rfl⟩
        · intro A' s' o Q' E' hA hN hI hIt hk
          obtain ⟨k, rfl⟩ := hIt
          exact endSetI hA hI (hN _ hT) hd hf (fun hq => setNextText (hN _ hT) hd hf hbt (by simpa using hq)) hk
      | false =>
        have hone : es.size ≤ 1 := by
          rcases hab with h | h | h
          · rw [hbt] at h; cases h
          · cases ys with
            | nil => rw [hlen]; exact Nat.zero_le _
            | cons y r => rw [hp (by simp)] at h; cases h
          · exact h
        have hled : t.led = true := by rw [hl, hbt]; rfl
        have hps : t.place.size = es.size := by
          simp only [SetTable.fits, Bool.and_eq_true, beq_iff_eq] at hf
          exact hf.1
        refine ⟨fun i o => ∃ k : Nat, o = siObj (.int k 0) i T es.size ep ∧ (i = 0 → k = 0) ∧ (i = 1 → ∃ j, t.place[0]? = some j ∧ k = j + 1), es.toList.map (·.2), .refl _, ⟨?_, ?_⟩, 0, rfl, fun _ => rfl, fun h => by cases h⟩
        · intro A' i s' o Q' E' hA hN hI hIt hi hk
          obtain ⟨k, rfl, hk0, _⟩ := hIt
          have hi' : i < es.size := by simpa using hi
          obtain rfl : i = 0 := by omega
          obtain rfl := hk0 rfl
          have hes : es.size = 1 := by omega
          have hb0 : SetTable.below t.place 0 = 0 := by
            unfold SetTable.below
            rw [hps, hes]
            simp [SetTable.below.go]
          have hp0 : 0 < t.place.size := by omega
          refine nextSetI (k' := t.place[0] + 1) (x := es[0].2) hI (hN _ hT) hd hf (fun hq => setNextOne (hN _ hT) hd hf hbt hled hone ?_) fun h' k1 k2 => ?_
          · rw [hb0]
            simpa [hi', hp0] using hq
          · have e : (es.toList.map (·.2))[0] = es[0].2 := by simp
            rw [← e]
            exact hk h' _ k1 k2 ⟨_, rfl, (fun h => by cases h), fun _ => ⟨_, Array.getElem?_eq_getElem hp0, rfl⟩⟩
        · intro A' s' o Q' E' hA hN hI hIt hk
          obtain ⟨k, rfl, hk0, hk1⟩ := hIt
          rw [List.length_map, Array.length_toList] at hk0 hk1 hI
          have hnone : es[SetTable.below t.place k]? = none := by
            by_cases h0 : es.size = 0
            · exact Array.getElem?_eq_none (by omega)
            · have hes : es.size = 1 := by omega
              obtain ⟨j, hj, rfl⟩ := hk1 hes
              have hp0 : 0 < t.place.size := by omega
              have hj' : t.place[0] = j := by
                rw [Array.getElem?_eq_getElem hp0] at hj
                exact Option.some.inj hj
              have hb1 : SetTable.below t.place (j + 1) = 1 := by
                unfold SetTable.below
                rw [hps, hes]
                simp [SetTable.below.go, hp0, hj']
              rw [hb1]
              exact Array.getElem?_eq_none (by omega)
          exact endSetI hA hI (hN _ hT) hd hf (fun hq => setNextOne (hN _ hT) hd hf hbt hled hone (by rw [hnone]; exact hq)) hk
    refine wpAny_pure ⟨plainId_quiet F.plain_extend_loop _, extendIt (A := A) (I := I) (news := news) hG hh (Nat.le_trans (Nat.le_of_lt (h1000 hpv)) (by decide)) (Nat.ne_of_gt hI0) ?_ _ _ 0 _ _ #[] c₂ rfl (Nat.zero_le _) F2 N2 hI0' rfl fun h₃ acc c F3 N3 hacc => ?_⟩
    · exact fun p hp => ⟨Nat.ne_of_lt (lI _ (.tail _ hp)), hlT p hp⟩
    · obtain ⟨us', h3, h4⟩ := strsAre_perm hus hpv
      show wpAny _ A (load Lr >>= _) _ _ _
      exact wpAny_bind (wpAny_load (N3 _ (.head _)).1 (wpAny_pure (hQ h₃ s.toks s.drawn acc.toList us' F3 (fun p hp => N3 p (.tail _ hp)) (by rw [hacc]; exact h3) (h4.trans hpy))))
theorem sortedSet {T : Addr} {oT : Obj} {xs : List (List Nat)} {Q : Value → Shared → Prop} (hh : A.handled = none) (FF : Fr h₀ L s.heap m) (N : News h₀ L s.heap news) (hT : (T, oT) ∈ news) (hS : SetS prog w oT (!w.params.followText "set-order") (xs.map S)) (h64 : xs.length < 64)
    (h : ∀ D out e h' tk d, Fr h₀ L h' m → News h₀ L h' ((D, seqObj "list" out.toArray e) :: news) → (∀ p ∈ news, p.1 ≠ D) → StrsAre out ((srt xs).map S) → Q (.ref D) { s with heap := h', toks := tk, drawn := d }) :
    wpAny (model prog w) A (call (.builtin "sorted") [.ref T]) Q E s := by
  refine sortedColl (collectSet (A := A.in1) hh FF N hT hS (by simpa using h64) fun h₁ tk d vs us F1 N1 hvs hus => ?_)
  refine ⟨us, hvs, by rw [strsLen hvs, hus.length_eq, List.length_map]; exact h64, fun h' out ss' e hkp hD ho hp hso => ?_⟩
  have hD1 : h₁.get? h₁.objs.size = none := size_none h₁
  obtain ⟨N2, hne⟩ := newsNew F1 N1 hkp hD1 hD
  rw [sorted_srt (hp.trans hus) hso] at ho
  exact h _ out e h' _ d (F1.keeps hkp) N2 hne ho
end
end Mine
theorem Mine.off40 : True := by w_top off; trivial
-- P18_opt
namespace Mine
/-- the pattern of a list of texts -/
def pat (xs : List (List Nat)) : List Nat := roi (msr xs + 1) (srt xs) [40]
section
variable {w : World} {dp un : Nat} {fr : List Env} {gd : Option (List Code)} {s : Shared} {Q E : Value → Shared → Prop} {loose : List Str} {mean : ExcName → Option Value} {mg mb : Str → Option Value}
theorem opt_c {B : Heap} {l : Addr} {vs : List Value} {xs : List (List Nat)} {p q : List Nat} {tp tq : Tok} {ps : Array Value}
  (G : Fl B fr s.heap) (X : (hd.heap_39 w.params).In B) (T : Top topProg loose mean mg mb B) (hA : dp + 2 * msr xs + 9 < recursionLimit) (hP : B.get? 145 = none ∧ 145 ∉ fa fr) (hT : s.heap.get? 145 = some (tabObj ps)) (hTab : TabOk s.heap ps)
  (hl : B.IsList l vs.toArray) (hvs : StrsAre vs (xs.map S)) (hnd : xs.Nodup) (hne : xs ≠ []) (hx : msr xs ≤ 10000) (h64 : xs.length < 64) (hp : p.length ≤ 300000) (hq : q.length ≤ 300000)
  (ret : ∀ h' tk' t ps' g' d', Kw fr [145] s.heap h' → h'.get? 145 = some (tabObj ps') → TabOk h' ps' → GensOk s.gens g' → Q (.str (S (p ++ pat xs ++ q)) t) { s with heap := h', toks := tk', gens := g', drawn := d' }) :
  wpAny (model PySem.Challenge.rw_ev0005_01.row.prog w) (Ar dp un (some fr) gd) (call (.ref 156) [.ref l] [(("prefix" : Str), .str (S p) tp), (("suffix" : Str), .str (S q) tq)]) Q E s := by
  revert X; k_fill; intro X
  have hN : ∀ q ∈ [((145 : Addr), tabObj ps)], s.heap.get? q.1 = some q.2 ∧ B.get? q.1 = none := List.forall_mem_singleton.mpr ⟨hT, hP.1⟩
  have h145 : @LT.lt Nat _ 145 s.heap.objs.size := Heap.lt_size hT
  have G0 : Fl B fr (But s [(145, tabObj ps)]) := G.but (List.forall_mem_singleton.mpr hP)
  have XS := X.keeps G.kp
  refine' enterH [(145, tabObj ps)] G.kp hN ?k1 ?k2 ?k6 ?k7 ?k8 ?k9 ?kB ?_ ?c2 ?c3 ?c4 ?c5
  walk_at "M enterH"
  intro h₁ tk₁ XB TB F N
  walk_at "M steps"
  have hdp : (Ar dp un (some fr) gd).depth = dp := rfl
  have hNf : ∀ q ∈ [((145 : Addr), tabObj ps)], q.1 ∉ fa fr := List.forall_mem_singleton.mpr hP.2
  have hl1 : (But s [(145, tabObj ps)]).IsList l vs.toArray := hl.at fun o e => (but_base G.kp fun q hq => (hN q hq).2) _ _ e
  have hndS : (xs.map S).Nodup := List.pairwise_map.mpr (hnd.imp fun h e => h (S_inj e))
  have hroi := roi_len (msr xs + 1) (srt xs) [40] (srt_ne hne)
  have hms := msr_srt xs
  have hsl := (srt_perm xs).length_eq
  have h40 : ([40] : List Nat).length = 1 := rfl
  refine call_set_strs (A := _) rfl F N hl1 hvs hndS (by rw [List.length_map]; omega) fun Ts oT h₂ tk₂ F2 N2 lT hS => ?_
  clear F N
  walk_at "M steps"
  walk_at "M go"
  refine sortedSet rfl F2 N2 (.head _) hS h64 fun D out e h₃ tk₃ d₃ F3 N3 hD ho => ?_
  clear F2 N2
  have hD145 : D ≠ 145 := (hD _ (.tail _ (.head _))).symm
  walk_at "M steps"
  walk_at "M go"
  (with_reducible rename Fr _ _ _ _ => F); (with_reducible rename News _ _ _ _ => N)
  refine ⟨by k_in, ?_⟩
  rw [lit_3]
  have hroiC : RoiAt w loose mean mg mb (msr xs + 1) := @roi_c w loose mean mg mb (msr xs + 1)
  unfold RoiAt at hroiC
  refine' hroiC (xs := srt xs) (p := [40]) ?G ?X ?T ?hA ?hP ?hT ?tab ?hl ?hv ?hx ?h64 ?hri ?hn ?hp ?_
  (case G => exact in_fl (M := [145]) G0 F N (List.forall_mem_singleton.mpr ⟨_, (.tail _ (.tail _ (.head _)))⟩) (by rfl) (by rfl))
  (case X => exact X.keeps (in_kp G0 F N (List.forall_mem_singleton.mpr ⟨_, (.tail _ (.tail _ (.head _)))⟩) (by rfl) (by rfl)))
  (case T => exact T.keeps (in_kp G0 F N (List.forall_mem_singleton.mpr ⟨_, (.tail _ (.tail _ (.head _)))⟩) (by rfl) (by rfl)))
  (case hA => omega)
  (case hP => exact in_mu G0 F N (List.forall_mem_singleton.mpr ⟨_, (.tail _ (.tail _ (.head _)))⟩) (by rfl) (by rfl) (.head _))
  (case hT => exact N.get (.tail _ (.tail _ (.head _))))
  (case tab => exact hTab.kw G (Kw.fin .refl F.keep hNf))
  (case hl => exact in_list G0 F N (List.forall_mem_singleton.mpr ⟨_, (.tail _ (.tail _ (.head _)))⟩) (by rfl) (by rfl) (.head _) (nin (List.forall_mem_singleton.mpr hD145.symm)))
  (case hv => exact ho)
  (case hx => omega)
  (case h64 => omega)
  (case hri => exact srt_pw _)
  (case hn => omega)
  (case hp => exact .inr (.inl rfl))
  intro h₆ tk₆ t₆ ps₆ g₆ W₆ hT₆ hTab₆ hG₆
  obtain ⟨h₄, W4, G4, X4, T4, F4, N4⟩ := frW (news' := [(145, tabObj ps₆)]) G0 X T .refl F N W₆ rfl
    (List.forall_mem_singleton.mpr (N _ (.tail _ (.tail _ (.head _)))).2.symm)
    (List.forall_mem_singleton.mpr (.inl ⟨hT₆, .inr (.head _)⟩))
  clear F N XB TB
  walk_at "M steps"
  (with_reducible rename Fr _ _ _ _ => F)
  dsimp only
  simp only [S_app]
  exact ret _ _ _ ps₆ _ _ (Kw.fin W4 F.keep hNf) hT₆ hTab₆ hG₆.1
end
end Mine
theorem Mine.off41 : True := by w_top off; trivial
-- P19_words
namespace Mine
/-- what an instance of words holds -/
abbrev wordsD (w : World) (t1 t2 t3 : Tok) (l : Addr) (p q : Str) (tp tq : Tok) : Obj := dictOf
  [{ hash := PyData.keyHash w.params "words", key := Value.str "words" t1, val := Value.ref l },
   { hash := PyData.keyHash w.params "prefix", key := Value.str "prefix" t2, val := Value.str p tp },
   { hash := PyData.keyHash w.params "suffix", key := Value.str "suffix" t3, val := Value.str q tq }] 3
section
variable {w : World} {dp un : Nat} {fr : List Env} {gd : Option (List Code)} {s : Shared} {Q E : Value → Shared → Prop} {loose : List Str} {mean : ExcName → Option Value} {mg mb : Str → Option Value}
theorem words_p {h₀ : Heap} {L : Addr} {m : Str → Option Value} {news : List (Addr × Obj)} {l : Addr} {p : Str} {tp : Tok} (F : Fr h₀ L s.heap m) (N : News h₀ L s.heap news)
  (X : (hd.heap_39 w.params).In h₀) (T : Top topProg loose mean mg mb h₀) (hA : dp + 3 < recursionLimit)
  (ret : ∀ h' tk' (x dx : Addr) t1 t2 t3 t4 t5, Fr h₀ L h' m → News h₀ L h' ((x, instObj 181 dx) :: (dx, wordsD w t1 t2 t3 l p "" t4 t5) :: news) → (∀ p ∈ news, p.1 < dx) → dx < x → Q (.ref x) {s with heap := h', toks := tk'}) :
  wpAny (model PySem.Challenge.rw_ev0005_01.row.prog w) (Ar dp un (some fr) gd) (call (.ref 181) [.ref l] [(("prefix" : Str), .str p tp)]) Q E s := by
  revert X; k_fill; intro X
  refine' call_cls F X N ?k4 ?k5 ?k6 ?_
  (case k4 => k_is); (case k5 => k_is); (case k6 => k_is)
  intro x dx h' F' N' l1 hlt
  have XS := X.keeps F'.keep
  refine' enterHc [(x, instObj 181 dx), (dx, dictOf [] 0)] F'.keep ?hN ?k1 ?k2 ?k6 ?k7 ?k8 ?k9 ?kB ?_ ?c2 ?c3 ?c4 ?c5
  walk_at "M enterH"
  · intro p hp
    have := N' p (by simp at hp; rcases hp with rfl | rfl <;> simp)
    exact ⟨this.1, this.2.2⟩
  intro h₁ tk₁ XB TB F N
  have hltN := ltN hlt
  walk_at "M steps"
  (with_reducible rename Fr (But _ _) _ _ _ => F2)
  (with_reducible rename News (But _ _) _ _ _ => N2)
  refine ⟨rfl, ?_⟩
  obtain ⟨F3, N3⟩ := backB (news' := (x, instObj 181 dx) :: (dx, wordsD w _ _ _ l p "" _ _) :: news) (mu := [x, dx]) F' N' (fun b o hb e => F2.keep _ _ (but_of e (by simpa using hb)))
    (List.forall_mem_cons.mpr ⟨(N' _ (.head _)).2.symm, List.forall_mem_singleton.mpr (N' _ (.tail _ (.head _))).2.symm⟩)
    (fun p hp => by
      rcases List.mem_cons.mp hp with rfl | hp
      · exact .inl ⟨N2.get (.head _), .inr (.head _)⟩
      rcases List.mem_cons.mp hp with rfl | hp
      · exact .inl ⟨N2.get (.tail _ (.head _)), .inr (.tail _ (.head _))⟩
      · have := l1 p hp
        refine .inr ⟨.tail _ (.tail _ hp), fun q => ?_⟩
        rcases List.mem_cons.mp q with q | q
        · rw [q] at this; exact absurd (Nat.lt_trans this hlt) (Nat.lt_irrefl _)
        · rw [List.mem_singleton.mp q] at this; exact absurd this (Nat.lt_irrefl _))
  exact ret _ _ x dx _ _ _ _ _ F3 N3 l1 hlt
theorem words_s {h₀ : Heap} {L : Addr} {m : Str → Option Value} {news : List (Addr × Obj)} {l : Addr} {p : Str} {tp : Tok} (F : Fr h₀ L s.heap m) (N : News h₀ L s.heap news)
  (X : (hd.heap_39 w.params).In h₀) (T : Top topProg loose mean mg mb h₀) (hA : dp + 3 < recursionLimit)
  (ret : ∀ h' tk' (x dx : Addr) t1 t2 t3 t4 t5, Fr h₀ L h' m → News h₀ L h' ((x, instObj 181 dx) :: (dx, wordsD w t1 t2 t3 l "" p t4 t5) :: news) → (∀ p ∈ news, p.1 < dx) → dx < x → Q (.ref x) {s with heap := h', toks := tk'}) :
  wpAny (model PySem.Challenge.rw_ev0005_01.row.prog w) (Ar dp un (some fr) gd) (call (.ref 181) [.ref l] [(("suffix" : Str), .str p tp)]) Q E s := by
  revert X; k_fill; intro X
  refine' call_cls F X N ?k4 ?k5 ?k6 ?_
  (case k4 => k_is); (case k5 => k_is); (case k6 => k_is)
  intro x dx h' F' N' l1 hlt
  have XS := X.keeps F'.keep
  refine' enterHc [(x, instObj 181 dx), (dx, dictOf [] 0)] F'.keep ?hN ?k1 ?k2 ?k6 ?k7 ?k8 ?k9 ?kB ?_ ?c2 ?c3 ?c4 ?c5
  walk_at "M enterH"
  · intro p hp
    have := N' p (by simp at hp; rcases hp with rfl | rfl <;> simp)
    exact ⟨this.1, this.2.2⟩
  intro h₁ tk₁ XB TB F N
  have hltN := ltN hlt
  walk_at "M steps"
  (with_reducible rename Fr (But _ _) _ _ _ => F2)
  (with_reducible rename News (But _ _) _ _ _ => N2)
  refine ⟨rfl, ?_⟩
  obtain ⟨F3, N3⟩ := backB (news' := (x, instObj 181 dx) :: (dx, wordsD w _ _ _ l "" p _ _) :: news) (mu := [x, dx]) F' N' (fun b o hb e => F2.keep _ _ (but_of e (by simpa using hb)))
    (List.forall_mem_cons.mpr ⟨(N' _ (.head _)).2.symm, List.forall_mem_singleton.mpr (N' _ (.tail _ (.head _))).2.symm⟩)
    (fun p hp => by
      rcases List.mem_cons.mp hp with rfl | hp
      · exact .inl ⟨N2.get (.head _), .inr (.head _)⟩
      rcases List.mem_cons.mp hp with rfl | hp
      · exact .inl ⟨N2.get (.tail _ (.head _)), .inr (.tail _ (.head _))⟩
      · have := l1 p hp
        refine .inr ⟨.tail _ (.tail _ hp), fun q => ?_⟩
        rcases List.mem_cons.mp q with q | q
        · rw [q] at this; exact absurd (Nat.lt_trans this hlt) (Nat.lt_irrefl _)
        · rw [List.mem_singleton.mp q] at this; exact absurd this (Nat.lt_irrefl _))
  exact ret _ _ x dx _ _ _ _ _ F3 N3 l1 hlt
theorem words_n {h₀ : Heap} {L : Addr} {m : Str → Option Value} {news : List (Addr × Obj)} {l : Addr}  (F : Fr h₀ L s.heap m) (N : News h₀ L s.heap news)
  (X : (hd.heap_39 w.params).In h₀) (T : Top topProg loose mean mg mb h₀) (hA : dp + 3 < recursionLimit)
  (ret : ∀ h' tk' (x dx : Addr) t1 t2 t3 t4 t5, Fr h₀ L h' m → News h₀ L h' ((x, instObj 181 dx) :: (dx, wordsD w t1 t2 t3 l "" "" t4 t5) :: news) → (∀ p ∈ news, p.1 < dx) → dx < x → Q (.ref x) {s with heap := h', toks := tk'}) :
  wpAny (model PySem.Challenge.rw_ev0005_01.row.prog w) (Ar dp un (some fr) gd) (call (.ref 181) [.ref l] []) Q E s := by
  revert X; k_fill; intro X
  refine' call_cls F X N ?k4 ?k5 ?k6 ?_
  (case k4 => k_is); (case k5 => k_is); (case k6 => k_is)
  intro x dx h' F' N' l1 hlt
  have XS := X.keeps F'.keep
  refine' enterHc [(x, instObj 181 dx), (dx, dictOf [] 0)] F'.keep ?hN ?k1 ?k2 ?k6 ?k7 ?k8 ?k9 ?kB ?_ ?c2 ?c3 ?c4 ?c5
  walk_at "M enterH"
  · intro p hp
    have := N' p (by simp at hp; rcases hp with rfl | rfl <;> simp)
    exact ⟨this.1, this.2.2⟩
  intro h₁ tk₁ XB TB F N
  have hltN := ltN hlt
  walk_at "M steps"
  (with_reducible rename Fr (But _ _) _ _ _ => F2)
  (with_reducible rename News (But _ _) _ _ _ => N2)
  refine ⟨rfl, ?_⟩
  obtain ⟨F3, N3⟩ := backB (news' := (x, instObj 181 dx) :: (dx, wordsD w _ _ _ l "" "" _ _) :: news) (mu := [x, dx]) F' N' (fun b o hb e => F2.keep _ _ (but_of e (by simpa using hb)))
    (List.forall_mem_cons.mpr ⟨(N' _ (.head _)).2.symm, List.forall_mem_singleton.mpr (N' _ (.tail _ (.head _))).2.symm⟩)
    (fun p hp => by
      rcases List.mem_cons.mp hp with rfl | hp
      · exact .inl ⟨N2.get (.head _), .inr (.head _)⟩
      rcases List.mem_cons.mp hp with rfl | hp
      · exact .inl ⟨N2.get (.tail _ (.head _)), .inr (.tail _ (.head _))⟩
      · have := l1 p hp
        refine .inr ⟨.tail _ (.tail _ hp), fun q => ?_⟩
        rcases List.mem_cons.mp q with q | q
        · rw [q] at this; exact absurd (Nat.lt_trans this hlt) (Nat.lt_irrefl _)
        · rw [List.mem_singleton.mp q] at this; exact absurd this (Nat.lt_irrefl _))
  exact ret _ _ x dx _ _ _ _ _ F3 N3 l1 hlt
theorem words_ps {h₀ : Heap} {L : Addr} {m : Str → Option Value} {news : List (Addr × Obj)} {l : Addr} {p q : Str} {tp tq : Tok} (F : Fr h₀ L s.heap m) (N : News h₀ L s.heap news)
  (X : (hd.heap_39 w.params).In h₀) (T : Top topProg loose mean mg mb h₀) (hA : dp + 3 < recursionLimit)
  (ret : ∀ h' tk' (x dx : Addr) t1 t2 t3 t4 t5, Fr h₀ L h' m → News h₀ L h' ((x, instObj 181 dx) :: (dx, wordsD w t1 t2 t3 l p q t4 t5) :: news) → (∀ p ∈ news, p.1 < dx) → dx < x → Q (.ref x) {s with heap := h', toks := tk'}) :
  wpAny (model PySem.Challenge.rw_ev0005_01.row.prog w) (Ar dp un (some fr) gd) (call (.ref 181) [.ref l] [(("prefix" : Str), .str p tp), (("suffix" : Str), .str q tq)]) Q E s := by
  revert X; k_fill; intro X
  refine' call_cls F X N ?k4 ?k5 ?k6 ?_
  (case k4 => k_is); (case k5 => k_is); (case k6 => k_is)
  intro x dx h' F' N' l1 hlt
  have XS := X.keeps F'.keep
  refine' enterHc [(x, instObj 181 dx), (dx, dictOf [] 0)] F'.keep ?hN ?k1 ?k2 ?k6 ?k7 ?k8 ?k9 ?kB ?_ ?c2 ?c3 ?c4 ?c5
  walk_at "M enterH"
  · intro p hp
    have := N' p (by simp at hp; rcases hp with rfl | rfl <;> simp)
    exact ⟨this.1, this.2.2⟩
  intro h₁ tk₁ XB TB F N
  have hltN := ltN hlt
  walk_at "M steps"
  (with_reducible rename Fr (But _ _) _ _ _ => F2)
  (with_reducible rename News (But _ _) _ _ _ => N2)
  refine ⟨rfl, ?_⟩
  obtain ⟨F3, N3⟩ := backB (news' := (x, instObj 181 dx) :: (dx, wordsD w _ _ _ l p q _ _) :: news) (mu := [x, dx]) F' N' (fun b o hb e => F2.keep _ _ (but_of e (by simpa using hb)))
    (List.forall_mem_cons.mpr ⟨(N' _ (.head _)).2.symm, List.forall_mem_singleton.mpr (N' _ (.tail _ (.head _))).2.symm⟩)
    (fun p hp => by
      rcases List.mem_cons.mp hp with rfl | hp
      · exact .inl ⟨N2.get (.head _), .inr (.head _)⟩
      rcases List.mem_cons.mp hp with rfl | hp
      · exact .inl ⟨N2.get (.tail _ (.head _)), .inr (.tail _ (.head _))⟩
      · have := l1 p hp
        refine .inr ⟨.tail _ (.tail _ hp), fun q => ?_⟩
        rcases List.mem_cons.mp q with q | q
        · rw [q] at this; exact absurd (Nat.lt_trans this hlt) (Nat.lt_irrefl _)
        · rw [List.mem_singleton.mp q] at this; exact absurd this (Nat.lt_irrefl _))
  exact ret _ _ x dx _ _ _ _ _ F3 N3 l1 hlt
end
end Mine
theorem Mine.off42 : True := by w_top off; trivial
-- P20_get
namespace Mine
theorem Kw.less {fr : List Env} {a : Addr} {mu : List Addr} {h h' : Heap} (W : Kw fr (a :: mu) h h') (k : ∀ o, h.get? a = some o → h'.get? a = some o) : Kw fr mu h h' := by
  refine ⟨fun b o p q e => ?_, W.slot⟩
  by_cases hb : b = a
  · subst hb; exact k _ e
  · exact W.keep b o p (fun z => by
      rcases List.mem_cons.mp z with z | z
      · exact hb z
      · exact q z) e
section
variable {w : World} {dp un : Nat} {fr : List Env} {gd : Option (List Code)} {s : Shared} {Q E : Value → Shared → Prop} {loose : List Str} {mean : ExcName → Option Value} {mg mb : Str → Option Value}
theorem get_c {B : Heap} {l x dx : Addr} {vs : List Value} {xs : List (List Nat)} {p q : List Nat} {t1 t2 t3 tp tq : Tok} {ps : Array Value}
  (G : Fl B fr s.heap) (X : (hd.heap_39 w.params).In B) (T : Top topProg loose mean mg mb B) (hA : dp + 2 * msr xs + 12 < recursionLimit) (hP : B.get? 145 = none ∧ 145 ∉ fa fr) (hT : s.heap.get? 145 = some (tabObj ps)) (hTab : TabOk s.heap ps)
  (hgx : s.heap.get? x = some (instObj 181 dx)) (hgd : s.heap.get? dx = some (wordsD w t1 t2 t3 l (S p) (S q) tp tq)) (hxo : B.get? x = none ∧ x ∉ fa fr) (hdo : B.get? dx = none ∧ dx ∉ fa fr)
  (hl : B.IsList l vs.toArray) (hvs : StrsAre vs (xs.map S)) (hnd : xs.Nodup) (hne : xs ≠ []) (hx : msr xs ≤ 10000) (h64 : xs.length < 64) (hp : p.length ≤ 300000) (hq : q.length ≤ 300000)
  (ret : ∀ h' tk' t ps' g' d', Kw fr [145] s.heap h' → h'.get? 145 = some (tabObj ps') → TabOk h' ps' → GensOk s.gens g' → Q (.str (S (p ++ pat xs ++ q)) t) { s with heap := h', toks := tk', gens := g', drawn := d' }) :
  wpAny (model PySem.Challenge.rw_ev0005_01.row.prog w) (Ar dp un (some fr) gd) (call (.ref 178) [.ref x]) Q E s := by
  revert X; k_fill; intro X
  have hxne : x ≠ 145 := fun e => by rw [e, hT] at hgx; cases hgx
  have hdne : dx ≠ 145 := fun e => by rw [e, hT] at hgd; cases hgd
  have hNN : ∀ z ∈ [(x, instObj 181 dx), (dx, wordsD w t1 t2 t3 l (S p) (S q) tp tq), ((145 : Addr), tabObj ps)], s.heap.get? z.1 = some z.2 ∧ B.get? z.1 = none ∧ z.1 ∉ fa fr := by
    simp only [List.forall_mem_cons]
    exact ⟨⟨hgx, hxo⟩, ⟨hgd, hdo⟩, ⟨hT, hP⟩, fun _ h => nomatch h⟩
  have G0 : Fl B fr (But s [(x, instObj 181 dx), (dx, wordsD w t1 t2 t3 l (S p) (S q) tp tq), (145, tabObj ps)]) := G.but fun q hq => (hNN q hq).2
  refine' enterH [(x, instObj 181 dx), (dx, wordsD w t1 t2 t3 l (S p) (S q) tp tq), (145, tabObj ps)] G.kp ?hN ?k1 ?k2 ?k6 ?k7 ?k8 ?k9 ?kB ?_ ?c2 ?c3 ?c4 ?c5
  walk_at "M enterH"
  · exact fun q hq => ⟨(hNN q hq).1, (hNN q hq).2.1⟩
  intro h₁ tk₁ XB TB F N
  walk_at "M steps"
  walk_at "M go"
  (with_reducible rename Fr _ _ _ _ => F); (with_reducible rename News _ _ _ _ => N)
  refine ⟨by k_in, ?_⟩
  have hdp : (Ar dp un (some fr) gd).depth = dp := rfl
  have hlB : Kp B (But s [(x, instObj 181 dx), (dx, wordsD w t1 t2 t3 l (S p) (S q) tp tq), (145, tabObj ps)]) := but_base G.kp fun z hz => (hNN z hz).2.1
  have hlx : ∀ z ∈ [x, dx, 145], z ≠ l := fun z hz e => by
    obtain ⟨ol, hol, _⟩ := hl
    simp only [List.mem_cons, List.not_mem_nil, or_false] at hz
    rcases hz with rfl | rfl | rfl
    · rw [e, hol] at hxo; cases hxo.1
    · rw [e, hol] at hdo; cases hdo.1
    · rw [e, hol] at hP; cases hP.1
  refine' opt_c (xs := xs) (p := p) (q := q) (ps := ps) ?G ?X ?T ?hA ?hP ?hT ?tab ?hl ?hv ?hnd ?hne ?hx ?h64 ?hp ?hq ?_
  (case G => exact in_fl (M := [145]) G0 F N (List.forall_mem_singleton.mpr ⟨_, (.tail _ (.tail _ (.head _)))⟩) (by rfl) (by rfl))
  (case X => exact X.keeps (in_kp G0 F N (List.forall_mem_singleton.mpr ⟨_, (.tail _ (.tail _ (.head _)))⟩) (by rfl) (by rfl)))
  (case T => exact T.keeps (in_kp G0 F N (List.forall_mem_singleton.mpr ⟨_, (.tail _ (.tail _ (.head _)))⟩) (by rfl) (by rfl)))
  (case hA => omega)
  (case hP => exact in_mu G0 F N (List.forall_mem_singleton.mpr ⟨_, (.tail _ (.tail _ (.head _)))⟩) (by rfl) (by rfl) (.head _))
  (case hT => exact N.get (.tail _ (.tail _ (.head _))))
  (case tab => exact hTab.kw G (((Kw.fin .refl F.keep (fun z hz => (hNN z hz).2.2)).less fun o e => by rw [hgx] at e; cases e; exact N.get (.head _)).less fun o e => by rw [hgd] at e; cases e; exact N.get (.tail _ (.head _))))
  (case hl => exact hl.at fun o e => in_kp G0 F N (List.forall_mem_singleton.mpr ⟨_, (.tail _ (.tail _ (.head _)))⟩) (by rfl) (by rfl) _ _ e)
  (case hv => exact hvs)
  (case hnd => exact hnd)
  (case hne => exact hne)
  (case hx => exact hx)
  (case h64 => exact h64)
  (case hp => exact hp)
  (case hq => exact hq)
  intro h₆ tk₆ t₆ ps₆ g₆ d₆ W₆ hT₆ hTab₆ hG₆
  obtain ⟨h₄, W4, G4, X4, T4, F4, N4⟩ := frW (news' := [(x, instObj 181 dx), (dx, wordsD w t1 t2 t3 l (S p) (S q) tp tq), (145, tabObj ps₆)]) G0 X T .refl F N W₆ rfl
    (List.forall_mem_singleton.mpr (N _ (.tail _ (.tail _ (.head _)))).2.symm)
    (by
      simp only [List.forall_mem_cons]
      exact ⟨.inr ⟨.head _, fun z => hxne (List.mem_singleton.mp z)⟩, .inr ⟨.tail _ (.head _), fun z => hdne (List.mem_singleton.mp z)⟩, .inl ⟨hT₆, .inr (.head _)⟩, fun _ h => nomatch h⟩)
  clear F N XB TB
  walk_at "M steps"
  (with_reducible rename Fr _ _ _ _ => F)
  dsimp only
  refine ret _ _ _ ps₆ _ _ (((Kw.fin W4 F.keep (fun z hz => (hNN z hz).2.2)).less fun o e => ?_).less fun o e => ?_) hT₆ hTab₆ hG₆
  · rw [hgx] at e; cases e; exact (N4 _ (.head _)).1
  · rw [hgd] at e; cases e; exact (N4 _ (.tail _ (.head _))).1
end
end Mine
theorem Mine.off43 : True := by w_top off; trivial
-- P21_next
namespace Mine
section
variable {prog : Program} {w : World} {A : Around} {E : Value → Shared → Prop} {s : Shared}
/-- a while by an own invariant of the whole state and a measure -/
theorem whileJ {env : Env} {test : Expr} {body : List Stmt} {pos : Pos} {Q : Flow → Shared → Prop} (J : Nat → Shared → Prop) (hE : PassesOwn (model prog w) A env E)
    (step : ∀ n s, J n s → wpAny (model prog w) A (isTrue test env (eval test env)) (fun b s₂ => WhlIf b (wpAny (model prog w) A (execs body env) (fun f s₃ => match f with
      | .next => ∃ m, m < n ∧ J m s₃ | .cont => ∃ m, m < n ∧ J m s₃ | .brk => Q .next s₃ | .ret v => Q (.ret v) s₃) E s₂) (Q .next s₂)) E s) (n : Nat) (h : J n s) :
    wpAny (model prog w) A (exec (.While test body [] pos) env) Q E s := by
  refine whl_start 1 ?_
  induction n using Nat.strongRecOn generalizing s with
  | ind n ih =>
    refine whl_turn (k := 0) hE (wpAny_mono (step n s h) (fun b s₂ hb => ?_) fun _ _ e => e)
    cases b with
    | false =>
      refine WhlIf.no rfl ?_
      unfold WhlIf at hb
      rw [if_neg Bool.false_ne_true] at hb
      exact wpAny_execs_nil hb
    | true =>
      refine WhlIf.yes rfl ?_
      unfold WhlIf at hb
      rw [if_pos rfl] at hb
      refine wpAny_mono hb (fun f s₃ hf => ?_) fun _ _ e => e
      cases f with
      | next => exact let ⟨m, hm, hJ⟩ := hf; ih m hm hJ
      | cont => exact let ⟨m, hm, hJ⟩ := hf; ih m hm hJ
      | brk => exact hf
      | ret v => exact hf
end
section
variable {w : World} {dp un : Nat} {fr : List Env} {gd : Option (List Code)} {s : Shared} {Q E : Value → Shared → Prop} {loose : List Str} {mean : ExcName → Option Value} {mg mb : Str → Option Value}
theorem next_c {B : Heap} {st nA : Addr} {ns : List Int} {vs : List Value} {at_ : Nat} {t tm : Tok} {many : Int} {c : Nat} (hB : Kp B s.heap)
  (X : (hd.heap_39 w.params).In B) (T : Top topProg loose mean mg mb B) (hA : dp + 2 < recursionLimit)
  (hst : s.heap.get? st = some (liObj #[.ref nA, .int at_ t] c)) (hout : B.get? st = none) (hnA : B.IsList nA vs.toArray) (hi : IntsAre vs ns) (hn : ∀ n ∈ ns, 0 ≤ n ∧ n ≤ 1000003) (hlen : 3 ≤ ns.length ∧ ns.length ≤ 100) (hat : at_ ≤ 100000) (hm : 1 ≤ many ∧ many ≤ 100)
  (ret : ∀ h' tk' c' t' r u, (∀ b o, b ≠ st → s.heap.get? b = some o → h'.get? b = some o) → h'.get? st = some (liObj #[.ref nA, .int ((at_ + 1 : Nat) : Int) t'] c') → 0 ≤ r → r < many → Q (.int r u) { s with heap := h', toks := tk' }) :
  wpAny (model PySem.Challenge.rw_ev0005_01.row.prog w) (Ar dp un (some fr) gd) (call (.ref 192) [.ref st, .int many tm]) Q E s := by
  revert X; k_fill; intro X
  have hN : ∀ q ∈ [(st, liObj #[.ref nA, .int at_ t] c)], s.heap.get? q.1 = some q.2 ∧ B.get? q.1 = none := List.forall_mem_singleton.mpr ⟨hst, hout⟩
  refine' enterH [(st, liObj #[.ref nA, .int at_ t] c)] hB hN ?k1 ?k2 ?k6 ?k7 ?k8 ?k9 ?kB ?_ ?c2 ?c3 ?c4 ?c5
  walk_at "M enterH"
  intro h₁ tk₁ XB TB F N
  have hvl : vs.length = ns.length := IntsAre.length hi
  have hl1 : (But s [(st, liObj #[.ref nA, .int at_ t] c)]).IsList nA vs.toArray := hnA.at fun o e => (but_base hB fun q hq => (hN q hq).2) _ _ e
  have hlv : 3 ≤ vs.length ∧ vs.length ≤ 100 := by omega
  walk_at "M steps"
  have hv : 0 ≤ ns.getD ((at_ : Int).fmod vs.length).toNat 0 ∧ ns.getD ((at_ : Int).fmod vs.length).toNat 0 ≤ 1000003 := by
    rw [List.getD_eq_getElem?_getD]
    cases e : ns[((at_ : Int).fmod vs.length).toNat]? with
    | none => exact ⟨by decide, by decide⟩
    | some n => exact hn n (List.mem_of_getElem? e)
  have hq : 0 ≤ (at_ : Int).fdiv vs.length ∧ (at_ : Int).fdiv vs.length ≤ 100000 := by
    rw [Int.fdiv_eq_ediv_of_nonneg _ (by omega)]
    have h1 := Int.ediv_nonneg (a := at_) (b := vs.length) (by omega) (by omega)
    have h2 := Int.ediv_le_self (vs.length : Int) (a := at_) (by omega)
    omega
  generalize ns.getD ((at_ : Int).fmod vs.length).toNat 0 = v at *
  generalize (at_ : Int).fdiv vs.length = qq at *
  have hd1 : 0 ≤ v.fdiv (1 + qq) ∧ v.fdiv (1 + qq) ≤ 1000003 := by
    rw [Int.fdiv_eq_ediv_of_nonneg _ (by omega)]
    have h1 := Int.ediv_nonneg (a := v) (b := 1 + qq) (by omega) (by omega)
    have h2 := Int.ediv_le_self (1 + qq) (a := v) (by omega)
    omega
  refine floordiv_int (by omega) ?_ (.inl (PyProof.noPylong_small (by omega)))
  generalize v.fdiv (1 + qq) = d at *
  walk_at "M steps"
  (with_reducible rename Fr _ _ _ _ => F2); (with_reducible rename News _ _ _ _ => N2)
  have hr1 : 0 ≤ (d + 7 * qq).fmod many := Int.fmod_nonneg (by omega) (by omega)
  have hr2 : (d + 7 * qq).fmod many < many := Int.fmod_lt_of_pos _ (by omega)
  have hc : ((at_ + 1 : Nat) : Int) = (at_ : Int) + 1 := by omega
  have hg := N2.get (.tail _ (.head _))
  rw [← hc] at hg
  exact ret _ _ c _ _ _ (fun b o hb e => F2.keep _ _ (but_of e (by simpa using hb))) hg hr1 hr2
end
end Mine
theorem Mine.off44 : True := by w_top off; trivial
-- P22_signs
namespace Mine
def sg : List (List Nat) := [[97, 98], [97, 98, 99], [97, 46, 98, 42], [97, 45, 98, 94], [91, 97, 93, 98], [97, 92, 98, 124], [40, 97, 41, 63], [97, 32, 36, 43], [120, 121, 122, 123, 125], [97, 10, 98, 35]]
section
variable {w : World} {dp un : Nat} {fr : List Env} {gd : Option (List Code)} {s : Shared} {Q E : Value → Shared → Prop} {loose : List Str} {mean : ExcName → Option Value} {mg mb : Str → Option Value}
theorem signs_c (X : (hd.heap_39 w.params).In s.heap) (T : Top topProg loose mean mg mb s.heap) (hA : dp + 2 < recursionLimit)
  (ret : ∀ h' tk' (D : Addr) vs n, Kp s.heap h' → s.heap.get? D = none → h'.get? D = some (PySem.W.listOf (List.toArray vs) n) → StrsAre vs (sg.map S) → Q (.ref D) { s with heap := h', toks := tk' }) :
  wpAny (model PySem.Challenge.rw_ev0005_01.row.prog w) (Ar dp un (some fr) gd) (call (.ref 204) []) Q E s := by
  revert X; k_fill; intro X
  walk_at "M enter"
  intro h₁ tk₁ F N
  walk_at "M steps"
  (with_reducible rename Fr _ _ _ _ => F2); (with_reducible rename News _ _ _ _ => N2)
  have e : sg.map S = [Str.ofString "ab", Str.ofString "abc", Str.ofString "a.b*", Str.ofString "a-b^", Str.ofString "[a]b", Str.ofString "a\\b|", Str.ofString "(a)?", Str.ofString "a $+", Str.ofString "xyz{}", Str.ofString "a\nb#"] := by decide +kernel
  refine ret _ _ _ _ 0 F2.keep (N2 _ (.head _)).2.2 (N2.get (.head _)) ?_
  rw [e]
  exact .cons _ _ (.cons _ _ (.cons _ _ (.cons _ _ (.cons _ _ (.cons _ _ (.cons _ _ (.cons _ _ (.cons _ _ (.cons _ _ .nil)))))))))
end
end Mine
theorem Mine.off45 : True := by w_top off; trivial
-- P22b_range
namespace Mine
abbrev riObj (x left : Int) : Obj := { cls := .type "range_iterator", data := .fields #[rawInt x, rawInt left, rawInt 1] }
section
variable {prog : Program} {w : World} {A : Around} {E : Value → Shared → Prop} {s : Shared} {h₀ : Heap} {L : Addr} {m : Str → Option Value} {news : List (Addr × Obj)}
/-- an own iterator over range(n) -/
theorem iterR {R : Addr} {n : Nat} {t u v : Tok} {Q : Value → Shared → Prop} (FF : Fr h₀ L s.heap m) (N : News h₀ L s.heap news) (hR : IsRange s.heap R 0 (n : Int) 1 t u v) (hn : n ≤ 1000)
    (h : ∀ I h', Fr h₀ L h' m → News h₀ L h' ((I, riObj 0 n) :: news) → (∀ p ∈ news, p.1 < I) → Kp s.heap h' → Q (.ref I) { s with heap := h' }) : wpAny (model prog w) A (pyIter (.ref R)) Q E s := by
  have hs : Builtin.Range.rangeSize 0 (n : Int) 1 = n := by
    rw [rangeSize_one]
    split <;> omega
  refine wpAny_pyIter_range hR (small_one (by decide) (by decide) (by omega) (by omega)) ?_
  rw [hs]
  exact h _ _ (FF.push _) (News.push FF N _ rfl) (fun p hp => Heap.lt_size (N p hp).1) fun b o e => Heap.get?_push_of_some _ e
theorem nextR {I : Addr} {x left : Int} {Q : Option Value → Shared → Prop} (FF : Fr h₀ L s.heap m) (N : News h₀ L s.heap ((I, riObj x left) :: news)) (hne : ∀ p ∈ news, p.1 ≠ I) (hl : 0 < left)
    (h : ∀ h' t tk, Fr h₀ L h' m → News h₀ L h' ((I, riObj (x + 1) (left - 1)) :: news) → (∀ b o, b ≠ I → s.heap.get? b = some o → h'.get? b = some o) → Q (some (.int x t)) { s with heap := h', toks := tk }) : wpAny (model prog w) A (pyNext (.ref I)) Q E s := by
  refine wpAny_pyNext_range_item (N _ (.head _)).1 hl fun h' hi hs => ?_
  have hk : ∀ b o, b ≠ I → s.heap.get? b = some o → h'.get? b = some o := fun b o hb e => (hs.2 b hb).trans e
  obtain ⟨F2, N2⟩ := newsHead (o' := riObj (x + 1) (left - 1)) FF N hne hk hi
  exact h h' _ _ F2 N2 hk
theorem nextR_end {I : Addr} {x left : Int} {Q : Option Value → Shared → Prop} (hh : A.handled = none) (FF : Fr h₀ L s.heap m) (N : News h₀ L s.heap ((I, riObj x left) :: news)) (hne : ∀ p ∈ news, p.1 ≠ I) (hl : left ≤ 0)
    (h : ∀ h', Fr h₀ L h' m → News h₀ L h' news → (∀ b o, b ≠ I → s.heap.get? b = some o → h'.get? b = some o) → Q none { s with heap := h' }) : wpAny (model prog w) A (pyNext (.ref I)) Q E s := by
  refine wpAny_pyNext_range_end hh (N _ (.head _)).1 hl fun h' hs => ?_
  have hk : ∀ b o, b ≠ I → s.heap.get? b = some o → h'.get? b = some o := fun b o hb e => hs b o hb e
  obtain ⟨F2, N2⟩ := newsDrop FF N hne hk
  exact h h' F2 N2 hk
end
section
variable {w : World} {dp un : Nat} {fr : List Env} {gd : Option (List Code)} {s : Shared} {Q E : Value → Shared → Prop} {loose : List Str} {mean : ExcName → Option Value} {mg mb : Str → Option Value}
/-- _law_next, within a frame -/
theorem next_in {h₀ : Heap} {L : Addr} {m : Str → Option Value} {own rest : List (Addr × Obj)} {st nA : Addr} {ns : List Int} {vs : List Value} {at_ : Nat} {t tm : Tok} {many : Int} {c : Nat} (F : Fr h₀ L s.heap m) (N : News h₀ L s.heap (own ++ (st, liObj #[.ref nA, .int at_ t] c) :: rest)) (hne : ∀ q ∈ own ++ rest, q.1 ≠ st)
  (X : (hd.heap_39 w.params).In h₀) (T : Top topProg loose mean mg mb h₀) (hA : dp + 2 < recursionLimit)
  (hnA : h₀.IsList nA vs.toArray) (hi : IntsAre vs ns) (hn : ∀ n ∈ ns, 0 ≤ n ∧ n ≤ 1000003) (hlen : 3 ≤ ns.length ∧ ns.length ≤ 100) (hat : at_ ≤ 100000) (hm : 1 ≤ many ∧ many ≤ 100)
  (ret : ∀ h' tk' c' t' r u, Fr h₀ L h' m → News h₀ L h' (own ++ (st, liObj #[.ref nA, .int ((at_ + 1 : Nat) : Int) t'] c') :: rest) → 0 ≤ r → r < many → (∀ b o, b ≠ st → s.heap.get? b = some o → h'.get? b = some o) → Q (.int r u) { s with heap := h', toks := tk' }) :
  wpAny (model PySem.Challenge.rw_ev0005_01.row.prog w) (Ar dp un (some fr) gd) (call (.ref 192) [.ref st, .int many tm]) Q E s := by
  have hst := N (st, liObj #[.ref nA, .int at_ t] c) (List.mem_append_right _ (.head _))
  refine next_c (B := h₀) F.keep X T hA hst.1 hst.2.2 hnA hi hn hlen hat hm fun h' tk' c' t' r u hk hg h0 h1 => ?_
  obtain ⟨F2, N2⟩ := tabSet (o' := liObj #[.ref nA, .int ((at_ + 1 : Nat) : Int) t'] c') F N hne hk hg
  exact ret h' tk' c' t' r u F2 N2 h0 h1 hk
end
end Mine
theorem Mine.off46 : True := by w_top off; trivial
-- P22c_cmp
namespace Mine
open PySem.SeqAt
section
variable {prog : Program} {w : World} {A : Around} {E : Value → Shared → Prop} {s : Shared} {a b : Addr} {vs ws : List Value} {xs ys : List Str} {Q : Value → Shared → Prop}
theorem strs_eqAt (hi : StrsAre vs xs) (hj : StrsAre ws ys) (j : Nat) (h1 : j < vs.toArray.size) (h2 : j < ws.toArray.size) : EqAt A s vs.toArray[j] ws.toArray[j] (xs.getD j default == ys.getD j default) := by
  have e1 : j < xs.length := by rw [← strsLen hi]; simpa using h1
  have e2 : j < ys.length := by rw [← strsLen hj]; simpa using h2
  obtain ⟨t, ht⟩ := strsAre_at hi (i := j) (y := xs[j]) (List.getElem?_eq_getElem e1)
  obtain ⟨u, hu⟩ := strsAre_at hj (i := j) (y := ys[j]) (List.getElem?_eq_getElem e2)
  have v1 : vs.toArray[j] = .str xs[j] t := by
    have := List.getElem?_eq_some_iff.mp ht
    obtain ⟨_, e⟩ := this
    simpa using e
  have v2 : ws.toArray[j] = .str ys[j] u := by
    have := List.getElem?_eq_some_iff.mp hu
    obtain ⟨_, e⟩ := this
    simpa using e
  rw [v1, v2, List.getD_eq_getElem?_getD, List.getD_eq_getElem?_getD, List.getElem?_eq_getElem e1, List.getElem?_eq_getElem e2]
  exact EqAt.str_str _ _ _ _
theorem all_eq : ∀ {xs ys : List Str}, xs.length = ys.length → (List.range xs.length).all (fun j => xs.getD j default == ys.getD j default) = decide (xs = ys) := by
  intro xs ys h
  rw [Bool.eq_iff_iff]
  simp only [List.all_eq_true, List.mem_range, beq_iff_eq, decide_eq_true_eq]
  constructor
  · intro k
    apply List.ext_getElem h
    intro i h1 h2
    have := k i h1
    simpa [List.getD_eq_getElem?_getD, h1, h2] using this
  · rintro rfl _ _; rfl
theorem neTexts (ha : s.heap.IsList a vs.toArray) (hb : s.heap.IsList b ws.toArray) (hi : StrsAre vs xs) (hj : StrsAre ws ys) (hu : A.units < cLine) (h : Q (.bool (!decide (xs = ys))) s) :
    wpAny (model prog w) A (compareOp .NotEq (.ref a) (.ref b)) Q E s := by
  by_cases hl : xs.length = ys.length
  · have hs : vs.toArray.size = ws.toArray.size := by simp [strsLen hi, strsLen hj, hl]
    refine RcNeAt.lists ha hb hs hu (fun j h1 h2 => strs_eqAt hi hj j h1 h2) prog w E Q ?_
    have e : vs.toArray.size = xs.length := by simp [strsLen hi]
    rw [e, all_eq hl]
    exact h
  · have hs : (vs.toArray.size != ws.toArray.size) = true := by simpa [strsLen hi, strsLen hj] using hl
    refine RcNeAt.lists_lengths ha hb hs hu prog w E Q ?_
    have : xs ≠ ys := fun e => hl (by rw [e])
    simpa [this] using h
theorem rcTexts (ha : s.heap.IsList a vs.toArray) (hb : s.heap.IsList b ws.toArray) (hi : StrsAre vs xs) (hj : StrsAre ws ys) (hu : A.units < cLine) : RcAt A s (.ref a) (.ref b) (decide (xs = ys)) := by
  by_cases hl : xs.length = ys.length
  · have hs : vs.toArray.size = ws.toArray.size := by simp [strsLen hi, strsLen hj, hl]
    have e : vs.toArray.size = xs.length := by simp [strsLen hi]
    have := RcAt.lists (A := A) ha hb hs hu (fun j h1 h2 => strs_eqAt hi hj j h1 h2)
    rw [e, all_eq hl] at this
    exact this
  · have hs : (vs.toArray.size != ws.toArray.size) = true := by simpa [strsLen hi, strsLen hj] using hl
    have : xs ≠ ys := fun e => hl (by rw [e])
    rw [decide_eq_false this]
    exact RcAt.lists_lengths ha hb hs hu
theorem eqTexts (ha : s.heap.IsList a vs.toArray) (hb : s.heap.IsList b ws.toArray) (hi : StrsAre vs xs) (hj : StrsAre ws ys) (hu : A.units < cLine) (h : Q (.bool (decide (xs = ys))) s) :
    wpAny (model prog w) A (compareOp .Eq (.ref a) (.ref b)) Q E s := rcTexts ha hb hi hj hu prog w E Q h
theorem neEmpty (ha : s.heap.IsList a vs.toArray) (hb : s.heap.IsList b #[]) (hi : StrsAre vs xs) (hu : A.units < cLine) (h : Q (.bool (!decide (xs = []))) s) :
    wpAny (model prog w) A (compareOp .NotEq (.ref a) (.ref b)) Q E s := neTexts ha (ws := []) hb hi .nil hu h
end
end Mine
theorem Mine.off47 : True := by w_top off; trivial
-- P23_words
namespace Mine
local macro_rules | `(tactic| walk_at "M none") => `(tactic| skip)
local macro_rules | `(tactic| walk_at "pyIter ref") => `(tactic| refine Mine.stop ?_)
local macro_rules | `(tactic| walk_at "exec If") => `(tactic| ((fail_if_success (have : Mine.NoStop := by assumption)); refine Mine.stop ?_))
local macro_rules | `(tactic| walk_at "compareOp NotEq ref ref") => `(tactic| refine Mine.stop ?_)
local macro_rules | `(tactic| walk_at "compareOp NotIn str ref") => `(tactic| refine Mine.stop ?_)
section
variable {w : World} {dp un : Nat} {fr : List Env} {gd : Option (List Code)} {s : Shared} {Q E : Value → Shared → Prop} {loose : List Str} {mean : ExcName → Option Value} {mg mb : Str → Option Value}
theorem lwords_c {B : Heap} {st nA : Addr} {ns : List Int} {vs : List Value} {k : Nat} {t : Tok} {c : Nat} (hB : Kp B s.heap)
  (X : (hd.heap_39 w.params).In B) (T : Top topProg loose mean mg mb B) (hA : dp + 4 < recursionLimit) (hU : un + 100 < cLine)
  (hst : s.heap.get? st = some (liObj #[.ref nA, .int k t] c)) (hout : B.get? st = none) (hnA : B.IsList nA vs.toArray) (hints : IntsAre vs ns) (hn : ∀ n ∈ ns, 0 ≤ n ∧ n ≤ 1000003) (hlen : 3 ≤ ns.length ∧ ns.length ≤ 100) (hat : k ≤ 1000)
  (ret : ∀ h' tk' c' t' k' (D : Addr) ws cw xs, (∀ b o, b ≠ st → s.heap.get? b = some o → h'.get? b = some o) → h'.get? st = some (liObj #[.ref nA, .int (k' : Nat) t'] c') → k' ≤ k + 100 → s.heap.get? D = none → h'.get? D = some (PySem.W.listOf (List.toArray ws) cw) → StrsAre ws (xs.map S) →
    xs ≠ [] → xs.Nodup → xs.length ≤ 4 → (∀ x ∈ xs, x.length ≤ 12) → Q (.ref D) { s with heap := h', toks := tk' }) :
  wpAny (model PySem.Challenge.rw_ev0005_01.row.prog w) (Ar dp un (some fr) gd) (call (.ref 211) [.ref st]) Q E s := by
  revert X; k_fill; intro X
  have hN : ∀ q ∈ [(st, liObj #[.ref nA, .int k t] c)], s.heap.get? q.1 = some q.2 ∧ B.get? q.1 = none := List.forall_mem_singleton.mpr ⟨hst, hout⟩
  refine' enterH [(st, liObj #[.ref nA, .int k t] c)] hB hN ?k1 ?k2 ?k6 ?k7 ?k8 ?k9 ?kB ?_ ?c2 ?c3 ?c4 ?c5
  walk_at "M enterH"
  intro h₁ tk₁ XB TB F N
  have hl1 : (But s [(st, liObj #[.ref nA, .int k t] c)]).IsList nA vs.toArray := hnA.at fun o e => (but_base hB fun q hq => (hN q hq).2) _ _ e
  have hdp : (Ar dp un (some fr) gd).depth = dp := rfl
  have hstL : @LT.lt Nat _ st s.heap.objs.size := Heap.lt_size hst
  walk_at "M steps"
  walk_at "M go"
  refine signs_c (XB.keeps F.keep) (TB.keeps F.keep) (by omega) fun h₂ tk₂ D vg ng hk2 hDn hD hvg => ?_
  obtain ⟨F2, N2⟩ := frK F N hk2
  obtain ⟨N3, hne3⟩ := newsNew F N hk2 hDn hD
  clear F N N2
  walk_at "M steps"
  walk_at "M go"
  have hDst : D ≠ st := (hne3 _ (.head _)).symm
  refine ⟨by k_in, ?_⟩
  refine next_in (own := [(D, _)]) (rest := []) F2 N3 (List.forall_mem_singleton.mpr hDst) XB TB (by omega) hl1 hints hn hlen (by omega) (by decide) fun h₃ tk₃ c3 t3 r3 u3 F3 N3 h30 h31 hk3 => ?_
  clear F2
  have hsgl : sg.length = 10 := rfl
  have hlt : r3.toNat < sg.length := by omega
  obtain ⟨tg, hg⟩ := strsAre_at hvg (i := r3.toNat) (y := S sg[r3.toNat]) (by rw [List.getElem?_map, List.getElem?_eq_getElem hlt]; rfl)
  have hsga : 1 ≤ sg[r3.toNat].length ∧ sg[r3.toNat].length ≤ 6 := by
    have : ∀ a ∈ sg, 1 ≤ a.length ∧ a.length ≤ 6 := by decide
    exact this _ (List.getElem_mem hlt)
  generalize sg[r3.toNat] = sa at hg hsga
  refine atL (vs := vg) ⟨_, N3.get (.head _), rfl, ng, rfl⟩ h30 (by omega) hg ?_ (by with_unfolding_all rfl)
  simp only [List.cons_append, List.nil_append] at N3
  walk_at "M steps"
  walk_at "M go"
  (with_reducible rename Fr _ _ _ _ => F4); (with_reducible rename News _ _ _ _ => N4); rename _ ∧ _ => lD
  obtain ⟨FD, m4, F5, N5, q1, q2, q3, lFD, lFst⟩ : ∃ FD m4, Fr (But s [(st, liObj #[.ref nA, .int k t] c)]) s.heap.objs.size _ m4 ∧ News (But s [(st, liObj #[.ref nA, .int k t] c)]) s.heap.objs.size _ ([(FD, PySem.W.listOf #[] 0), (D, PySem.W.listOf vg.toArray ng)] ++ (st, liObj #[.ref nA, .int ((k + 1 : Nat) : Int) t3] c3) :: []) ∧
      m4 "state" = some (.ref st) ∧ m4 "signs" = some (.str (S sa) tg) ∧ m4 "found" = some (.ref FD) ∧ D ≠ FD ∧ st ≠ FD := ⟨_, _, F4, N4, rfl, rfl, rfl, Nat.ne_of_lt lD.1, Nat.ne_of_lt lD.2⟩
  clear F4 N4 lD
  refine forJ ?_ ?hs ?ht ?hE
  (case hs => intro _; rfl)
  (case ht => intro _ _; rfl)
  (case hE => passes_own)
  walk_at "M steps"
  walk_at "M go"
  refine ⟨by k_in, ?_⟩
  refine next_in (own := [(FD, _), (D, _)]) (rest := []) F5 N5 (List.forall_mem_cons.mpr ⟨lFst.symm, List.forall_mem_singleton.mpr hDst⟩) XB TB (by omega) hl1 hints hn hlen (by omega) (by decide) fun h₆ tk₆ c6 t6 r6 u6 F6 N6 h60 h61 hk6 => ?_
  clear F5 N5
  simp only [List.cons_append, List.nil_append] at N6
  walk_at "M steps"
  walk_at "M go"
  (with_reducible rename Fr _ _ _ _ => F7); (with_reducible rename News _ _ _ _ => N7); rename IsRange _ _ _ _ _ _ _ _ => hR
  obtain ⟨cn, hcn⟩ : ∃ cn : Nat, 1 + r6 = (cn : Int) := ⟨(1 + r6).toNat, by omega⟩
  rw [hcn] at hR
  have hcn4 : 1 ≤ cn ∧ cn ≤ 4 := by omega
  refine iterR F7 N7 hR (by omega) fun I h₈ F8 N8 lI hk8 => ?_
  k_lt lI
  clear F7 N7
  refine ⟨I, cn, fun i s' => ∃ h tk m ws cw k' t' c' xs, s' = { s with heap := h, toks := tk } ∧ Fr (But s [(st, liObj #[.ref nA, .int k t] c)]) s.heap.objs.size h m ∧
    News (But s [(st, liObj #[.ref nA, .int k t] c)]) s.heap.objs.size h [(I, riObj i ((cn : Int) - i)), (FD, PySem.W.listOf (List.toArray ws) cw), (D, PySem.W.listOf vg.toArray ng), (st, liObj #[.ref nA, .int ((k' : Nat) : Int) t'] c')] ∧
    StrsAre ws (xs.map S) ∧ xs.Nodup ∧ xs.length ≤ i ∧ (0 < i → xs ≠ []) ∧ (∀ x ∈ xs, x.length ≤ 4 + 2 * i) ∧ k' ≤ k + 2 + 10 * i ∧
    m "state" = some (.ref st) ∧ m "signs" = some (.str (S sa) tg) ∧ m "found" = some (.ref FD), rfl, ⟨h₈, _, m4, [], 0, k + 1 + 1, t6, c6, [], rfl, F8, by simpa using N8, .nil, .nil, Nat.le_refl _, fun h => absurd h (Nat.lt_irrefl _), (fun _ h => nomatch h), by omega, q1, q2, q3⟩, ?_, ?_⟩
  · rintro i s₃ hi ⟨h, tk, m, ws, cw, k', t', c', xs, rfl, F, N, hws, hnd, hxl, hx0, hxb, hk', w1, w2, w3⟩
    refine nextR F N ?_ (by omega) fun h₉ t9 tk9 F9 N9 hk9 => ⟨_, rfl, ?_⟩
    · simp only [List.forall_mem_cons]
      exact ⟨neN (by (try dsimp only); omega), neN (by (try dsimp only); omega), neN (by (try dsimp only); omega), fun _ h => nomatch h⟩
    clear F N
    walk_at "M steps"
    walk_at "M go"
    (with_reducible rename Fr _ _ _ _ => FA); (with_reducible rename News _ _ _ _ => NA)
    obtain ⟨mA, FB, NB, a1, a2, a3, ta, a4⟩ : ∃ mA, Fr (But s [(st, liObj #[.ref nA, .int k t] c)]) s.heap.objs.size _ mA ∧ News (But s [(st, liObj #[.ref nA, .int k t] c)]) s.heap.objs.size _ ([(I, riObj ((i : Int) + 1) ((cn : Int) - i - 1)), (FD, PySem.W.listOf (List.toArray ws) cw), (D, PySem.W.listOf vg.toArray ng)] ++ (st, liObj #[.ref nA, .int ((k' : Nat) : Int) t'] c') :: []) ∧
        mA "state" = some (.ref st) ∧ mA "signs" = some (.str (S sa) tg) ∧ mA "found" = some (.ref FD) ∧ ∃ ta, mA "word" = some (.str (S []) ta) := ⟨_, FA, NA, w1, w2, w3, _, by rw [← lit_0]; rfl⟩
    clear FA NA
    refine forJ ?_ ?hs ?ht ?hE
    (case hs => intro _; rfl)
    (case ht => intro _ _; rfl)
    (case hE => passes_own)
    walk_at "M steps"
    walk_at "M go"
    refine ⟨by k_in, ?_⟩
    refine next_in (own := [(I, _), (FD, _), (D, _)]) (rest := []) FB NB (by
      simp only [List.cons_append, List.nil_append, List.forall_mem_cons]
      exact ⟨neN (by (try dsimp only); omega), lFst.symm, hDst, fun _ h => nomatch h⟩) XB TB (by omega) hl1 hints hn hlen (by omega) (by decide) fun h₆ tk₆ c6 t6 r6 u6 F6 N6 h60 h61 hk6 => ?_
    clear FB NB
    simp only [List.cons_append, List.nil_append] at N6
    walk_at "M steps"
    walk_at "M go"
    (with_reducible rename Fr _ _ _ _ => F7); (with_reducible rename News _ _ _ _ => N7); rename IsRange _ _ _ _ _ _ _ _ => hR
    obtain ⟨cn2, hcn2⟩ : ∃ cn2 : Nat, r6 = (cn2 : Int) := ⟨r6.toNat, by omega⟩
    rw [hcn2] at hR
    have hcn24 : cn2 ≤ 4 := by omega
    refine iterR F7 N7 hR (by omega) fun I2 hB1 FB1 NB1 lI2 hkB => ?_
    k_lt lI2
    clear F7 N7
    refine ⟨I2, cn2, fun j s' => ∃ h tk m k2 t2 c2 wd tw, s' = { s with heap := h, toks := tk } ∧ Fr (But s [(st, liObj #[.ref nA, .int k t] c)]) s.heap.objs.size h m ∧
      News (But s [(st, liObj #[.ref nA, .int k t] c)]) s.heap.objs.size h [(I2, riObj j ((cn2 : Int) - j)), (I, riObj ((i : Int) + 1) ((cn : Int) - i - 1)), (FD, PySem.W.listOf (List.toArray ws) cw), (D, PySem.W.listOf vg.toArray ng), (st, liObj #[.ref nA, .int ((k2 : Nat) : Int) t2] c2)] ∧
      wd.length ≤ j ∧ k2 ≤ k' + 1 + j ∧ m "state" = some (.ref st) ∧ m "signs" = some (.str (S sa) tg) ∧ m "found" = some (.ref FD) ∧ m "word" = some (.str (S wd) tw), rfl, ⟨hB1, _, mA, k' + 1, _, _, [], ta, rfl, FB1, by simpa using NB1, Nat.le_refl _, Nat.le_refl _, a1, a2, a3, a4⟩, ?_, ?_⟩
    · rintro j s₄ hj ⟨h2, tk2, m2, k2, t2, c2, wd, tw, rfl, F, N, hwd, hk2, b1, b2, b3, b4⟩
      refine nextR F N ?_ (by omega) fun h₉ t9 tk9 F9 N9 hk9 => ⟨_, rfl, ?_⟩
      · simp only [List.forall_mem_cons]
        exact ⟨neN (by (try dsimp only); omega), neN (by (try dsimp only); omega), neN (by (try dsimp only); omega), neN (by (try dsimp only); omega), fun _ h => nomatch h⟩
      clear F N
      walk_at "M steps"
      walk_at "M go"
      (with_reducible rename Fr _ _ _ _ => FC); (with_reducible rename News _ _ _ _ => NC)
      refine ⟨by k_in, ?_⟩
      refine next_in (own := [(I2, _), (I, _), (FD, _), (D, _)]) (rest := []) FC NC (by
        simp only [List.cons_append, List.nil_append, List.forall_mem_cons]
        exact ⟨neN (by (try dsimp only); omega), neN (by (try dsimp only); omega), lFst.symm, hDst, fun _ h => nomatch h⟩) XB TB (by omega) hl1 hints hn hlen (by omega) (by omega) fun h₆ tk₆ c6 t6 r6 u6 F6 N6 h60 h61 hk6 => ?_
      clear FC NC
      simp only [List.cons_append, List.nil_append] at N6
      have hwl : (S wd).length ≤ 4 := by rw [S_len]; omega
      walk_at "M steps"
      (with_reducible rename Fr _ _ _ _ => F8); (with_reducible rename News _ _ _ _ => N8)
      walk_at "M go"
      dsimp only
      rw [show (j : Int) + 1 = ((j + 1 : Nat) : Int) by omega, show (cn2 : Int) - j - 1 = (cn2 : Int) - ((j + 1 : Nat) : Int) by omega] at N8
      exact ⟨_, _, _, k2 + 1, _, _, wd ++ [sa.getD r6.toNat 0], _, rfl, F8, N8, by simp; omega, by omega, b1, b2, b3, congrArg (fun z => some (Value.str z _)) (S_app _ _)⟩
    · rintro s₄ ⟨h2, tk2, m2, k2, t2, c2, wd, tw, rfl, F, N, hwd, hk2, b1, b2, b3, b4⟩
      refine nextR_end rfl F N ?_ (by omega) fun h₉ F9 N9 hk9 => ⟨rfl, ?_⟩
      · simp only [List.forall_mem_cons]
        exact ⟨neN (by (try dsimp only); omega), neN (by (try dsimp only); omega), neN (by (try dsimp only); omega), neN (by (try dsimp only); omega), fun _ h => nomatch h⟩
      clear F N
      dsimp only
      walk_at "M steps"
      walk_at "M go"
      refine ⟨by k_in, ?_⟩
      refine next_in (own := [(I, _), (FD, _), (D, _)]) (rest := []) F9 N9 (by
        simp only [List.cons_append, List.nil_append, List.forall_mem_cons]
        exact ⟨neN (by (try dsimp only); omega), lFst.symm, hDst, fun _ h => nomatch h⟩) XB TB (by omega) hl1 hints hn hlen (by omega) (by decide) fun h₆ tk₆ c6 t6 r6 u6 F6 N6 h60 h61 hk6 => ?_
      clear F9 N9
      simp only [List.cons_append, List.nil_append] at N6
      walk_at "M steps"
      walk_at "M go"
      (with_reducible rename Fr _ _ _ _ => FD1); (with_reducible rename News _ _ _ _ => ND1)
      obtain ⟨m4, FE, NE, e1, e2, e3, e4, e5⟩ : ∃ m4, Fr (But s [(st, liObj #[.ref nA, .int k t] c)]) s.heap.objs.size _ m4 ∧ News (But s [(st, liObj #[.ref nA, .int k t] c)]) s.heap.objs.size _ [(I, riObj ((i : Int) + 1) ((cn : Int) - i - 1)), (FD, PySem.W.listOf (List.toArray ws) cw), (D, PySem.W.listOf vg.toArray ng), (st, liObj #[.ref nA, .int ((k2 + 1 : Nat) : Int) t6] c6)] ∧
        m4 "state" = some (.ref st) ∧ m4 "found" = some (.ref FD) ∧ m4 "word" = some (.str (S wd) tw) ∧ m4 "way" = some (.int r6 u6) ∧ m4 "signs" = some (.str (S sa) tg) := ⟨_, FD1, ND1, b1, b3, b4, rfl, b2⟩
      clear FD1 ND1
      have hwl : ws.length = xs.length := by rw [strsLen hws, List.length_map]
      have hws4 : ws.length ≤ 4 := by omega
      refine wpAny_mono (Q := fun f s' => f = .next ∧ ∃ h tk m k3 t3 c3 wd tw, s' = { s with heap := h, toks := tk } ∧ Fr (But s [(st, liObj #[.ref nA, .int k t] c)]) s.heap.objs.size h m ∧
        News (But s [(st, liObj #[.ref nA, .int k t] c)]) s.heap.objs.size h [(I, riObj ((i : Int) + 1) ((cn : Int) - i - 1)), (FD, PySem.W.listOf (List.toArray ws) cw), (D, PySem.W.listOf vg.toArray ng), (st, liObj #[.ref nA, .int ((k3 : Nat) : Int) t3] c3)] ∧
        wd.length ≤ 6 + 2 * i ∧ k3 ≤ k' + 8 + 1 ∧ m "state" = some (.ref st) ∧ m "found" = some (.ref FD) ∧ m "word" = some (.str (S wd) tw) ∧ m "way" = some (.int r6 u6) ∧ m "signs" = some (.str (S sa) tg)) ?_ (fun f s' hf => ?_) (fun _ _ z => z)
      · have ns : NoStop := ⟨⟩
        walk1
        clear ns
        walk_at "M steps"
        walk_at "M go"
        (with_reducible rename Fr _ _ _ _ => FC); (with_reducible rename News _ _ _ _ => NC)
        refine neEmpty (vs := ws) (xs := xs.map S) (isL_news NC (.tail _ (.tail _ (.head _)))) (isL_news NC (.head _)) hws (show un + 3 < cLine by omega) ?_
        have htk : (List.take (Int.toNat 2) wd).length ≤ 2 := by
          rw [List.length_take]
          exact Nat.min_le_left _ _
        by_cases hx : xs = []
        · rw [show (!decide (xs.map S = [])) = false by simp [hx]]
          walk_at "M steps"
          walk_at "M go"
          (with_reducible rename Fr _ _ _ _ => FF); (with_reducible rename News _ _ _ _ => NF)
          dsimp only
          exact ⟨rfl, _, _, _, k2 + 1, _, _, wd, _, rfl, FF, fun q hq => NF q (.tail _ hq), by omega, by omega, e1, e2, e3, e4, e5⟩
        · rw [show (!decide (xs.map S = [])) = true by simp [hx]]
          have hws1 : 1 ≤ ws.length := by
            have := List.length_pos_iff.mpr hx
            omega
          walk_at "M steps"
          · walk_at "M go"
            (with_reducible rename Fr _ _ _ _ => FF); (with_reducible rename News _ _ _ _ => NF)
            have NF2 : News (But s [(st, liObj #[.ref nA, .int k t] c)]) s.heap.objs.size _ ([(I, riObj ((i : Int) + 1) ((cn : Int) - i - 1)), (FD, PySem.W.listOf (List.toArray ws) cw), (D, PySem.W.listOf vg.toArray ng)] ++ (st, liObj #[.ref nA, .int ((k2 + 1 : Nat) : Int) t6] c6) :: []) := fun q hq => NF q (.tail _ hq)
            refine ⟨by k_in, ?_⟩
            refine next_in (own := [(I, _), (FD, _), (D, _)]) (rest := []) FF NF2 (by
              simp only [List.cons_append, List.nil_append, List.forall_mem_cons]
              exact ⟨neN (by (try dsimp only); omega), lFst.symm, hDst, fun _ h => nomatch h⟩) XB TB (by omega) hl1 hints hn hlen (by omega) (by omega) fun h₇ tk₇ c7 t7 r7 u7 F7 N7 h70 h71 hk7 => ?_
            clear FF NF NF2
            simp only [List.cons_append, List.nil_append] at N7
            have hr7 : r7.toNat < xs.length := by omega
            obtain ⟨tx7, hx7⟩ := strsAre_at hws (i := r7.toNat) (y := S xs[r7.toNat]) (by rw [List.getElem?_map, List.getElem?_eq_getElem hr7]; rfl)
            have hb7 := hxb _ (List.getElem_mem hr7)
            generalize xs[r7.toNat] = x7 at hx7 hb7
            refine atL (vs := ws) ⟨_, N7.get (.tail _ (.head _)), rfl, cw, rfl⟩ h70 (by omega) hx7 ?_ (by with_unfolding_all rfl)
            walk_at "M steps"
            walk_at "M go"
            (with_reducible rename Fr _ _ _ _ => FG); (with_reducible rename News _ _ _ _ => NG)
            dsimp only
            exact ⟨rfl, _, _, _, k2 + 1 + 1, _, _, x7 ++ wd.take (Int.toNat 2), _, rfl, FG, NG, by rw [List.length_append]; omega, by omega, e1, e2, congrArg (fun z => some (Value.str z _)) (S_app _ _), e4, e5⟩
          · walk_at "M go"
            (with_reducible rename Fr _ _ _ _ => FF); (with_reducible rename News _ _ _ _ => NF)
            dsimp only
            exact ⟨rfl, _, _, _, k2 + 1, _, _, wd, _, rfl, FF, fun q hq => NF q (.tail _ hq), by omega, by omega, e1, e2, e3, e4, e5⟩
      obtain ⟨rfl, hA1, tkA, mA1, kA, tA, cA, wd, twA, rfl, FE, NE, hwdA, hkA, e1, e2, e3, e4, e5⟩ := hf
      dsimp only
      walk1
      refine wpAny_mono (Q := fun f s' => f = .next ∧ ∃ h tk m k3 t3 c3 wd tw, s' = { s with heap := h, toks := tk } ∧ Fr (But s [(st, liObj #[.ref nA, .int k t] c)]) s.heap.objs.size h m ∧
        News (But s [(st, liObj #[.ref nA, .int k t] c)]) s.heap.objs.size h [(I, riObj ((i : Int) + 1) ((cn : Int) - i - 1)), (FD, PySem.W.listOf (List.toArray ws) cw), (D, PySem.W.listOf vg.toArray ng), (st, liObj #[.ref nA, .int ((k3 : Nat) : Int) t3] c3)] ∧
        wd.length ≤ 6 + 2 * i ∧ k3 ≤ k' + 8 + 2 ∧ m "state" = some (.ref st) ∧ m "found" = some (.ref FD) ∧ m "word" = some (.str (S wd) tw) ∧ m "way" = some (.int r6 u6) ∧ m "signs" = some (.str (S sa) tg)) ?_ (fun f s' hf => ?_) (fun _ _ z => z)
      · have ns : NoStop := ⟨⟩
        walk1
        clear ns
        walk_at "M steps"
        walk_at "M go"
        (with_reducible rename Fr _ _ _ _ => FC); (with_reducible rename News _ _ _ _ => NC)
        refine neEmpty (vs := ws) (xs := xs.map S) (isL_news NC (.tail _ (.tail _ (.head _)))) (isL_news NC (.head _)) hws (show un + 3 < cLine by omega) ?_
        have htk : (List.take (Int.toNat 2) wd).length ≤ 2 := by
          rw [List.length_take]
          exact Nat.min_le_left _ _
        by_cases hx : xs = []
        · rw [show (!decide (xs.map S = [])) = false by simp [hx]]
          walk_at "M steps"
          walk_at "M go"
          (with_reducible rename Fr _ _ _ _ => FF); (with_reducible rename News _ _ _ _ => NF)
          dsimp only
          exact ⟨rfl, _, _, _, kA, _, _, wd, _, rfl, FF, fun q hq => NF q (.tail _ hq), by omega, by omega, e1, e2, e3, e4, e5⟩
        · rw [show (!decide (xs.map S = [])) = true by simp [hx]]
          have hws1 : 1 ≤ ws.length := by
            have := List.length_pos_iff.mpr hx
            omega
          walk_at "M steps"
          · walk_at "M go"
            (with_reducible rename Fr _ _ _ _ => FF); (with_reducible rename News _ _ _ _ => NF)
            have NF2 : News (But s [(st, liObj #[.ref nA, .int k t] c)]) s.heap.objs.size _ ([(I, riObj ((i : Int) + 1) ((cn : Int) - i - 1)), (FD, PySem.W.listOf (List.toArray ws) cw), (D, PySem.W.listOf vg.toArray ng)] ++ (st, liObj #[.ref nA, .int ((kA : Nat) : Int) tA] cA) :: []) := fun q hq => NF q (.tail _ hq)
            refine ⟨by k_in, ?_⟩
            refine next_in (own := [(I, _), (FD, _), (D, _)]) (rest := []) FF NF2 (by
              simp only [List.cons_append, List.nil_append, List.forall_mem_cons]
              exact ⟨neN (by (try dsimp only); omega), lFst.symm, hDst, fun _ h => nomatch h⟩) XB TB (by omega) hl1 hints hn hlen (by omega) (by omega) fun h₇ tk₇ c7 t7 r7 u7 F7 N7 h70 h71 hk7 => ?_
            clear FF NF NF2
            simp only [List.cons_append, List.nil_append] at N7
            have hr7 : r7.toNat < xs.length := by omega
            obtain ⟨tx7, hx7⟩ := strsAre_at hws (i := r7.toNat) (y := S xs[r7.toNat]) (by rw [List.getElem?_map, List.getElem?_eq_getElem hr7]; rfl)
            have hb7 := hxb _ (List.getElem_mem hr7)
            generalize xs[r7.toNat] = x7 at hx7 hb7
            refine atL (vs := ws) ⟨_, N7.get (.tail _ (.head _)), rfl, cw, rfl⟩ h70 (by omega) hx7 ?_ (by with_unfolding_all rfl)
            walk_at "M steps"
            walk_at "M go"
            (with_reducible rename Fr _ _ _ _ => FG); (with_reducible rename News _ _ _ _ => NG)
            dsimp only
            exact ⟨rfl, _, _, _, kA + 1, _, _, wd.take (Int.toNat 2) ++ x7, _, rfl, FG, NG, by rw [List.length_append]; omega, by omega, e1, e2, congrArg (fun z => some (Value.str z _)) (S_app _ _), e4, e5⟩
          · walk_at "M go"
            (with_reducible rename Fr _ _ _ _ => FF); (with_reducible rename News _ _ _ _ => NF)
            dsimp only
            exact ⟨rfl, _, _, _, kA, _, _, wd, _, rfl, FF, fun q hq => NF q (.tail _ hq), by omega, by omega, e1, e2, e3, e4, e5⟩
      obtain ⟨rfl, hA2, tkB, mA2, kB, tB, cB, wd, twB, rfl, FE, NE, hwdB, hkB, e1, e2, e3, e4, e5⟩ := hf
      dsimp only
      have ns : NoStop := ⟨⟩
      walk1
      walk1
      clear ns
      walk_at "M steps"
      walk_at "M go"
      have ea : ((xs.map S).any (· == S wd)) = decide (wd ∈ xs) := by
        rw [Bool.eq_iff_iff]
        simp only [List.any_map, List.any_eq_true, Function.comp, beq_iff_eq, S_eq, decide_eq_true_eq]
        exact ⟨fun ⟨y, hy, e⟩ => e ▸ hy, fun h => ⟨wd, h, rfl⟩⟩
      refine notin_list_strs (isL_news NE (.tail _ (.head _))) hws ?_
      rw [ea]
      by_cases hin : wd ∈ xs
      · rw [show (!decide (wd ∈ xs)) = false by simp [hin]]
        walk_at "M steps"
        walk_at "M go"
        (with_reducible rename Fr _ _ _ _ => FF); (with_reducible rename News _ _ _ _ => NF)
        dsimp only
        rw [show (i : Int) + 1 = ((i + 1 : Nat) : Int) by omega, show (cn : Int) - i - 1 = (cn : Int) - ((i + 1 : Nat) : Int) by omega] at NF
        exact ⟨_, _, _, ws, cw, kB, _, _, xs, rfl, FF, NF, hws, hnd, by omega, fun _ => List.ne_nil_of_mem hin, fun x hx => by have := hxb x hx; omega, by omega, e1, e5, e2⟩
      · rw [show (!decide (wd ∈ xs)) = true by simp [hin]]
        walk_at "M steps"
        walk_at "M go"
        (with_reducible rename Fr _ _ _ _ => FF); (with_reducible rename News _ _ _ _ => NF)
        dsimp only
        rw [show (i : Int) + 1 = ((i + 1 : Nat) : Int) by omega, show (cn : Int) - i - 1 = (cn : Int) - ((i + 1 : Nat) : Int) by omega] at NF
        refine ⟨_, _, _, ws ++ [.str (S wd) twB], _, kB, _, _, xs ++ [wd], rfl, FF, (by
          have e9 : (ws ++ [Value.str (S wd) twB]).toArray = ws.toArray.push (.str (S wd) twB) := by simp
          rw [e9]; exact NF), ?_, ?_, by simp; omega, fun _ => by simp, fun x hx => ?_, by omega, e1, e5, e2⟩
        · rw [List.map_append]
          exact strsAre_push hws _ _
        · exact List.nodup_append.mpr ⟨hnd, by simp, fun a ha b hb e => hin (by rw [← List.mem_singleton.mp hb, ← e]; exact ha)⟩
        · rcases List.mem_append.mp hx with hx | hx
          · have := hxb x hx; omega
          · rw [List.mem_singleton.mp hx]; omega
  · rintro s₃ ⟨h, tk, m, ws, cw, k', t', c', xs, rfl, F, N, hws, hnd, hxl, hx0, hxb, hk', w1, w2, w3⟩
    refine nextR_end rfl F N ?_ (by omega) fun h₉ F9 N9 hk9 => ⟨rfl, ?_⟩
    · simp only [List.forall_mem_cons]
      exact ⟨neN (by (try dsimp only); omega), neN (by (try dsimp only); omega), neN (by (try dsimp only); omega), fun _ h => nomatch h⟩
    clear F N
    dsimp only
    walk_at "M steps"
    (with_reducible rename Fr _ _ _ _ => FF); (with_reducible rename News _ _ _ _ => NF)
    refine ret _ _ c' t' k' FD ws cw xs (fun b o hb e => FF.keep _ _ (but_of e (by simpa using hb))) (NF.get (.tail _ (.tail _ (.head _)))) (by omega) ?_ (NF.get (.head _)) hws (hx0 (by omega)) hnd (by omega) (fun x hx => by have := hxb x hx; omega)
    exact but_none (NF _ (.head _)).2.2 (List.forall_mem_singleton.mpr lFst)
end
end Mine
theorem Mine.off48 : True := by w_top off; trivial
-- P24_mean
namespace Mine
abbrev TL := List (List Nat)
/-- each of the one with each of the other behind -/
def prod (T U : TL) : TL := T.flatMap fun a => U.map fun b => a ++ b
theorem prod_nil_cons (T U : TL) (a : List Nat) : prod (a :: T) U = (U.map fun b => a ++ b) ++ prod T U := rfl
theorem prod_one_left (U : TL) : prod [[]] U = U := by simp [prod]
theorem prod_one_right (T : TL) : prod T [[]] = T := by
  induction T with
  | nil => rfl
  | cons a T ih => rw [prod_nil_cons, ih]; simp
theorem prod_app (A B U : TL) : prod (A ++ B) U = prod A U ++ prod B U := by simp [prod]
theorem prod_map (a : List Nat) (U V : TL) : prod (U.map fun b => a ++ b) V = (prod U V).map fun b => a ++ b := by
  induction U with
  | nil => rfl
  | cons b U ih => rw [List.map_cons, prod_nil_cons, prod_nil_cons, ih, List.map_append]; simp
theorem prod_assoc (T U V : TL) : prod (prod T U) V = prod T (prod U V) := by
  induction T with
  | nil => rfl
  | cons a T ih => rw [prod_nil_cons, prod_app, ih, prod_map]; rfl
theorem mem_prod {T U : TL} {x : List Nat} : x ∈ prod T U ↔ ∃ a ∈ T, ∃ b ∈ U, x = a ++ b := by
  simp only [prod, List.mem_flatMap, List.mem_map]
  exact ⟨fun ⟨a, ha, b, hb, e⟩ => ⟨a, ha, b, hb, e.symm⟩, fun ⟨a, ha, b, hb, e⟩ => ⟨a, ha, b, hb, e.symm⟩⟩
theorem prod_ne {T U : TL} (hT : T ≠ []) (hU : U ≠ []) : prod T U ≠ [] := by
  obtain ⟨a, ha⟩ := List.exists_mem_of_ne_nil T hT
  obtain ⟨b, hb⟩ := List.exists_mem_of_ne_nil U hU
  exact List.ne_nil_of_mem (mem_prod.mpr ⟨a, ha, b, hb, rfl⟩)
theorem prod_length (T U : TL) : (prod T U).length = T.length * U.length := by
  induction T with
  | nil => simp [prod]
  | cons a T ih => rw [prod_nil_cons, List.length_append, ih, List.length_map, List.length_cons, Nat.add_mul, Nat.one_mul]; omega
def prods (Ts : List TL) : TL := Ts.foldl prod [[]]
theorem prods_foldl (Ts : List TL) : ∀ T, Ts.foldl prod T = prod T (prods Ts) := by
  induction Ts with
  | nil => intro T; exact (prod_one_right T).symm
  | cons U Ts ih =>
    intro T
    have e : prods (U :: Ts) = prod U (prods Ts) := by
      show Ts.foldl prod (prod [[]] U) = _
      rw [ih, prod_one_left]
    rw [List.foldl_cons, ih, e, prod_assoc]
theorem prods_cons (T : TL) (Ts : List TL) : prods (T :: Ts) = prod T (prods Ts) := by
  rw [prods, List.foldl_cons, prods_foldl, prod_one_left]
theorem prods_nil : prods [] = [[]] := rfl
theorem prods_append (A B : List TL) : prods (A ++ B) = prod (prods A) (prods B) := by
  rw [prods, List.foldl_append, prods_foldl]; rfl
theorem prods_one (T : TL) : prods [T] = T := by rw [prods_cons, prods_nil, prod_one_right]
theorem prods_ne {Ts : List TL} (h : ∀ T ∈ Ts, T ≠ []) : prods Ts ≠ [] := by
  induction Ts with
  | nil => simp [prods_nil]
  | cons T Ts ih => rw [prods_cons]; exact prod_ne (h T (.head _)) (ih fun U hU => h U (.tail _ hU))
/-- what rows mean -/
def meanT (Tss : List (List TL)) : TL := (Tss.map prods).flatten
theorem meanT_app (A B : List (List TL)) : meanT (A ++ B) = meanT A ++ meanT B := by simp [meanT]
theorem meanT_cons (A : List TL) (B : List (List TL)) : meanT (A :: B) = prods A ++ meanT B := rfl
/-- bounds -/
def Bd (k l : Nat) (T : TL) : Prop := T.length ≤ k ∧ ∀ x ∈ T, x.length ≤ l
theorem Bd.left {k l : Nat} {T U : TL} (h : Bd k l (prod T U)) (hU : U ≠ []) : Bd k l T := by
  obtain ⟨b, hb⟩ := List.exists_mem_of_ne_nil U hU
  have hU1 : 0 < U.length := List.length_pos_of_mem hb
  have := h.1
  rw [prod_length] at this
  refine ⟨Nat.le_trans (Nat.le_mul_of_pos_right _ hU1) this, fun x hx => ?_⟩
  have := h.2 (x ++ b) (mem_prod.mpr ⟨x, hx, b, hb, rfl⟩)
  rw [List.length_append] at this
  omega
theorem Bd.right {k l : Nat} {T U : TL} (h : Bd k l (prod T U)) (hT : T ≠ []) : Bd k l U := by
  obtain ⟨a, ha⟩ := List.exists_mem_of_ne_nil T hT
  have hT1 : 0 < T.length := List.length_pos_of_mem ha
  have := h.1
  rw [prod_length] at this
  refine ⟨Nat.le_trans (Nat.le_mul_of_pos_left _ hT1) this, fun x hx => ?_⟩
  have := h.2 (a ++ x) (mem_prod.mpr ⟨a, ha, x, hx, rfl⟩)
  rw [List.length_append] at this
  omega
theorem Bd.appL {k l : Nat} {T U : TL} (h : Bd k l (T ++ U)) : Bd k l T := ⟨by have := h.1; rw [List.length_append] at this; omega, fun x hx => h.2 x (List.mem_append_left _ hx)⟩
theorem Bd.appR {k l : Nat} {T U : TL} (h : Bd k l (T ++ U)) : Bd k l U := ⟨by have := h.1; rw [List.length_append] at this; omega, fun x hx => h.2 x (List.mem_append_right _ hx)⟩
end Mine
namespace Mine
/-- an item: its signs and what it means -/
abbrev It := List Nat × TL
def rowT (r : List It) : List Nat := (r.map (·.1)).flatten
def rowM (r : List It) : List TL := r.map (·.2)
def rowsT : List (List It) → List Nat
  | [] => []
  | [r] => rowT r
  | r :: q :: rs => rowT r ++ 124 :: rowsT (q :: rs)
def rowsM (rs : List (List It)) : List (List TL) := rs.map rowM
theorem rowT_cons (i : It) (r : List It) : rowT (i :: r) = i.1 ++ rowT r := rfl
theorem rowT_app (a b : List It) : rowT (a ++ b) = rowT a ++ rowT b := by simp [rowT]
theorem rowsT_two (r q : List It) (rs : List (List It)) : rowsT (r :: q :: rs) = rowT r ++ 124 :: rowsT (q :: rs) := rfl
theorem rowsT_app : ∀ (as bs : List (List It)), as ≠ [] → bs ≠ [] → rowsT (as ++ bs) = rowsT as ++ 124 :: rowsT bs
  | [], _, h, _ => absurd rfl h
  | [a], [], _, h => absurd rfl h
  | [a], b :: bs, _, _ => rfl
  | a :: a' :: as, bs, _, h => by
    have ih := rowsT_app (a' :: as) bs (by simp) h
    rw [List.cons_append, List.cons_append, rowsT_two, ← List.cons_append, ih, rowsT_two]
    simp
/-- the signs of an item without a mark -/
inductive Base (R : List Nat → TL → Prop) : List Nat → TL → Prop
  | one (c : Nat) : Base R (escC c) [[c]]
  | grp {x : List Nat} {T : TL} : R x T → Base R (40 :: (x ++ [41])) T
  | ngr {x : List Nat} {T : TL} : R x T → Base R (40 :: 63 :: 58 :: (x ++ [41])) T
  | set (cs : List Nat) : cs ≠ [] → Base R (91 :: (cs.flatMap chC ++ [93])) (cs.map fun c => [c])
def Item (R : List Nat → TL → Prop) (i : It) : Prop := Base R i.1 i.2 ∨ ∃ y T, i.1 = y ++ [63] ∧ i.2 = T ++ [[]] ∧ Base R y T
/-- x is a pattern that the reader reads, and means T -/
def Rg : Nat → List Nat → TL → Prop
  | 0, _, _ => False
  | n + 1, x, T => ∃ rs : List (List It), rs ≠ [] ∧ (∀ r ∈ rs, ∀ i ∈ r, Item (Rg n) i) ∧ x = rowsT rs ∧ T = meanT (rowsM rs)
theorem Base.mono {R R' : List Nat → TL → Prop} (k : ∀ x T, R x T → R' x T) {x : List Nat} {T : TL} (h : Base R x T) : Base R' x T := by
  cases h with
  | one c => exact .one c
  | grp h => exact .grp (k _ _ h)
  | ngr h => exact .ngr (k _ _ h)
  | set cs h => exact .set cs h
theorem Item.mono {R R' : List Nat → TL → Prop} (k : ∀ x T, R x T → R' x T) {i : It} (h : Item R i) : Item R' i := by
  rcases h with h | ⟨y, T, e1, e2, h⟩
  · exact .inl (h.mono k)
  · exact .inr ⟨y, T, e1, e2, h.mono k⟩
theorem Rg.up : ∀ (n : Nat) (x : List Nat) (T : TL), Rg n x T → Rg (n + 1) x T
  | 0, _, _, h => h.elim
  | n + 1, _, _, ⟨rs, h1, h2, h3, h4⟩ => ⟨rs, h1, fun r hr i hi => (h2 r hr i hi).mono (Rg.up n), h3, h4⟩
theorem Rg.ne : ∀ (n : Nat) (x : List Nat) (T : TL), Rg n x T → T ≠ []
  | 0, _, _, h => h.elim
  | n + 1, _, _, ⟨rs, h1, h2, _, h4⟩ => by
    have hb : ∀ x T, Base (Rg n) x T → T ≠ [] := fun x T h => by
      cases h with
      | one c => simp
      | grp h => exact Rg.ne n _ _ h
      | ngr h => exact Rg.ne n _ _ h
      | set cs h => simpa using h
    obtain ⟨r, hr⟩ := List.exists_mem_of_ne_nil rs h1
    have hp : prods (rowM r) ≠ [] := prods_ne fun T hT => by
      obtain ⟨i, hi, rfl⟩ := List.mem_map.mp hT
      rcases h2 r hr i hi with h | ⟨y, U, _, e2, _⟩
      · exact hb _ _ h
      · rw [e2]; simp
    obtain ⟨a, ha⟩ := List.exists_mem_of_ne_nil _ hp
    rw [h4]
    exact List.ne_nil_of_mem (List.mem_flatten.mpr ⟨_, List.mem_map_of_mem (List.mem_map_of_mem hr), ha⟩)
theorem Base.ne {n : Nat} {x : List Nat} {T : TL} (h : Base (Rg n) x T) : T ≠ [] := by
  cases h with
  | one c => simp
  | grp h => exact Rg.ne n _ _ h
  | ngr h => exact Rg.ne n _ _ h
  | set cs h => simpa using h
theorem Item.ne {n : Nat} {i : It} (h : Item (Rg n) i) : i.2 ≠ [] := by
  rcases h with h | ⟨y, U, _, e2, _⟩
  · exact h.ne
  · rw [e2]; simp
theorem rg_row {n : Nat} {r : List It} (h : ∀ i ∈ r, Item (Rg n) i) : Rg (n + 1) (rowT r) (prods (rowM r)) :=
  ⟨[r], by simp, List.forall_mem_singleton.mpr h, rfl, by simp [rowsM, meanT]⟩
theorem rg_bar {n : Nat} {x y : List Nat} {T U : TL} (h : Rg n x T) (k : Rg n y U) : Rg n (x ++ 124 :: y) (T ++ U) := by
  cases n with
  | zero => exact h.elim
  | succ n =>
    obtain ⟨rs, h1, h2, rfl, rfl⟩ := h
    obtain ⟨qs, k1, k2, rfl, rfl⟩ := k
    refine ⟨rs ++ qs, by simp [h1], fun r hr => ?_, (rowsT_app rs qs h1 k1).symm, by simp only [rowsM, List.map_append, meanT_app]⟩
    rcases List.mem_append.mp hr with hr | hr
    · exact h2 r hr
    · exact k2 r hr
/-- a plain word as a row -/
def wordR (x : List Nat) : List It := x.map fun c => (escC c, [[c]])
theorem wordR_t (x : List Nat) : rowT (wordR x) = escL x := by
  simp only [rowT, wordR, escL, List.map_map, List.flatMap_def]; rfl
theorem wordR_m (x : List Nat) : prods (rowM (wordR x)) = [x] := by
  induction x with
  | nil => rfl
  | cons c x ih =>
    show prods ([[c]] :: rowM (wordR x)) = _
    rw [prods_cons, ih]; rfl
theorem wordR_i {R : List Nat → TL → Prop} (x : List Nat) : ∀ i ∈ wordR x, Item R i := fun i hi => by
  obtain ⟨c, _, rfl⟩ := List.mem_map.mp hi
  exact .inl (.one c)
theorem rg_word {n : Nat} (x : List Nat) : Rg (n + 1) (escL x) [x] := by
  have := rg_row (n := n) (wordR_i x)
  rwa [wordR_t, wordR_m] at this
theorem prod_left_one (p : List Nat) (T : TL) : prod [p] T = T.map fun b => p ++ b := by simp [prod]
theorem prod_right_one (q : List Nat) (T : TL) : prod T [q] = T.map fun b => b ++ q := by
  induction T with
  | nil => rfl
  | cons a T ih => rw [prod_nil_cons, ih]; rfl
theorem rowM_app (a b : List It) : rowM (a ++ b) = rowM a ++ rowM b := by simp [rowM]
end Mine
namespace Mine
/-- what the pattern of a list means: its texts, each once -/
theorem roi_means : ∀ (n : Nat) (xs : List (List Nat)), xs ≠ [] → msr xs < n → ∃ x T, Rg n x T ∧ T.Perm xs ∧ ∀ p, roi n xs p = p ++ x ++ cls p
  | 0, _, _, h => absurd h (Nat.not_lt_zero _)
  | n + 1, [], h, _ => absurd rfl h
  | n + 1, [x], _, _ => ⟨escL x, [x], rg_word x, .refl _, fun p => rfl⟩
  | n + 1, x :: y :: r, _, hn => by
    have hmx := msr_cons x (y :: r)
    by_cases hx : x = []
    · obtain ⟨z, T, h1, h2, h3⟩ := roi_means n (y :: r) (by simp) (by omega)
      subst hx
      refine ⟨40 :: 63 :: 58 :: (z ++ [41]) ++ [63], T ++ [[]], ?_, ?_, fun p => ?_⟩
      · have := rg_row (n := n) (r := [(40 :: 63 :: 58 :: (z ++ [41]) ++ [63], T ++ [[]])]) (List.forall_mem_singleton.mpr (.inr ⟨_, _, rfl, rfl, .ngr h1⟩))
        rw [show rowM [(40 :: 63 :: 58 :: (z ++ [41]) ++ [63], T ++ [[]])] = [T ++ [[]]] from rfl, prods_one] at this
        simpa [rowT] using this
      · exact (List.perm_append_comm (l₁ := T) (l₂ := [[]])).trans (h2.cons [])
      · have : roi (n + 1) ([] :: y :: r) p = p ++ roi n (y :: r) opn ++ [63] ++ cls p := by simp [roi]
        rw [this, h3]
        simp [opn, cls]
    · by_cases hl : x.length = 1 ∧ 1 < ((x :: y :: r).filter fun s => s.length = 1).length
      · have hs := msr_split (fun s => decide (s.length = 1)) (x :: y :: r)
        have hone := ones_msr ((x :: y :: r).filter fun s => decide (s.length = 1)) (fun a ha => by simpa using (List.mem_filter.mp ha).2)
        have hk := hl.2
        have hne := filter_ne (x :: y :: r) (fun s => s.length = 1)
        have hsplit := List.filter_append_perm (fun s : List Nat => decide (s.length = 1)) (x :: y :: r)
        rw [← hne] at hsplit hs
        have hmem : ∀ a ∈ (x :: y :: r).filter (fun s => decide (s.length = 1)), a.length = 1 := fun a ha => by simpa using (List.mem_filter.mp ha).2
        generalize hone_e : (x :: y :: r).filter (fun s => decide (s.length = 1)) = os at *
        generalize hrest_e : (x :: y :: r).filter (fun s => decide (s.length ≠ 1)) = rest at *
        have hos : os ≠ [] := fun e => by rw [e] at hk; simp at hk
        have hflat : os.flatten ≠ [] := fun e => by
          have := hone.2
          rw [e] at this
          simp only [List.length_nil] at this
          omega
        have hmap : ∀ os : List (List Nat), (∀ a ∈ os, a.length = 1) → os.flatten.map (fun c => [c]) = os := fun os => by
          induction os with
          | nil => intro _; rfl
          | cons a os ih =>
            intro h
            have ha := h a (.head _)
            match a, ha with
            | [c], _ => rw [List.flatten_cons, List.map_append, ih fun b hb => h b (.tail _ hb)]; rfl
        have hset : Rg (n + 1) (charset os) os := by
          have := rg_row (n := n) (r := [(charset os, os)]) (List.forall_mem_singleton.mpr (.inl (by
            have := Base.set (R := Rg n) os.flatten hflat
            rwa [hmap os hmem] at this)))
          rw [show rowM [(charset os, os)] = [os] from rfl, prods_one] at this
          simpa [rowT] using this
        by_cases hr : rest = []
        · subst hr
          refine ⟨charset os, os, hset, by simpa using hsplit, fun p => ?_⟩
          unfold roi
          rw [if_neg hx, if_pos (by rw [hone_e]; exact hl), if_pos hrest_e, hone_e]
        · obtain ⟨z, T, h1, h2, h3⟩ := roi_means n rest hr (by omega)
          refine ⟨z ++ 124 :: charset os, T ++ os, rg_bar (Rg.up _ _ _ h1) hset, ?_, fun p => ?_⟩
          · exact (List.perm_append_comm.trans (h2.append_left os)).trans hsplit
          · unfold roi
            rw [if_neg hx, if_pos (by rw [hone_e]; exact hl), if_neg (by rw [hrest_e]; exact hr), hone_e, hrest_e, h3]
            simp [cls]
      · by_cases hc : cpAll (x :: y :: r) ≠ []
        · have hpre : ∀ a ∈ x :: y :: r, cpAll (x :: y :: r) <+: a := fun a ha => cpAll_pre ha
          have hcl : 1 ≤ (cpAll (x :: y :: r)).length := List.length_pos_iff.mpr hc
          have hroi : ∀ p, roi (n + 1) (x :: y :: r) p = p ++ escL (cpAll (x :: y :: r)) ++ roi n ((x :: y :: r).map fun s => s.drop (cpAll (x :: y :: r)).length) opn ++ cls p := fun p => by
            conv => lhs; unfold roi
            rw [if_neg hx, if_neg hl, if_pos hc]
          generalize cpAll (x :: y :: r) = c at *
          have hm := msr_map (fun s => s.drop c.length) c.length (x :: y :: r) (fun a ha => by
            have := (hpre a ha).length_le
            simp only [List.length_drop]; omega)
          have hl2 : c.length * 2 ≤ c.length * (x :: y :: r).length := Nat.mul_le_mul_left _ (by simp)
          obtain ⟨z, T, h1, h2, h3⟩ := roi_means n ((x :: y :: r).map fun s => s.drop c.length) (by simp) (by omega)
          refine ⟨escL c ++ 40 :: 63 :: 58 :: (z ++ [41]), T.map fun b => c ++ b, ?_, ?_, fun p => ?_⟩
          · have := rg_row (n := n) (r := wordR c ++ [(40 :: 63 :: 58 :: (z ++ [41]), T)]) (fun i hi => by
              rcases List.mem_append.mp hi with hi | hi
              · exact wordR_i c i hi
              · rw [List.mem_singleton.mp hi]; exact .inl (.ngr h1))
            rw [rowT_app, wordR_t, rowM_app, prods_append, wordR_m, show rowM [(40 :: 63 :: 58 :: (z ++ [41]), T)] = [T] from rfl, prods_one, prod_left_one] at this
            simpa [rowT] using this
          · have := h2.map (fun b => c ++ b)
            rw [List.map_map] at this
            refine this.trans (List.Perm.of_eq ?_)
            refine (List.map_congr_left fun a ha => ?_).trans (List.map_id _)
            obtain ⟨t, rfl⟩ := hpre a ha
            simp
          · rw [hroi, h3]
            simp [opn, cls]
        · by_cases hd : cpAll ((x :: y :: r).map List.reverse) ≠ []
          · have hpre : ∀ a ∈ x :: y :: r, cpAll ((x :: y :: r).map List.reverse) <+: a.reverse := fun a ha => cpAll_pre (List.mem_map_of_mem ha)
            have hcl : 1 ≤ (cpAll ((x :: y :: r).map List.reverse)).length := List.length_pos_iff.mpr hd
            have hroi : ∀ p, roi (n + 1) (x :: y :: r) p = p ++ roi n (srt ((x :: y :: r).map fun s => s.take (s.length - (cpAll ((x :: y :: r).map List.reverse)).length))) opn ++ escL (cpAll ((x :: y :: r).map List.reverse)).reverse ++ cls p := fun p => by
              conv => lhs; unfold roi
              rw [if_neg hx, if_neg hl, if_neg hc, if_pos hd]
            generalize cpAll ((x :: y :: r).map List.reverse) = c at *
            have hm := msr_map (fun s => s.take (s.length - c.length)) c.length (x :: y :: r) (fun a ha => by
              have := (hpre a ha).length_le
              simp only [List.length_take, List.length_reverse] at *; omega)
            have hl2 : c.length * 2 ≤ c.length * (x :: y :: r).length := Nat.mul_le_mul_left _ (by simp)
            obtain ⟨z, T, h1, h2, h3⟩ := roi_means n (srt ((x :: y :: r).map fun s => s.take (s.length - c.length))) (srt_ne (by simp)) (by rw [msr_srt]; omega)
            refine ⟨(40 :: 63 :: 58 :: (z ++ [41])) ++ escL c.reverse, T.map fun b => b ++ c.reverse, ?_, ?_, fun p => ?_⟩
            · have := rg_row (n := n) (r := (40 :: 63 :: 58 :: (z ++ [41]), T) :: wordR c.reverse) (fun i hi => by
                rcases List.mem_cons.mp hi with rfl | hi
                · exact .inl (.ngr h1)
                · exact wordR_i _ i hi)
              rw [rowT_cons, wordR_t, show rowM ((40 :: 63 :: 58 :: (z ++ [41]), T) :: wordR c.reverse) = T :: rowM (wordR c.reverse) from rfl, prods_cons, wordR_m, prod_right_one] at this
              exact this
            · have := (h2.trans (srt_perm _)).map (fun b => b ++ c.reverse)
              rw [List.map_map] at this
              refine this.trans (List.Perm.of_eq ?_)
              refine (List.map_congr_left fun a ha => ?_).trans (List.map_id _)
              obtain ⟨t, ht⟩ := hpre a ha
              have ha2 : a = t.reverse ++ c.reverse := by rw [← List.reverse_append, ht, List.reverse_reverse]
              have hla : a.length - c.length = t.reverse.length := by rw [ha2]; simp
              show a.take (a.length - c.length) ++ c.reverse = a
              rw [hla]
              conv => lhs; rw [ha2]
              rw [List.take_left, ← ha2]
            · rw [hroi, h3]
              simp [opn, cls]
          · have hs := msr_split (fun s => decide (s.head? = x.head?)) (x :: y :: r)
            have hne := filter_ne (x :: y :: r) (fun s => s.head? = x.head?)
            have h5 := others_ne (x := x) (l := y :: r) hx (by simpa using hc)
            have h4 : (x :: y :: r).filter (fun s => decide (s.head? = x.head?)) ≠ [] := by simp
            have hroi : ∀ p, roi (n + 1) (x :: y :: r) p = p ++ (roi n ((x :: y :: r).filter fun s => s.head? = x.head?) [] ++ [124] ++ roi n ((x :: y :: r).filter fun s => s.head? ≠ x.head?) []) ++ cls p := fun p => by
              conv => lhs; unfold roi
              rw [if_neg hx, if_neg hl, if_neg hc, if_neg hd]
            have hsplit := List.filter_append_perm (fun s : List Nat => decide (s.head? = x.head?)) (x :: y :: r)
            rw [← hne] at hsplit hs
            have hs' : msr ((x :: y :: r).filter fun s => decide (s.head? = x.head?)) + msr ((x :: y :: r).filter fun s => decide (s.head? ≠ x.head?)) = msr (x :: y :: r) := hs
            have p4 := msr_pos h4
            have p5 := msr_pos h5
            obtain ⟨z, T, h1, h2, h3⟩ := roi_means n _ h4 (by omega)
            obtain ⟨z2, T2, g1, g2, g3⟩ := roi_means n _ h5 (by omega)
            refine ⟨z ++ 124 :: z2, T ++ T2, Rg.up _ _ _ (rg_bar h1 g1), (h2.append g2).trans hsplit, fun p => ?_⟩
            rw [hroi, h3, g3]
            simp [cls]
end Mine
theorem Mine.off49 : True := by w_top off; trivial
-- P25_comp
namespace Mine
section
variable {prog : Program} {w : World} {A : Around} {E : Value → Shared → Prop} {s : Shared}
abbrev NoE : Value → Shared → Prop := fun _ _ => False
/-- what a comprehension's loop has to keep -/
def CompLoop (prog : Program) (w : World) (A : Around) (elt : Expr) (x : Str) (px : Pos) (cenv : Env) (I D : Addr) (done : Shared → Prop) (s : Shared) : Prop :=
  ∃ (n : Nat) (J : Nat → Shared → Prop),
    J 0 s ∧ wpAny (model prog w) A (pyIter (.ref I)) (fun v s' => v = .ref I ∧ s' = s) NoE s ∧
    (∀ i s₃, i < n → J i s₃ → wpAny (model prog w) A (pyNext (.ref I)) (fun r s₄ => ∃ v, r = some v ∧ wpAny (model prog w) A (assign (.Name x px) cenv v) (fun _ s₅ =>
      wpAny (model prog w) A (eval elt cenv) (fun y s₆ => wpAny (model prog w) A (call (.builtin "list.append") [.ref D, y]) (fun _ s₇ => J (i + 1) s₇) NoE s₆) NoE s₅) NoE s₄) NoE s₃) ∧
    (∀ s₃, J n s₃ → wpAny (model prog w) A (pyNext (.ref I)) (fun r s₄ => r = none ∧ done s₄) NoE s₃)
theorem compLoop_run {elt iter : Expr} {x : Str} {px : Pos} {scope : Scope} {pos : Pos} {cenv : Env} {I D : Addr} {done : Shared → Prop} {R : Result → Shared → Prop}
    (h : CompLoop prog w A elt x px cenv I D done s) (hR : ∀ s', done s' → R (.ok .next) s') :
    codeAny (model prog w) A (.compStart (.ListComp elt [⟨.Name x px, iter, [], 0⟩] scope pos) 0 (.ref I) (.ref D) cenv) R s := by
  obtain ⟨n, J, h0, hit, step, dn⟩ := h
  have loop : ∀ i s', i ≤ n → J i s' → codeAny (model prog w) A (.compLoop (.ListComp elt [⟨.Name x px, iter, [], 0⟩] scope pos) 0 (.ref I) (.ref D) cenv) R s' := by
    intro i s' hi hJ
    refine codeAny_compLoop_tests (fun k s' => ∃ i, i ≤ n ∧ k = n + 1 - i ∧ J i s') ?_ (n + 1 - i) ⟨i, hi, rfl, hJ⟩
    rintro k s' ⟨i, hi, rfl, hJ⟩
    by_cases hlt : i < n
    · refine wpAny_mono (step i s' hlt hJ) (fun r s₄ hr => ?_) fun _ _ z => z.elim
      obtain ⟨v, rfl, hv⟩ := hr
      refine wpAny_mono hv (fun _ s₅ h₅ => ?_) fun _ _ z => z.elim
      show wpAny _ _ (forIn [] true _) _ _ _
      refine wpAny_pure ?_
      rw [if_pos rfl]
      refine wpAny_mono h₅ (fun y s₆ h₆ => wpAny_mono h₆ (fun _ s₇ h₇ => ?_) fun _ _ z => z.elim) fun _ _ z => z.elim
      exact ⟨n + 1 - (i + 1), by omega, i + 1, hlt, rfl, h₇⟩
    · have : i = n := by omega
      subst this
      refine wpAny_mono (dn s' hJ) (fun r s₄ hr => ?_) fun _ _ z => z.elim
      obtain ⟨rfl, hq⟩ := hr
      exact hR _ hq
  exact codeAny_compStart_list (loop 0 _ (Nat.zero_le _) h0) (wpAny_mono hit (fun v s' hv => by obtain ⟨rfl, rfl⟩ := hv; exact loop 0 _ (Nat.zero_le _) h0) fun _ _ z => z.elim)
/-- the frame of the block and that around it change places -/
theorem viewIn {h₀ h : Heap} {L C : Addr} {m : Str → Option Value} {mC : Str → Option Value} {oL : Obj} {news : List (Addr × Obj)} (F : Fr h₀ L h m) (N : News h₀ L h news) (hC : h.Ns C mC) (hLC : L < C) (hn : ∀ p ∈ news, p.1 ≠ C) (hL : h.get? L = some oL) :
    Fr h₀ C h mC ∧ News h₀ C h ((L, oL) :: news) := by
  refine ⟨⟨hC, F.keep, Nat.le_trans F.above (Nat.le_of_lt hLC)⟩, fun p hp => ?_⟩
  rcases List.mem_cons.mp hp with rfl | hp
  · refine ⟨hL, Nat.ne_of_lt hLC, Heap.get?_none_of_le F.above⟩
  · exact ⟨(N p hp).1, hn p hp, (N p hp).2.2⟩
theorem viewOut {h₀ h : Heap} {L C : Addr} {m mC : Str → Option Value} {oL oC : Obj} {news : List (Addr × Obj)} (F : Fr h₀ C h mC) (N : News h₀ C h ((L, oL) :: news)) (hL : h.Ns L m) (hab : h₀.objs.size ≤ L) (hn : ∀ p ∈ news, p.1 ≠ L) (hC : h.get? C = some oC) :
    Fr h₀ L h m ∧ News h₀ L h ((C, oC) :: news) := by
  refine ⟨⟨hL, F.keep, hab⟩, fun p hp => ?_⟩
  rcases List.mem_cons.mp hp with rfl | hp
  · exact ⟨hC, (N _ (.head _)).2.1.symm, Heap.get?_none_of_le F.above⟩
  · exact ⟨(N p (.tail _ hp)).1, hn p hp, (N p (.tail _ hp)).2.2⟩
/-- a comprehension by an own invariant -/
theorem compU {env : Env} {L : Addr} (hLoc : env.locals = L) {elt iter : Expr} {x : Str} {px : Pos} {scope : Scope} {cl : List (Str × Addr)} {pos fpos : Pos} {use : Option (Value → Sem Unit)} {Q : Value → Shared → Prop}
    (hclos : closureFor scope env = pure cl) (hcell : ∀ y ∈ scope.names, y.2 ≠ .cell) (hkind : scope.kind = .function)
    (hnames : ∀ y ∈ scope.names, y.2 = .local → scope.names.lookup y.1 = some .local)
    (h : wpAny (model prog w) A (eval iter env) (fun xv s₁ => wpAny (model prog w) A (pyIter xv) (fun it s₂ => ∃ (I : Addr) (h₀ : Heap) (m : Str → Option Value) (news : List (Addr × Obj)), it = .ref I ∧ Fr h₀ L s₂.heap m ∧ News h₀ L s₂.heap news ∧
      ∀ D C oL h tk, Fr h₀ C h (fun _ => none) → News h₀ C h ((D, PySem.W.listOf #[] 0) :: (L, oL) :: news) → h.Ns L m → Kp s₂.heap h → (∀ p ∈ news, p.1 < D) → L < D → D < C →
        CompLoop prog w A elt x px (compEnvC scope cl C env) I D (fun s₄ => compPost (model prog w) A E use Q (.ref D) C (.ok .next) s₄) { s₂ with heap := h, toks := tk }) E s₁) E s)
    (hs : ∀ x, foldedSetIterable iter env x = pure x) :
    wpAny (model prog w) A (comprehension (.ListComp elt [⟨.Name x px, iter, [], 0⟩] scope pos) scope env fpos (newList []) false (eval iter env) use) Q E s := by
  subst hLoc
  refine wpAny_comprehension_free rfl hs hclos hkind hnames (wpAny_mono h (fun xv s₁ h₁ => wpAny_mono h₁ (fun it s₂ h₂ => ?_) fun _ _ e => e) fun _ _ e => e)
  obtain ⟨I, h₀, m, news, rfl, F, N, hL⟩ := h₂
  refine wpAny_newObj_type (wpAny_newFunctionEnv hcell (by intro y hy; simp at hy) (fun h₁ hns₁ hsb₁ => ?_) hkind)
  dsimp only at hns₁ hsb₁ ⊢
  generalize hH2 : s₂.heap.push { cls := .type "list", dict := none, data := .seq ([] : List Value).toArray } = H2 at hns₁ hsb₁ ⊢
  have hC : H2.objs.size = s₂.heap.objs.size + 1 := by rw [← hH2, Heap.size_push]
  have below : ∀ b, b < s₂.heap.objs.size → b ≠ H2.objs.size := fun b hb => by rw [hC]; exact Nat.ne_of_lt (Nat.lt_succ_of_lt hb)
  have old : Kp s₂.heap h₁ := fun b o e => hsb₁.extBut b o (below b (Heap.lt_size e)) (Heap.get?_push_of_some _ (hH2 ▸ Heap.get?_push_of_some _ e))
  have hacc : h₁.get? s₂.heap.objs.size = some (PySem.W.listOf #[] 0) := hsb₁.extBut _ _ (by rw [hC]; exact Nat.ne_of_lt (Nat.lt_succ_self _)) (Heap.get?_push_of_some _ (hH2 ▸ Heap.get?_push_size _ rfl))
  obtain ⟨oL, es, ep, hoL, r⟩ := F.ns
  have hLs : env.locals < s₂.heap.objs.size := Heap.lt_size hoL
  have hDC : s₂.heap.objs.size < H2.objs.size := by rw [hC]; exact Nat.lt_succ_self _
  obtain ⟨F1, N1⟩ := frK F N old
  have h0s : h₀.objs.size ≤ s₂.heap.objs.size := Nat.le_trans F.above (Nat.le_of_lt hLs)
  have hnews : ∀ p ∈ news, p.1 < s₂.heap.objs.size := fun p hp => Heap.lt_size (N p hp).1
  obtain ⟨F2, N2⟩ := viewIn (mC := fun _ => none) F1 N1 hns₁ (Nat.lt_trans hLs hDC) (fun p hp => Nat.ne_of_lt (Nat.lt_trans (hnews p hp) hDC)) (old _ _ hoL)
  refine compLoop_run (hL _ _ oL h₁ _ F2 (fun p hp => ?_) F1.ns old hnews hLs hDC) fun s' hd => hd
  rcases List.mem_cons.mp hp with rfl | hp
  · exact ⟨hacc, Nat.ne_of_lt hDC, Heap.get?_none_of_le h0s⟩
  · exact N2 p hp
theorem compJ {env : Env} {L : Addr} (hLoc : env.locals = L) {elt iter : Expr} {x : Str} {px : Pos} {scope : Scope} {cl : List (Str × Addr)} {pos : Pos} {Q : Value → Shared → Prop}
    (hclos : closureFor scope env = pure cl) (hcell : ∀ y ∈ scope.names, y.2 ≠ .cell) (hkind : scope.kind = .function)
    (hnames : ∀ y ∈ scope.names, y.2 = .local → scope.names.lookup y.1 = some .local)
    (h : wpAny (model prog w) A (eval iter env) (fun xv s₁ => wpAny (model prog w) A (pyIter xv) (fun it s₂ => ∃ (I : Addr) (h₀ : Heap) (m : Str → Option Value) (news : List (Addr × Obj)), it = .ref I ∧ Fr h₀ L s₂.heap m ∧ News h₀ L s₂.heap news ∧
      ∀ D C oL h tk, Fr h₀ C h (fun _ => none) → News h₀ C h ((D, PySem.W.listOf #[] 0) :: (L, oL) :: news) → h.Ns L m → Kp s₂.heap h → (∀ p ∈ news, p.1 < D) → L < D → D < C →
        CompLoop prog w A elt x px (compEnvC scope cl C env) I D (fun s₄ => ∃ m, s₄.heap.Ns C m ∧ ∀ h', Heap.SameBut C s₄.heap h' → Q (.ref D) { s₄ with heap := h' }) { s₂ with heap := h, toks := tk }) E s₁) E s)
    (hs : ∀ x, foldedSetIterable iter env x = pure x) :
    wpAny (model prog w) A (eval (.ListComp elt [⟨.Name x px, iter, [], 0⟩] scope pos) env) Q E s := by
  rw [eval_ListComp]
  exact compU hLoc hclos hcell hkind hnames h hs
theorem assignCompJ {env : Env} {L : Addr} (hLoc : env.locals = L) {elt iter : Expr} {x y : Str} {px py : Pos} {scope : Scope} {cl : List (Str × Addr)} {pos spos : Pos} {Q : Flow → Shared → Prop}
    (hsw : swapsWith (.ListComp elt [⟨.Name x px, iter, [], 0⟩] scope pos) (some (.Name y py)) spos.line env = pure true)
    (hclos : closureFor scope env = pure cl) (hcell : ∀ y ∈ scope.names, y.2 ≠ .cell) (hkind : scope.kind = .function)
    (hnames : ∀ y ∈ scope.names, y.2 = .local → scope.names.lookup y.1 = some .local)
    (h : wpAny (model prog w) A (eval iter env) (fun xv s₁ => wpAny (model prog w) A (pyIter xv) (fun it s₂ => ∃ (I : Addr) (h₀ : Heap) (m : Str → Option Value) (news : List (Addr × Obj)), it = .ref I ∧ Fr h₀ L s₂.heap m ∧ News h₀ L s₂.heap news ∧
      ∀ D C oL h tk, Fr h₀ C h (fun _ => none) → News h₀ C h ((D, PySem.W.listOf #[] 0) :: (L, oL) :: news) → h.Ns L m → Kp s₂.heap h → (∀ p ∈ news, p.1 < D) → L < D → D < C →
        CompLoop prog w A elt x px (compEnvC scope cl C env) I D (fun s₄ => wpAny (model prog w) A (assign (.Name y py) env (.ref D)) (fun _ s₅ => ∃ m, s₅.heap.Ns C m ∧ ∀ h', Heap.SameBut C s₅.heap h' → Q .next { s₅ with heap := h' }) E s₄) { s₂ with heap := h, toks := tk }) E s₁) E s)
    (hs : ∀ x, foldedSetIterable iter env x = pure x) :
    wpAny (model prog w) A (exec (.Assign [.Name y py] (.ListComp elt [⟨.Name x px, iter, [], 0⟩] scope pos) spos) env) Q E s := by
  rw [exec_Assign_Name_used _ _ _ _ hsw]
  refine wpAny_bind (wpAny_standAt (wpAny_bind ?_))
  show wpAny _ A (do let _ ← comprehension (.ListComp elt [⟨.Name x px, iter, [], 0⟩] scope pos) scope env _ (newList []) false (eval iter env) (some (assign (.Name y py) env))) _ _ s
  refine wpAny_bind (wpAny_mono (compU (use := some (assign (.Name y py) env)) (Q := fun _ s' => Q .next s') hLoc hclos hcell hkind hnames h hs) (fun _ s' hq => wpAny_pure (wpAny_pure hq)) fun _ _ e => e)
end
end Mine
namespace Mine
theorem nsAt {h h' : Heap} {L : Addr} {m : Str → Option Value} {o : Obj} (hn : h.Ns L m) (hL : h.get? L = some o) (hL' : h'.get? L = some o) : h'.Ns L m := by
  obtain ⟨o', es, ep, ho, r⟩ := hn
  rw [hL] at ho
  cases ho
  exact ⟨o, es, ep, hL', r⟩
theorem re {h₀ h : Heap} {L : Addr} {a b : List (Addr × Obj)} (N : News h₀ L h a) (k : ∀ p, p ∈ b → p ∈ a) : News h₀ L h b := fun p hp => N p (k p hp)
theorem newsNeL {h₀ h : Heap} {L : Addr} {news : List (Addr × Obj)} (N : News h₀ L h news) : ∀ p ∈ news, p.1 ≠ L := fun p hp => (N p hp).2.1
/-- out of the block, back to the frame around it -/
theorem compOut {h₀ h h' : Heap} {L C : Addr} {m mC : Str → Option Value} {oL : Obj} {news : List (Addr × Obj)} (F : Fr h₀ C h mC) (N : News h₀ C h ((L, oL) :: news)) (hns : h.Ns L m) (hab : h₀.objs.size ≤ L) (hn : ∀ p ∈ news, p.1 ≠ L) (hs : Heap.SameBut C h h') :
    Fr h₀ L h' m ∧ News h₀ L h' news := by
  have hLC : L ≠ C := (N _ (.head _)).2.1
  refine ⟨⟨hns.sameBut hs hLC, fun b o e => hs.extBut b o (Nat.ne_of_lt (Nat.lt_of_lt_of_le (Heap.lt_size e) F.above)) (F.keep b o e), hab⟩, fun p hp => ?_⟩
  have := N p (.tail _ hp)
  exact ⟨hs.extBut _ _ this.2.1 this.1, hn p hp, this.2.2⟩
end Mine
namespace Mine
section
variable {h₀ h : Heap} {L : Addr} {a b c d e : Addr × Obj} {l : List (Addr × Obj)}
theorem mv2 (N : News h₀ L h (a :: b :: c :: l)) : News h₀ L h (c :: a :: b :: l) := fun p hp => N p (by grind)
theorem dn2 (N : News h₀ L h (c :: a :: b :: l)) : News h₀ L h (a :: b :: c :: l) := fun p hp => N p (by grind)
theorem mv3 (N : News h₀ L h (a :: b :: c :: d :: l)) : News h₀ L h (d :: a :: b :: c :: l) := fun p hp => N p (by grind)
theorem dn3 (N : News h₀ L h (d :: a :: b :: c :: l)) : News h₀ L h (a :: b :: c :: d :: l) := fun p hp => N p (by grind)
theorem mv4 (N : News h₀ L h (a :: b :: c :: d :: e :: l)) : News h₀ L h (e :: a :: b :: c :: d :: l) := fun p hp => N p (by grind)
theorem dn4 (N : News h₀ L h (e :: a :: b :: c :: d :: l)) : News h₀ L h (a :: b :: c :: d :: e :: l) := fun p hp => N p (by grind)
end
end Mine
namespace Mine
section
variable {prog : Program} {w : World} {A : Around} {E : Value → Shared → Prop} {s : Shared}
/-- the block's own name gets its value -/
theorem assignX {h₀ : Heap} {C : Addr} {mC : Str → Option Value} {news : List (Addr × Obj)} {scope : Scope} {cl : List (Str × Addr)} {env : Env} {x : Str} {px : Pos} {v : Value} {Q : Unit → Shared → Prop} (F : Fr h₀ C s.heap mC) (N : News h₀ C s.heap news)
    (hx : scope.names.lookup x = some .local) (hkind : scope.kind = .function) (h : ∀ h' tk, Fr h₀ C h' (fun z => if z = x then some v else mC z) → News h₀ C h' news → (∀ b o, b ≠ C → s.heap.get? b = some o → h'.get? b = some o) → Q () { s with heap := h', toks := tk }) :
    wpAny (model prog w) A (assign (.Name x px) (compEnvC scope cl C env) v) Q E s := by
  refine wpAny_assign_Name (wpAny_storeName_local (env := compEnvC scope cl C env) (lookup_relabel_local hx) F.ns (fun h₂ hn₂ hs₂ => ?_) (by simp [compEnvC, relabel, hkind]))
  refine h h₂ _ ⟨hn₂, fun b o e => hs₂.extBut b o (Nat.ne_of_lt (Nat.lt_of_lt_of_le (Heap.lt_size e) F.above)) (F.keep b o e), F.above⟩ (fun p hp => ?_) fun b o hb e => hs₂.extBut b o hb e
  have := N p hp
  exact ⟨hs₂.extBut _ _ this.2.1 this.1, this.2⟩
end
end Mine
theorem Mine.off50 : True := by w_top off; trivial
-- P26_state
namespace Mine
local macro_rules | `(tactic| walk_at "M none") => `(tactic| skip)
local macro_rules | `(tactic| walk_at "eval ListComp") => `(tactic| refine Mine.stop ?_)
section
variable {w : World} {dp un : Nat} {fr : List Env} {gd : Option (List Code)} {s : Shared} {Q E : Value → Shared → Prop} {loose : List Str} {mean : ExcName → Option Value} {mg mb : Str → Option Value}
theorem state_c {l : Addr} {vs : List Value} {ns : List Int} (X : (hd.heap_39 w.params).In s.heap) (T : Top topProg loose mean mg mb s.heap) (hA : dp + 2 < recursionLimit)
  (hl : s.heap.IsList l vs.toArray) (hi : IntsAre vs ns) (hlen : ns.length ≤ 63)
  (ret : ∀ h' tk' (D nA : Addr) ws ms c c2 t, Kp s.heap h' → s.heap.get? D = none → s.heap.get? nA = none → D ≠ nA → h'.get? D = some (liObj #[.ref nA, .int 0 t] c) → h'.get? nA = some (PySem.W.listOf (List.toArray ws) c2) → IntsAre ws ms → (∀ n ∈ ms, 0 ≤ n ∧ n ≤ 1000003) → 3 ≤ ms.length → ms.length ≤ 100 → Q (.ref D) { s with heap := h', toks := tk' }) :
  wpAny (model PySem.Challenge.rw_ev0005_01.row.prog w) (Ar dp un (some fr) gd) (call (.ref 197) [.ref l]) Q E s := by
  revert X; k_fill; intro X
  walk_at "M enter"
  intro h₁ tk₁ F N
  walk_at "M steps"
  walk_at "M go"
  with_reducible refine' compJ (L := s.heap.objs.size) ?c0 ?c1 ?c2 ?c3 ?c4 ?_ ?c7
  (case c0 => exact rfl); (case c1 => exact rfl); (case c2 => decide +kernel); (case c3 => exact rfl); (case c4 => decide +kernel); (case c7 => intro _; rfl)
  walk_at "M steps"
  (with_reducible rename Fr _ _ _ _ => F); (with_reducible rename News _ _ _ _ => N); rename Addr => l2; rename List Value => ws2
  rename IntsAre _ (List.take 24 ns) => hi2
  refine iterL F N (isL_news N (.head _)) fun I h₂ F2 N2 lI hk2 => ?_
  refine ⟨I, _, _, _, rfl, F2, N2, fun D C oL h tk F3 N3 hns hk3 lD hLD hDC => ?_⟩
  dsimp only
  have hIL : @Ne Nat I s.heap.objs.size := (N2 _ (.head _)).2.1
  have hID : @LT.lt Nat _ I D := lD _ (.head _)
  have hLD2 : @LT.lt Nat _ s.heap.objs.size D := hLD
  have hLl : @Ne Nat l2 s.heap.objs.size := (N _ (.head _)).2.1
  have hl2I : @LT.lt Nat _ l2 I := lI _ (.head _)
  have hwl : ws2.length = (List.take 24 ns).length := IntsAre.length hi2
  have hwl2 : (List.take 24 ns).length ≤ 24 := by rw [List.length_take]; exact Nat.min_le_left _ _
  refine ⟨ws2.length, fun i s' => ∃ h tk mC rs ms c, s' = { s with heap := h, toks := tk } ∧ Fr s.heap C h mC ∧ News s.heap C h [(I, itObj l2 i), (D, PySem.W.listOf (List.toArray rs) c), (_, oL), (l2, PySem.W.listOf ws2.toArray 0)] ∧ h.Ns s.heap.objs.size _ ∧
    IntsAre rs ms ∧ ms.length = i ∧ ∀ n ∈ ms, 0 ≤ n ∧ n ≤ 1000003, ⟨h, _, _, [], [], 0, rfl, F3, mv2 N3, hns, .nil, rfl, fun _ h => nomatch h⟩, wpAny_pyIter_listiter ⟨_, N3.get (.tail _ (.tail _ (.head _))), rfl, rfl⟩ ⟨rfl, rfl⟩, ?_, ?_⟩
  · rintro i s₃ hlt ⟨h, tk, mC, rs, ms, c, rfl, F, N, hns, hrs, hml, hmb⟩
    clear F2 N2 F3 N3
    rename h.Ns _ _ => hns
    obtain ⟨n, tn, hv⟩ : ∃ n t, ws2[i]? = some (.int n t) := by
      obtain ⟨t, e⟩ := hi2.int_at i ws2[i] (List.getElem?_eq_getElem hlt)
      exact ⟨_, t, by rw [List.getElem?_eq_getElem hlt, e]⟩
    have hneI : ∀ p ∈ [(D, PySem.W.listOf (List.toArray rs) c), (s.heap.objs.size, oL), (l2, PySem.W.listOf ws2.toArray 0)], p.1 ≠ I := by
      simp only [List.forall_mem_cons]
      exact ⟨neN (by (try dsimp only); omega), neN (by (try dsimp only); omega), neN (by (try dsimp only); omega), fun _ h => nomatch h⟩
    refine nextL F N hneI (isL_news N (.tail _ (.tail _ (.tail _ (.head _))))) (by simpa using hv) fun h₄ F4 N4 hk4 => ⟨_, rfl, ?_⟩
    have hLo := (N _ (.tail _ (.tail _ (.head _)))).1
    clear F N
    refine assignX F4 N4 (by decide +kernel) rfl fun h₅ tk₅ F5 N5 hk5 => ?_
    clear F4 N4
    walk_at "M steps"
    have hb : 0 ≤ (if n < 0 then -n else n).fmod 1000003 ∧ (if n < 0 then -n else n).fmod 1000003 ≤ 1000003 := ⟨Int.fmod_nonneg (by split <;> omega) (by decide), Int.le_of_lt (Int.fmod_lt_of_pos _ (by decide))⟩
    (with_reducible rename Fr _ _ _ _ => F6); (with_reducible rename News _ _ _ _ => N6)
    dsimp only
    refine ⟨_, _, _, _, ms ++ [_], _, rfl, F6, (by simpa using N6), ?_, hrs.append (.cons _ _ .nil), by simp [hml], fun z hz => ?_⟩
    · exact nsAt hns hLo (N6 _ (.tail _ (.tail _ (.head _)))).1
    · rcases List.mem_append.mp hz with hz | hz
      · exact hmb z hz
      · rw [List.mem_singleton.mp hz]; exact hb
  · rintro s₃ ⟨h, tk, mC, rs, ms, c, rfl, F, N, hns, hrs, hml, hmb⟩
    have hneI : ∀ p ∈ [(D, PySem.W.listOf (List.toArray rs) c), (s.heap.objs.size, oL), (l2, PySem.W.listOf ws2.toArray 0)], p.1 ≠ I := by
      simp only [List.forall_mem_cons]
      exact ⟨neN (by (try dsimp only); omega), neN (by (try dsimp only); omega), neN (by (try dsimp only); omega), fun _ h => nomatch h⟩
    have hnL : ∀ p ∈ [(D, PySem.W.listOf (List.toArray rs) c), (l2, PySem.W.listOf ws2.toArray 0)], p.1 ≠ s.heap.objs.size := by
      simp only [List.forall_mem_cons]
      exact ⟨neN (by (try dsimp only); omega), neN (by (try dsimp only); omega), fun _ h => nomatch h⟩
    refine nextL_end rfl F N hneI (isL_news N (.tail _ (.tail _ (.tail _ (.head _))))) (by simp) fun h₄ F4 N4 hk4 => ⟨rfl, _, F4.ns, fun h₅ hs5 => ?_⟩
    have hLI : @Ne Nat s.heap.objs.size I := hIL.symm
    obtain ⟨F5, N5⟩ := compOut F4 (newsSwap N4) (nsAt hns (N _ (.tail _ (.tail _ (.head _)))).1 (N4 _ (.tail _ (.head _))).1) (Nat.le_refl _) hnL hs5
    clear F N F4 N4 hns F2 N2 F3 N3
    walk_at "M steps"
    (with_reducible rename Fr _ _ _ _ => F); (with_reducible rename News _ _ _ _ => N)
    rename IntsAre _ (ms ++ _) => hres
    rename _ ∧ _ ∧ _ ∧ _ => lD
    dsimp only
    refine ret _ _ _ _ _ (ms ++ [5, 0, 11]) 0 0 _ F.keep (N _ (.head _)).2.2 (N _ (.tail _ (.head _))).2.2 (neN (by (try dsimp only); omega)) (N.get (.head _)) (N.get (.tail _ (.head _))) hres (fun z hz => ?_) (by simp) (by rw [List.length_append]; simp only [List.length_cons, List.length_nil]; omega)
    rcases List.mem_append.mp hz with hz | hz
    · exact hmb z hz
    · simp only [List.mem_cons, List.not_mem_nil, or_false] at hz
      rcases hz with rfl | rfl | rfl <;> decide
end
end Mine
theorem Mine.off51 : True := by w_top off; trivial
-- P27_set
namespace Mine
local macro_rules | `(tactic| walk_at "M none") => `(tactic| skip)
local macro_rules | `(tactic| walk_at "M none") => `(tactic| skip)
local macro_rules | `(tactic| walk_at "ite") => `(tactic| refine Mine.stop ?_)
theorem chC_one (c : Nat) : 1 ≤ (chC c).length := by unfold chC; split <;> simp
theorem flat_ge : ∀ x : List Nat, x.length ≤ (x.flatMap chC).length
  | [] => Nat.le_refl _
  | a :: x => by
    have := flat_ge x
    have := chC_one a
    simp only [List.flatMap_cons, List.length_append, List.length_cons]; omega
theorem signs_few : (Str.ofString "[^-").cps.toList = [91, 94, 45] := by decide +kernel
theorem pushL (vs : List Value) (v : Value) : (vs ++ [v]).toArray = vs.toArray.push v := by simp
theorem getD_at (A B : List Nat) (x : Nat) : (A ++ x :: B).getD A.length 0 = x := by simp [List.getD_eq_getElem?_getD]
theorem getD_at1 (A B : List Nat) (x y : Nat) : (A ++ x :: y :: B).getD (A.length + 1) 0 = y := by simp [List.getD_eq_getElem?_getD]
section
variable {w : World} {dp un : Nat} {fr : List Env} {gd : Option (List Code)} {s : Shared} {Q E : Value → Shared → Prop} {loose : List Str} {mean : ExcName → Option Value} {mg mb : Str → Option Value}
theorem lset_c {pre cs post tx : List Nat} {t ta : Tok} (X : (hd.heap_39 w.params).In s.heap) (T : Top topProg loose mean mg mb s.heap) (hA : dp + 2 < recursionLimit)
  (htx : tx = pre ++ (cs.flatMap chC ++ 93 :: post)) (hlen : tx.length ≤ 500000)
  (ret : ∀ h' tk' (D FD : Addr) vs c t, Kp s.heap h' → s.heap.get? D = none → s.heap.get? FD = none → D ≠ FD → h'.get? D = some (tupObj #[.ref FD, .int (((pre ++ cs.flatMap chC).length : Nat) : Int) t]) → h'.get? FD = some (PySem.W.listOf (List.toArray vs) c) →
    StrsAre vs (cs.map fun c => S [c]) → Q (.ref D) { s with heap := h', toks := tk' }) :
  wpAny (model PySem.Challenge.rw_ev0005_01.row.prog w) (Ar dp un (some fr) gd) (call (.ref 223) [.str (S tx) t, .int (pre.length : Nat) ta]) Q E s := by
  revert X; k_fill; intro X
  walk_at "M enter"
  intro h₁ tk₁ F N
  walk_at "M steps"
  walk_at "M go"
  (with_reducible rename Fr _ _ _ _ => F2); (with_reducible rename News _ _ _ _ => N2)
  obtain ⟨FD, m0, F2, N2, q1, q2, q3⟩ : ∃ FD m0, Fr s.heap s.heap.objs.size _ m0 ∧ News s.heap s.heap.objs.size _ [(FD, PySem.W.listOf #[] 0)] ∧ m0 "text" = some (.str (S tx) t) ∧ m0 "at" = some (.int (pre.length : Nat) ta) ∧ m0 "found" = some (.ref FD) := ⟨_, _, F2, N2, rfl, rfl, rfl⟩

  refine whileJ (fun n s' => ∃ h tk m vs c a ta done rest, s' = { s with heap := h, toks := tk } ∧ Fr s.heap s.heap.objs.size h m ∧ News s.heap s.heap.objs.size h [(FD, PySem.W.listOf (List.toArray vs) c)] ∧
    done ++ rest = cs ∧ a = pre ++ done.flatMap chC ∧ StrsAre vs (done.map fun c => S [c]) ∧ n = rest.length ∧ m "text" = some (.str (S tx) t) ∧ m "at" = some (.int (a.length : Nat) ta) ∧ m "found" = some (.ref FD)) ?hE ?_ cs.length ?_
  (case hE => passes_own)
  · rintro n s₃ ⟨h, tk, m, vs, c, a, ta, done, rest, rfl, F, N, hdr, ha, hvs, hn, m1, m2, m3⟩
    have hta : tx = a ++ (rest.flatMap chC ++ 93 :: post) := by rw [htx, ha, ← hdr]; simp
    have hal : a.length + 1 ≤ tx.length := by rw [hta]; simp; omega
    walk_at "M steps"
    have hvl : vs.length ≤ 500000 := by
      have h1 := strsLen hvs
      have h2 := flat_ge cs
      have h3 : done.length + rest.length = cs.length := by rw [← hdr, List.length_append]
      have h4 : (cs.flatMap chC).length ≤ tx.length := by rw [htx]; simp only [List.length_append]; omega
      rw [List.length_map] at h1
      omega
    cases rest with
    | nil =>
      rw [show tx.getD ((a.length : Nat) : Int).toNat 0 = 93 by rw [Int.toNat_natCast, hta]; exact getD_at a post 93]
      refine WhlIf.no (by decide) ?_
      walk_at "M steps"
      (with_reducible rename Fr _ _ _ _ => F6); (with_reducible rename News _ _ _ _ => N6); rename FD < _ => lD
      dsimp only
      rw [List.append_nil] at hdr
      subst hdr ha
      exact ret _ _ _ FD vs c _ F6.keep (N6 _ (.head _)).2.2 (N6 _ (.tail _ (.head _))).2.2 (Nat.ne_of_gt lD) (N6.get (.head _)) (N6.get (.tail _ (.head _))) hvs
    | cons c0 rest =>
      by_cases hc : c0 ∈ chSigns
      · have e0 : chC c0 = [92, c0] := by rw [chC, if_pos hc]
        have hal2 : a.length + 2 ≤ tx.length := by rw [hta]; simp [e0]
        have g0 : tx.getD ((a.length : Nat) : Int).toNat 0 = 92 := by rw [Int.toNat_natCast, hta, List.flatMap_cons, e0]; exact getD_at a _ 92
        have g1 : tx.getD (((a.length : Nat) : Int) + 1).toNat 0 = c0 := by rw [show (((a.length : Nat) : Int) + 1).toNat = a.length + 1 by omega, hta, List.flatMap_cons, e0]; exact getD_at1 a _ 92 c0
        rw [g0]
        refine WhlIf.yes (by decide) ?_
        walk_at "M steps"
        walk_at "M go"
        rw [g0, if_pos (by decide)]
        walk_at "M steps"
        walk_at "M go"
        (with_reducible rename Fr _ _ _ _ => F6); (with_reducible rename News _ _ _ _ => N6)
        dsimp only
        rw [g1] at N6
        obtain ⟨tq, cq, N7⟩ : ∃ tq cq, News s.heap s.heap.objs.size _ [(FD, PySem.W.listOf (vs ++ [Value.str (S [c0]) tq]).toArray cq)] := ⟨_, _, by rw [pushL]; exact N6⟩
        have en : (a.length : Int) + 1 + 1 = (((a ++ chC c0).length : Nat) : Int) := by
          rw [List.length_append, e0]; simp only [List.length_cons, List.length_nil]; omega
        obtain ⟨mB, FB, b1, b3, tb, b2⟩ : ∃ mB, Fr s.heap s.heap.objs.size _ mB ∧ mB "text" = some (.str (S tx) t) ∧ mB "found" = some (.ref FD) ∧ ∃ tb, mB "at" = some (.int ((a ++ chC c0).length : Nat) tb) :=
          ⟨_, F6, m1, m3, _, congrArg (fun z => some (Value.int z _)) en⟩
        refine ⟨rest.length, by rw [hn]; exact Nat.lt_succ_self _, _, _, _, vs ++ [.str (S [c0]) tq], _, a ++ chC c0, _, done ++ [c0], rest, rfl, FB, N7, by simpa using hdr, by simp [ha], ?_, rfl, b1, b2, b3⟩
        rw [List.map_append]
        exact strsAre_push hvs _ _
      · have e0 : chC c0 = [c0] := by rw [chC, if_neg hc]
        have g0 : tx.getD ((a.length : Nat) : Int).toNat 0 = c0 := by rw [Int.toNat_natCast, hta, List.flatMap_cons, e0]; exact getD_at a _ c0
        rw [g0]
        have hc93 : c0 ≠ 93 := fun e => hc (by rw [e]; decide)
        refine WhlIf.yes (by rw [lit_2]; simpa [S_eq] using hc93) ?_
        walk_at "M steps"
        walk_at "M go"
        have hcf : c0 ∉ [91, 94, 45] := fun e => hc (by
          simp only [List.mem_cons, List.not_mem_nil, or_false] at e
          rcases e with rfl | rfl | rfl <;> decide)
        have hc92 : c0 ≠ 92 := fun e => hc (by rw [e]; decide)
        rw [g0, if_neg (by rw [lit_7]; simpa [S_eq] using hc92)]
        walk_at "M steps"
        walk_at "M go"
        rw [g0, if_neg (by
          rw [noneOne, signs_few]
          simpa using hcf)]
        walk_at "M steps"
        walk_at "M go"
        (with_reducible rename Fr _ _ _ _ => F6); (with_reducible rename News _ _ _ _ => N6)
        dsimp only
        rw [g0] at N6
        obtain ⟨tq, cq, N7⟩ : ∃ tq cq, News s.heap s.heap.objs.size _ [(FD, PySem.W.listOf (vs ++ [Value.str (S [c0]) tq]).toArray cq)] := ⟨_, _, by rw [pushL]; exact N6⟩
        have en : (a.length : Int) + 1 = (((a ++ chC c0).length : Nat) : Int) := by
          rw [List.length_append, e0]; simp only [List.length_cons, List.length_nil]; omega
        obtain ⟨mB, FB, b1, b3, tb, b2⟩ : ∃ mB, Fr s.heap s.heap.objs.size _ mB ∧ mB "text" = some (.str (S tx) t) ∧ mB "found" = some (.ref FD) ∧ ∃ tb, mB "at" = some (.int ((a ++ chC c0).length : Nat) tb) :=
          ⟨_, F6, m1, m3, _, congrArg (fun z => some (Value.int z _)) en⟩
        refine ⟨rest.length, by rw [hn]; exact Nat.lt_succ_self _, _, _, _, vs ++ [.str (S [c0]) tq], _, a ++ chC c0, _, done ++ [c0], rest, rfl, FB, N7, by simpa using hdr, by simp [ha], ?_, rfl, b1, b2, b3⟩
        rw [List.map_append]
        exact strsAre_push hvs _ _
  · exact ⟨_, _, _, [], 0, pre, ta, [], cs, rfl, F2, N2, rfl, by simp, .nil, rfl, q1, q2, q3⟩
end
end Mine
theorem Mine.off52 : True := by w_top off; trivial
-- P27b_iv
namespace Mine
abbrev Lk := Addr → Obj → Prop
def TupAt (P : Lk) (v : Value) (k : Str) (r : Value) : Prop := ∃ a t, v = .ref a ∧ P a (tupObj #[.str k t, r])
def LiAt (P : Lk) (v : Value) (vs : List Value) : Prop := ∃ a c, v = .ref a ∧ P a (PySem.W.listOf vs.toArray c)
def RowV (P : Lk) (I : Value → TL → Prop) (v : Value) (Us : List TL) : Prop := ∃ us, LiAt P v us ∧ Paired I us Us
def RowsV (P : Lk) (I : Value → TL → Prop) (v : Value) (Tss : List (List TL)) : Prop := ∃ vs, LiAt P v vs ∧ Paired (RowV P I) vs Tss
/-- an item that was read, and what it means -/
def Iv (P : Lk) : Nat → Value → TL → Prop
  | 0, _, _ => False
  | n + 1, v, T => T ≠ [] ∧ ((∃ c t, TupAt P v "one" (.str (S [c]) t) ∧ T = [[c]]) ∨ (∃ rv Tss, TupAt P v "or" rv ∧ RowsV P (Iv P n) rv Tss ∧ T = meanT Tss) ∨ (∃ iv U, TupAt P v "maybe" iv ∧ Iv P n iv U ∧ T = U ++ [[]]))
theorem pairedMono {α β : Type} {F G : α → β → Prop} (k : ∀ a b, F a b → G a b) {l : List α} {r : List β} (h : Paired F l r) : Paired G l r := by
  induction h with
  | nil => exact .nil
  | cons h _ ih => exact .cons (k _ _ h) ih
section
variable {P P' : Lk}
theorem TupAt.mono (k : ∀ a o, P a o → P' a o) {v r : Value} {q : Str} (h : TupAt P v q r) : TupAt P' v q r := let ⟨a, t, e, h⟩ := h; ⟨a, t, e, k _ _ h⟩
theorem LiAt.mono (k : ∀ a o, P a o → P' a o) {v : Value} {vs : List Value} (h : LiAt P v vs) : LiAt P' v vs := let ⟨a, c, e, h⟩ := h; ⟨a, c, e, k _ _ h⟩
theorem RowV.mono (k : ∀ a o, P a o → P' a o) {I I' : Value → TL → Prop} (j : ∀ v T, I v T → I' v T) {v : Value} {Us : List TL} (h : RowV P I v Us) : RowV P' I' v Us := let ⟨us, h1, h2⟩ := h; ⟨us, h1.mono k, pairedMono j h2⟩
theorem RowsV.mono (k : ∀ a o, P a o → P' a o) {I I' : Value → TL → Prop} (j : ∀ v T, I v T → I' v T) {v : Value} {Tss : List (List TL)} (h : RowsV P I v Tss) : RowsV P' I' v Tss := let ⟨us, h1, h2⟩ := h; ⟨us, h1.mono k, pairedMono (fun _ _ => RowV.mono k j) h2⟩
theorem Iv.mono (k : ∀ a o, P a o → P' a o) : ∀ (n : Nat) (v : Value) (T : TL), Iv P n v T → Iv P' n v T
  | 0, _, _, h => h.elim
  | n + 1, v, T, ⟨h0, h⟩ => by
    refine ⟨h0, ?_⟩
    rcases h with ⟨c, t, h, e⟩ | ⟨rv, Tss, h1, h2, e⟩ | ⟨iv, U, h1, h2, e⟩
    · exact .inl ⟨c, t, h.mono k, e⟩
    · exact .inr (.inl ⟨rv, Tss, h1.mono k, h2.mono k (Iv.mono k n), e⟩)
    · exact .inr (.inr ⟨iv, U, h1.mono k, Iv.mono k n _ _ h2, e⟩)
theorem Iv.up : ∀ (n : Nat) (v : Value) (T : TL), Iv P n v T → Iv P (n + 1) v T
  | 0, _, _, h => h.elim
  | n + 1, v, T, ⟨h0, h⟩ => by
    refine ⟨h0, ?_⟩
    rcases h with ⟨c, t, h, e⟩ | ⟨rv, Tss, h1, h2, e⟩ | ⟨iv, U, h1, h2, e⟩
    · exact .inl ⟨c, t, h, e⟩
    · exact .inr (.inl ⟨rv, Tss, h1, h2.mono (fun _ _ h => h) (Iv.up n), e⟩)
    · exact .inr (.inr ⟨iv, U, h1, Iv.up n _ _ h2, e⟩)
theorem Iv.le {n m : Nat} (h : n ≤ m) {v : Value} {T : TL} (x : Iv P n v T) : Iv P m v T := by
  induction h with
  | refl => exact x
  | step _ ih => exact Iv.up _ _ _ ih
end
/-- what stands in a ledger -/
abbrev InG (G : List (Addr × Obj)) : Lk := fun a o => (a, o) ∈ G
theorem base_hd {R : List Nat → TL → Prop} {x : List Nat} {T : TL} (h : Base R x T) : ∃ c r, x = c :: r ∧ c ≠ 63 ∧ c ≠ 41 ∧ c ≠ 124 := by
  cases h with
  | one c =>
    unfold escC
    split
    · exact ⟨92, [c], rfl, by decide, by decide, by decide⟩
    · rename_i hc
      refine ⟨c, [], rfl, ?_, ?_, ?_⟩ <;> (rintro rfl; exact hc (by decide))
  | grp h => exact ⟨_, _, rfl, by decide, by decide, by decide⟩
  | ngr h => exact ⟨_, _, rfl, by decide, by decide, by decide⟩
  | set cs h => exact ⟨_, _, rfl, by decide, by decide, by decide⟩
theorem item_hd {R : List Nat → TL → Prop} {i : It} (h : Item R i) : ∃ c r, i.1 = c :: r ∧ c ≠ 63 ∧ c ≠ 41 ∧ c ≠ 124 := by
  rcases h with h | ⟨y, T, e1, _, h⟩
  · exact base_hd h
  · obtain ⟨c, r, e, q⟩ := base_hd h
    exact ⟨c, r ++ [63], by rw [e1, e]; rfl, q⟩
def EndOk (post : List Nat) : Prop := post = [] ∨ ∃ q, post = 41 :: q
/-- what follows an item is never its mark -/
theorem rows_hd {R : List Nat → TL → Prop} {cur : List It} {more : List (List It)} {post : List Nat} (hc : ∀ i ∈ cur, Item R i) (hp : EndOk post) : (rowsT (cur :: more) ++ post).head? ≠ some 63 := by
  cases cur with
  | cons i cur =>
    obtain ⟨c, r, e, h1, _⟩ := item_hd (hc i (.head _))
    have : rowsT ((i :: cur) :: more) = c :: (r ++ rowsT (cur :: more)) := by
      cases more with
      | nil => show i.1 ++ rowT cur = _; rw [e]; rfl
      | cons q qs => show (i.1 ++ rowT cur) ++ 124 :: rowsT (q :: qs) = _; rw [e]; simp [rowsT_two]
    rw [this]
    simpa using h1
  | nil =>
    cases more with
    | nil =>
      rcases hp with rfl | ⟨q, rfl⟩
      · simp [rowsT, rowT]
      · simp [rowsT, rowT]
    | cons q qs => simp [rowsT_two, rowT]
theorem rg_hd {n : Nat} {x post : List Nat} {T : TL} (h : Rg n x T) (hp : EndOk post) : (x ++ post).head? ≠ some 63 := by
  cases n with
  | zero => exact h.elim
  | succ n =>
    obtain ⟨rs, h1, h2, rfl, _⟩ := h
    cases rs with
    | nil => exact absurd rfl h1
    | cons r more => exact rows_hd (h2 r (.head _)) hp
theorem rowsT_cons (i : It) (cur : List It) (more : List (List It)) : rowsT ((i :: cur) :: more) = i.1 ++ rowsT (cur :: more) := by
  cases more with
  | nil => rfl
  | cons q qs => rw [rowsT_two, rowsT_two, rowT_cons, List.append_assoc]
theorem base_one {R : List Nat → TL → Prop} {x : List Nat} {T : TL} (h : Base R x T) : 1 ≤ x.length := by
  obtain ⟨c, r, rfl, _⟩ := base_hd h
  simp
theorem allLt_to {d : Nat} : ∀ {l : List (Addr × Obj)}, AllLt d l → ∀ p ∈ l, @LT.lt Nat _ p.1 d
  | [], _, _, h => nomatch h
  | _ :: _, ⟨h, k⟩, p, hp => by
    rcases List.mem_cons.mp hp with rfl | hp
    · exact h
    · exact allLt_to k p hp
/-- the reader's end -/
theorem finRead {h₀ h' : Heap} {L D X Y RS RW : Addr} {oY oRS : Obj} {rows row : List Value} {G : List (Addr × Obj)} {n : Int} {t : Tok} {c2 c3 lv : Nat} {dn : List (List TL)} {cd : List TL}
    (N : News h₀ L h' ((D, tupObj #[.ref X, .int n t]) :: (X, PySem.W.listOf (rows ++ [Value.ref RW]).toArray c3) :: (Y, oY) :: (RS, oRS) :: (RW, PySem.W.listOf (List.toArray row) c2) :: G))
    (hrows : Paired (RowV (InG G) (Iv (InG G) lv)) rows dn) (hrow : Paired (Iv (InG G) lv) row cd) :
    ∃ G', (∀ p ∈ G', h₀.get? p.1 = none ∧ h'.get? p.1 = some p.2) ∧ (D, tupObj #[.ref X, .int n t]) ∈ G' ∧ RowsV (InG G') (Iv (InG G') lv) (.ref X) (dn ++ [cd]) := by
  have hmono : ∀ a o, InG G a o → InG ((D, tupObj #[.ref X, .int n t]) :: (X, PySem.W.listOf (rows ++ [Value.ref RW]).toArray c3) :: (RW, PySem.W.listOf (List.toArray row) c2) :: G) a o := fun _ _ h => .tail _ (.tail _ (.tail _ h))
  refine ⟨(D, tupObj #[.ref X, .int n t]) :: (X, PySem.W.listOf (rows ++ [Value.ref RW]).toArray c3) :: (RW, PySem.W.listOf (List.toArray row) c2) :: G, fun p hp => ?_, .head _, rows ++ [.ref RW], ⟨X, c3, rfl, .tail _ (.head _)⟩, ?_⟩
  · have hp2 := fun hq => N p hq
    rcases List.mem_cons.mp hp with rfl | hp
    · exact ⟨(hp2 (.head _)).2.2, (hp2 (.head _)).1⟩
    · rcases List.mem_cons.mp hp with rfl | hp
      · exact ⟨(hp2 (.tail _ (.head _))).2.2, (hp2 (.tail _ (.head _))).1⟩
      · have := hp2 (.tail _ (.tail _ (.tail _ (.tail _ hp))))
        exact ⟨this.2.2, this.1⟩
  · exact (pairedMono (fun _ _ => RowV.mono hmono (Iv.mono hmono _)) hrows).snoc ⟨row, ⟨RW, c2, rfl, .tail _ (.tail _ (.head _))⟩, pairedMono (Iv.mono hmono _) hrow⟩
/-- what a call made is laid to the ledger -/
theorem newsAll {h₀ h h' : Heap} {L : Addr} {m : Str → Option Value} {news G : List (Addr × Obj)} (F : Fr h₀ L h m) (N : News h₀ L h news) (hk : Kp h h') (hG : ∀ p ∈ G, h.get? p.1 = none ∧ h'.get? p.1 = some p.2) :
    News h₀ L h' (G ++ news) ∧ ∀ p ∈ G, ∀ q ∈ news, p.1 ≠ q.1 := by
  refine ⟨fun p hp => ?_, fun p hp q hq e => ?_⟩
  · rcases List.mem_append.mp hp with hp | hp
    · refine ⟨(hG p hp).2, fun e => ?_, ?_⟩
      · obtain ⟨oL, _, _, ho, _⟩ := F.ns
        have := (hG p hp).1
        rw [e, ho] at this; cases this
      · cases e : h₀.get? p.1 with
        | none => rfl
        | some o =>
          have := (hG p hp).1
          rw [F.keep _ _ e] at this; cases this
    · exact ⟨hk _ _ (N p hp).1, (N p hp).2⟩
  · have := (hG p hp).1
    rw [e, (N q hq).1] at this; cases this
theorem del1 {h₀ h : Heap} {L : Addr} {a b : Addr × Obj} {l : List (Addr × Obj)} (N : News h₀ L h (a :: b :: l)) : News h₀ L h (a :: l) := fun p hp => N p (by
  rcases List.mem_cons.mp hp with rfl | hp
  · exact .head _
  · exact .tail _ (.tail _ hp))
/-- the call's own things among the others -/
theorem readNews {h₀ h : Heap} {L : Addr} {q r1 r2 : Addr × Obj} {G7 G : List (Addr × Obj)} (N7 : News h₀ L h (G7 ++ r1 :: r2 :: G)) (hD7 : q ∈ G7) (hd7 : ∀ p ∈ G7, ∀ q ∈ r1 :: r2 :: G, p.1 ≠ q.1) (hG : ∀ p ∈ G, p.1 ≠ r1.1 ∧ p.1 ≠ r2.1) :
    News h₀ L h (q :: r1 :: r2 :: (G7 ++ G)) ∧ (∀ p ∈ G7 ++ G, p.1 ≠ r1.1 ∧ p.1 ≠ r2.1) ∧ (∀ a o, InG G7 a o → InG (G7 ++ G) a o) ∧ (∀ a o, InG G a o → InG (G7 ++ G) a o) := by
  refine ⟨fun p hp => ?_, fun p hp => ?_, fun _ _ h => List.mem_append_left _ h, fun _ _ h => List.mem_append_right _ h⟩
  · rcases List.mem_cons.mp hp with rfl | hp
    · exact N7 _ (List.mem_append_left _ hD7)
    · rcases List.mem_cons.mp hp with rfl | hp
      · exact N7 _ (List.mem_append_right _ (.head _))
      · rcases List.mem_cons.mp hp with rfl | hp
        · exact N7 _ (List.mem_append_right _ (.tail _ (.head _)))
        · rcases List.mem_append.mp hp with hp | hp
          · exact N7 _ (List.mem_append_left _ hp)
          · exact N7 _ (List.mem_append_right _ (.tail _ (.tail _ hp)))
  · rcases List.mem_append.mp hp with hp | hp
    · exact ⟨hd7 p hp _ (.head _), hd7 p hp _ (.tail _ (.head _))⟩
    · exact hG p hp
theorem setRe {h₀ h : Heap} {L : Addr} {a b c d e f g k : Addr × Obj} {G1 G2 : List (Addr × Obj)} (N : News h₀ L h (d :: a :: b :: c :: e :: f :: g :: k :: (G1 ++ G2))) : News h₀ L h (c :: d :: e :: f :: g :: k :: ((a :: b :: G1) ++ G2)) := fun p hp => N p (by grind)
theorem setEnd {h₀ h : Heap} {L : Addr} {a b c d e : Addr × Obj} {l : List (Addr × Obj)} (N : News h₀ L h (a :: b :: c :: d :: e :: l)) : News h₀ L h (d :: e :: a :: b :: l) := fun p hp => N p (by grind)
theorem meanT_set (cs : List Nat) : meanT (cs.map fun c => [[[c]]]) = cs.map fun c => [c] := by
  induction cs with
  | nil => rfl
  | cons c cs ih => rw [List.map_cons, meanT_cons, ih, prods_one]; rfl
end Mine
theorem Mine.off53 : True := by w_top off; trivial
-- P28_read
namespace Mine
local macro_rules | `(tactic| walk_at "M none") => `(tactic| skip)
local macro_rules | `(tactic| walk_at "ite") => `(tactic| refine Mine.stop ?_)
local macro_rules | `(tactic| walk_at "call builtin:list.append") => `(tactic| refine Mine.stop ?_)
local macro_rules | `(tactic| walk_at "exec If") => `(tactic| ((fail_if_success (have : Mine.NoStop := by assumption)); refine Mine.stop ?_))
local macro_rules | `(tactic| walk_at "eval ListComp") => `(tactic| refine Mine.stop ?_)
local macro_rules | `(tactic| walk_at "M if") => `(tactic| ((try (with_reducible refine Mine.go ?_)); (have ns : Mine.NoStop := ⟨⟩); walk1; clear ns; walk_at "M steps"; walk_at "M go"))
theorem signs_rd : (Str.ofString ".^$*+?{}]#- \n").cps.toList = [46, 94, 36, 42, 43, 63, 123, 125, 93, 35, 45, 32, 10] := by decide +kernel
theorem lit_9 : Str.ofString "?:" = S [63, 58] := by decide
/-- the contract of the reader -/
def ReadAt (w : World) (loose : List Str) (mean : ExcName → Option Value) (mg mb : Str → Option Value) (k : Nat) : Prop :=
  ∀ {dp un : Nat} {fr : List Env} {gd : Option (List Code)} {s : Shared} {Q E : Value → Shared → Prop} {pre x post tx : List Nat} {T : TL} {t ta : Tok}, (hd.heap_39 w.params).In s.heap → Top topProg loose mean mg mb s.heap → dp + k + 3 < recursionLimit →
    Rg k x T → tx = pre ++ (x ++ post) → EndOk post → tx.length ≤ 500000 →
    (∀ h' tk' (D RS : Addr) t G Tss, Kp s.heap h' → (∀ p ∈ G, s.heap.get? p.1 = none ∧ h'.get? p.1 = some p.2) → (D, tupObj #[.ref RS, .int (((pre ++ x).length : Nat) : Int) t]) ∈ G → RowsV (InG G) (Iv (InG G) (2 * k + 1)) (.ref RS) Tss → meanT Tss = T → Q (.ref D) { s with heap := h', toks := tk' }) →
    wpAny (model PySem.Challenge.rw_ev0005_01.row.prog w) (Ar dp un (some fr) gd) (call (.ref 216) [.str (S tx) t, .int (pre.length : Nat) ta]) Q E s
section
variable {w : World} {loose : List Str} {mean : ExcName → Option Value} {mg mb : Str → Option Value}
theorem read_c (k : Nat) : ReadAt w loose mean mg mb k := by
  unfold ReadAt
  induction k with
  | zero =>
    intro dp un fr gd s Q E pre x post tx T t ta X Tp hA hR
    exact hR.elim
  | succ k ih =>
    intro dp un fr gd s Q E pre x post tx T t ta X Tp hA hR htx hpost hlen ret
    revert X; k_fill; intro X
    obtain ⟨rs, hrs, hit, rfl, rfl⟩ := hR
    have hdp : (Ar dp un (some fr) gd).depth = dp := rfl
    walk_at "M enter"
    intro h₁ tk₁ F N
    walk_at "M steps"
    walk_at "M go"
    (with_reducible rename Fr _ _ _ _ => F2); (with_reducible rename News _ _ _ _ => N2)
    rename _ < _ => lRR
    obtain ⟨RS0, RW0, m0, F3, N3, hR0, q1, q2, q3, q4⟩ : ∃ RS0 RW0 m0, Fr s.heap s.heap.objs.size _ m0 ∧ News s.heap s.heap.objs.size _ [(RS0, PySem.W.listOf #[] 0), (RW0, PySem.W.listOf #[] 0)] ∧ @Ne Nat RS0 RW0 ∧
      m0 "text" = some (.str (S tx) t) ∧ m0 "at" = some (.int (pre.length : Nat) ta) ∧ m0 "rows" = some (.ref RS0) ∧ m0 "row" = some (.ref RW0) := ⟨_, _, _, F2, newsSwap fun p hp => N2 p (.tail _ hp), Nat.ne_of_lt (by assumption), rfl, rfl, rfl, rfl⟩
    clear F2 N2
    refine whileJ (fun n s' => ∃ h tk m G rows row c1 c2 RS RW a ta dn cd cur more, s' = { s with heap := h, toks := tk } ∧ Fr s.heap s.heap.objs.size h m ∧ News s.heap s.heap.objs.size h ((RS, PySem.W.listOf (List.toArray rows) c1) :: (RW, PySem.W.listOf (List.toArray row) c2) :: G) ∧
      (∀ p ∈ G, p.1 ≠ RS ∧ p.1 ≠ RW) ∧ @Ne Nat RS RW ∧ Paired (RowV (InG G) (Iv (InG G) (2 * k + 3))) rows dn ∧ Paired (Iv (InG G) (2 * k + 3)) row cd ∧ rows.length ≤ a.length ∧ row.length ≤ a.length ∧
      (∀ r ∈ cur :: more, ∀ i ∈ r, Item (Rg k) i) ∧ tx = a ++ (rowsT (cur :: more) ++ post) ∧ a ++ rowsT (cur :: more) = pre ++ rowsT rs ∧ rowsM rs = dn ++ (cd ++ rowM cur) :: rowsM more ∧ n = (rowsT (cur :: more)).length ∧
      m "text" = some (.str (S tx) t) ∧ m "at" = some (.int (a.length : Nat) ta) ∧ m "rows" = some (.ref RS) ∧ m "row" = some (.ref RW)) ?hE ?_ (rowsT rs).length ?_
    (case hE => passes_own)
    · rintro n s₃ ⟨h, tk, m, G, rows, row, c1, c2, RS, RW, a, ta, dn, cd, cur, more, rfl, F, N, hG, hRR, hrows, hrow, hl1, hl2, hitm, htxa, hpre, htot, hn, m1, m2, m3, m4⟩
      walk_at "M steps"
      walk_at "M go"
      have hend : ∀ tx2, tx = a ++ tx2 → tx2.length = tx.length - a.length ∧ a.length ≤ tx.length := fun tx2 e => by rw [e, List.length_append]; omega
      cases cur with
      | nil =>
        cases more with
        | nil =>
          rcases hpost with rfl | ⟨q, rfl⟩
          · have hal : a.length = tx.length := by rw [htxa]; simp [rowsT, rowT]
            rw [if_neg (by simp; omega)]
            walk_at "M steps"
            (with_reducible rename Fr _ _ _ _ => F6); (with_reducible rename News _ _ _ _ => N6)
            dsimp only
            simp only [rowsT, rowT, List.map_nil, List.flatten_nil, List.append_nil] at hpre
            rw [hpre] at N6
            obtain ⟨G', g1, g2, g3⟩ := finRead N6 hrows hrow
            exact ret _ _ _ _ _ G' (rowsM rs) F6.keep g1 g2 (by rw [htot, show cd ++ rowM [] = cd by simp [rowM]]; exact g3) rfl
          · have hg : tx.getD ((a.length : Nat) : Int).toNat 0 = 41 := by rw [Int.toNat_natCast, htxa]; exact getD_at a q 41
            have hal : a.length + 1 ≤ tx.length := by rw [htxa]; simp; omega
            rw [if_pos (by simp; omega)]
            walk_at "M steps"
            walk_at "M go"
            rw [hg, if_neg (by decide)]
            walk_at "M steps"
            (with_reducible rename Fr _ _ _ _ => F6); (with_reducible rename News _ _ _ _ => N6)
            dsimp only
            simp only [rowsT, rowT, List.map_nil, List.flatten_nil, List.append_nil] at hpre
            rw [hpre] at N6
            obtain ⟨G', g1, g2, g3⟩ := finRead N6 hrows hrow
            exact ret _ _ _ _ _ G' (rowsM rs) F6.keep g1 g2 (by rw [htot, show cd ++ rowM [] = cd by simp [rowM]]; exact g3) rfl
        | cons r1 more =>
          have hg : tx.getD ((a.length : Nat) : Int).toNat 0 = 124 := by rw [Int.toNat_natCast, htxa]; exact getD_at a _ 124
          have hal : a.length + 1 ≤ tx.length := by rw [htxa]; simp [rowsT_two]; omega
          rw [if_pos (by simp; omega)]
          walk_at "M steps"
          walk_at "M go"
          rw [hg, if_pos (by decide)]
          walk_at "M steps"
          walk_at "M if"
          rw [hg, if_pos (by decide)]
          walk_at "M steps"
          walk_at "M go"
          (with_reducible rename Fr _ _ _ _ => F6); (with_reducible rename News _ _ _ _ => N6)
          refine append_head F6 N6 (List.forall_mem_cons.mpr ⟨hRR.symm, fun p hp => (hG p hp).1⟩) (fun h7 F7 N7 => ?_) (hsz := fitL (by omega))
          clear F6 N6
          walk_at "M steps"
          walk_at "M go"
          (with_reducible rename Fr _ _ _ _ => F8); (with_reducible rename News _ _ _ _ => N8); rename _ ∧ _ ∧ AllLt _ G => lD
          dsimp only
          rw [← pushL] at N8
          obtain ⟨RW2, hRW2, hRW3, hRW4, mB, FB, NB, b1, b3, b4, tb, b2⟩ : ∃ RW2, @Ne Nat RS RW2 ∧ @Ne Nat RW RW2 ∧ (∀ p ∈ G, p.1 ≠ RW2) ∧ ∃ mB, Fr s.heap s.heap.objs.size _ mB ∧
              News s.heap s.heap.objs.size _ ((RS, PySem.W.listOf (rows ++ [Value.ref RW]).toArray (c1 + 1)) :: (RW2, PySem.W.listOf #[] 0) :: (RW, PySem.W.listOf row.toArray c2) :: G) ∧ mB "text" = some (.str (S tx) t) ∧ mB "rows" = some (.ref RS) ∧ mB "row" = some (.ref RW2) ∧ ∃ tb, mB "at" = some (.int ((a ++ [124]).length : Nat) tb) :=
            ⟨_, Nat.ne_of_lt lD.1, Nat.ne_of_lt lD.2.1, fun p hp => Nat.ne_of_lt (allLt_to lD.2.2 p hp), _, F8, newsSwap N8, m1, m3, rfl, _, congrArg (fun z => some (Value.int z _)) (by rw [List.length_append]; rfl)⟩
          have hmono : ∀ a o, InG G a o → InG ((RW, PySem.W.listOf (List.toArray row) c2) :: G) a o := fun _ _ h => .tail _ h
          refine ⟨(rowsT (r1 :: more)).length, by rw [hn, rowsT_two]; simp [rowT], _, _, mB, (RW, PySem.W.listOf (List.toArray row) c2) :: G, rows ++ [.ref RW], [], _, _, RS, RW2, a ++ [124], tb, dn ++ [cd], [], r1, more, rfl, FB, NB, ?_, hRW2, ?_, .nil, ?_, Nat.zero_le _, fun r hr => hitm r (.tail _ hr), ?_, ?_, ?_, rfl, b1, b2, b3, b4⟩
          · exact List.forall_mem_cons.mpr ⟨⟨hRR.symm, hRW3⟩, fun p hp => ⟨(hG p hp).1, hRW4 p hp⟩⟩
          · exact (pairedMono (fun _ _ => RowV.mono hmono (Iv.mono hmono _)) hrows).snoc ⟨row, ⟨RW, c2, rfl, .head _⟩, pairedMono (Iv.mono hmono _) hrow⟩
          · simp only [List.length_append, List.length_cons, List.length_nil]; omega
          · rw [htxa, rowsT_two]; simp [rowT]
          · rw [← hpre, rowsT_two]; simp [rowT]
          · rw [htot]; simp [rowM, rowsM]
      | cons i0 cur =>
        obtain ⟨y, U, z, hb, hz, hmk⟩ : ∃ y U z, Base (Rg k) y U ∧ tx = a ++ (y ++ z) ∧ ((i0.1 = y ∧ i0.2 = U ∧ z = rowsT (cur :: more) ++ post) ∨ (i0.1 = y ++ [63] ∧ i0.2 = U ++ [[]] ∧ z = 63 :: (rowsT (cur :: more) ++ post))) := by
          rw [rowsT_cons] at htxa
          rcases hitm _ (.head _) i0 (.head _) with h | ⟨y, U, e1, e2, h⟩
          · exact ⟨i0.1, i0.2, _, h, by rw [htxa, List.append_assoc], .inl ⟨rfl, rfl, rfl⟩⟩
          · exact ⟨y, U, _, h, by rw [htxa, e1]; simp, .inr ⟨e1, e2, rfl⟩⟩
        obtain ⟨c0, yr, hy, hc63, hc41, hc124⟩ := base_hd hb
        have hg : tx.getD ((a.length : Nat) : Int).toNat 0 = c0 := by rw [Int.toNat_natCast, hz, hy]; exact getD_at a _ c0
        have hal : a.length + y.length + z.length = tx.length := by rw [hz]; simp only [List.length_append]; omega
        have hy1 : 1 ≤ y.length := base_one hb
        rw [if_pos (by simp; omega)]
        walk_at "M steps"
        walk_at "M go"
        rw [hg, if_pos (by rw [lit_4]; simpa [S_eq] using hc41)]
        walk_at "M steps"
        walk_at "M if"
        rw [hg, if_neg (by rw [lit_5]; simpa [S_eq] using hc124)]
        walk_at "M steps"
        walk_at "M go"
        (with_reducible rename Fr _ _ _ _ => F6); (with_reducible rename News _ _ _ _ => N6)
        obtain ⟨mS, FS, NS, s1, s2, s3, s4, ts, s5⟩ : ∃ mS, Fr s.heap s.heap.objs.size _ mS ∧ News s.heap s.heap.objs.size _ ((RS, PySem.W.listOf (List.toArray rows) c1) :: (RW, PySem.W.listOf (List.toArray row) c2) :: G) ∧
          mS "text" = some (.str (S tx) t) ∧ mS "at" = some (.int (a.length : Nat) ta) ∧ mS "rows" = some (.ref RS) ∧ mS "row" = some (.ref RW) ∧ ∃ ts, mS "sign" = some (.str (S [c0]) ts) := ⟨_, F6, N6, m1, m2, m3, m4, _, congrArg (fun z => some (Value.str (S [z]) _)) hg⟩
        clear F6 N6
        refine wpAny_mono (Q := fun f s' => f = .next ∧ ∃ h tk m G' iv b tb, s' = { s with heap := h, toks := tk } ∧ Fr s.heap s.heap.objs.size h m ∧ News s.heap s.heap.objs.size h ((RS, PySem.W.listOf (List.toArray rows) c1) :: (RW, PySem.W.listOf (List.toArray row) c2) :: G') ∧
          (∀ p ∈ G', p.1 ≠ RS ∧ p.1 ≠ RW) ∧ (∀ a o, InG G a o → InG G' a o) ∧ Iv (InG G') (2 * k + 2) iv U ∧ b + 1 = (a ++ y).length ∧
          m "text" = some (.str (S tx) t) ∧ m "at" = some (.int (b : Nat) tb) ∧ m "rows" = some (.ref RS) ∧ m "row" = some (.ref RW) ∧ m "item" = some iv) ?_ (fun f s' hf => ?_) (fun _ _ z => z)
        · have hU : U ≠ [] := hb.ne
          cases hb with
          | one c =>
            by_cases hc : c ∈ escSigns
            · have e0 : escC c = [92, c] := by rw [escC, if_pos hc]
              rw [e0] at hy hz hal hmk hy1 ⊢
              obtain ⟨rfl, rfl⟩ : c0 = 92 ∧ yr = [c] := by simpa [eq_comm] using hy
              simp only [List.length_cons, List.length_nil] at hal
              have hg1 : tx.getD ((a.length : Nat) + 1 : Int).toNat 0 = c := by
                rw [show ((a.length : Nat) + 1 : Int).toNat = a.length + 1 by omega, hz]
                exact getD_at1 a _ _ _
              walk_at "M if"
              rw [if_neg (by decide)]
              walk_at "M steps"
              walk_at "M if"
              rw [if_neg (by decide)]
              walk_at "M steps"
              walk_at "M if"
              rw [if_pos (by decide)]
              walk_at "M steps"
              walk_at "M go"
              (with_reducible rename Fr _ _ _ _ => F6); (with_reducible rename News _ _ _ _ => N6)
              rw [hg1] at N6
              rename _ ∧ _ ∧ AllLt _ G => lD
              dsimp only
              exact ⟨rfl, _, _, _, _ :: G, _, a.length + 1, _, rfl, F6, dn2 N6, List.forall_mem_cons.mpr ⟨⟨Nat.ne_of_gt lD.1, Nat.ne_of_gt lD.2.1⟩, hG⟩, fun _ _ h => .tail _ h, ⟨by simp, .inl ⟨c, _, ⟨_, _, rfl, .head _⟩, rfl⟩⟩, by simp, s1, congrArg (fun z => some (Value.int z _)) (by omega), s3, s4, rfl⟩
            · have e0 : escC c = [c] := by rw [escC, if_neg hc]
              rw [e0] at hy hz hal hmk hy1 ⊢
              obtain ⟨rfl, rfl⟩ : c = c0 ∧ [] = yr := by simpa using hy
              have hno : ∀ d ∈ escSigns, c ≠ d := fun d hd e => hc (e ▸ hd)
              have hrd : c ∉ [46, 94, 36, 42, 43, 63, 123, 125, 93, 35, 45, 32, 10] := fun e => hc ((by decide : ∀ d ∈ [46, 94, 36, 42, 43, 63, 123, 125, 93, 35, 45, 32, 10], d ∈ escSigns) c e)
              walk_at "M if"
              rw [if_neg (by rw [lit_3]; simpa [S_eq] using hno 40 (by decide))]
              walk_at "M steps"
              walk_at "M if"
              rw [if_neg (by rw [lit_1]; simpa [S_eq] using hno 91 (by decide))]
              walk_at "M steps"
              walk_at "M if"
              rw [if_neg (by rw [lit_7]; simpa [S_eq] using hno 92 (by decide))]
              walk_at "M steps"
              walk_at "M if"
              rw [if_neg (by
                rw [noneOne, signs_rd]
                simpa using hrd)]
              walk_at "M steps"
              walk_at "M go"
              (with_reducible rename Fr _ _ _ _ => F6); (with_reducible rename News _ _ _ _ => N6)
              rename _ ∧ _ ∧ AllLt _ G => lD
              dsimp only
              exact ⟨rfl, _, _, _, _ :: G, _, a.length, _, rfl, F6, dn2 N6, List.forall_mem_cons.mpr ⟨⟨Nat.ne_of_gt lD.1, Nat.ne_of_gt lD.2.1⟩, hG⟩, fun _ _ h => .tail _ h, ⟨by simp, .inl ⟨c, _, ⟨_, _, rfl, .head _⟩, rfl⟩⟩, by simp, s1, s2, s3, s4, rfl⟩
          | @grp x T h =>
            obtain ⟨rfl, rfl⟩ : 40 = c0 ∧ x ++ [41] = yr := by simpa using hy
            walk_at "M if"
            rw [if_pos (by decide)]
            walk_at "M steps"
            walk_at "M if"
            have hp2 : EndOk (41 :: z) := .inr ⟨z, rfl⟩
            have htx2 : tx = (a ++ [40]) ++ (x ++ 41 :: z) := by rw [hz]; simp
            have hcut : List.take ((a.length : Int) + 1 + 2 - (a.length + 1)).toNat (List.drop ((a.length : Int) + 1).toNat tx) = (x ++ 41 :: z).take 2 := by
              rw [show ((a.length : Int) + 1 + 2 - (a.length + 1)).toNat = 2 by omega, show ((a.length : Int) + 1).toNat = (a ++ [40]).length by rw [List.length_append, List.length_cons, List.length_nil]; omega, htx2, List.drop_left]
            have hno : (x ++ 41 :: z).take 2 ≠ [63, 58] := fun e => by
              have := rg_hd h hp2
              cases h9 : x ++ 41 :: z with
              | nil => rw [h9] at e; cases e
              | cons c r => rw [h9] at e this; simp at e this; exact this e.1
            rw [hcut, if_neg (by rw [lit_9]; simpa [S_eq] using hno)]
            walk_at "M steps"
            walk_at "M go"
            (with_reducible rename Fr _ _ _ _ => F6); (with_reducible rename News _ _ _ _ => N6)
            refine ⟨by k_in, ?_⟩
            rw [show (a.length : Int) + 1 = (((a ++ [40]).length : Nat) : Int) by rw [List.length_append, List.length_cons, List.length_nil]; omega]
            refine ih (pre := a ++ [40]) (x := x) (post := 41 :: z) (X.keeps F6.keep) (Tp.keeps F6.keep) (by omega) h htx2 hp2 hlen fun h7 tk7 D7 RS7 t7 G7 Tss hk7 hG7 hD7 hR7 hT7 => ?_
            obtain ⟨F7, _⟩ := frK F6 N6 hk7
            obtain ⟨N7, hd7⟩ := newsAll F6 N6 hk7 hG7
            obtain ⟨N8, hG8, hm7, hm8⟩ := readNews N7 hD7 hd7 hG
            clear F6 N6 N7
            walk_at "M steps"
            walk_at "M go"
            (with_reducible rename Fr _ _ _ _ => F9); (with_reducible rename News _ _ _ _ => N9)
            rename _ ∧ _ ∧ _ ∧ AllLt _ _ => lD
            dsimp only
            exact ⟨rfl, _, _, _, _ :: (G7 ++ G), _, (a ++ [40] ++ x).length, _, rfl, F9, dn2 (del1 N9), List.forall_mem_cons.mpr ⟨⟨Nat.ne_of_gt lD.2.1, Nat.ne_of_gt lD.2.2.1⟩, hG8⟩, fun _ _ h => .tail _ (hm8 _ _ h),
              ⟨hU, .inr (.inl ⟨.ref RS7, Tss, ⟨_, _, rfl, .head _⟩, hR7.mono (fun _ _ h => .tail _ (hm7 _ _ h)) (Iv.mono (fun _ _ h => .tail _ (hm7 _ _ h)) _), hT7.symm⟩)⟩, by simp only [List.length_append, List.length_cons, List.length_nil]; omega, s1, rfl, s3, s4, rfl⟩
          | @ngr x T h =>
            obtain ⟨rfl, rfl⟩ : 40 = c0 ∧ 63 :: 58 :: (x ++ [41]) = yr := by simpa using hy
            walk_at "M if"
            rw [if_pos (by decide)]
            walk_at "M steps"
            walk_at "M if"
            have hp2 : EndOk (41 :: z) := .inr ⟨z, rfl⟩
            have htx1 : tx = (a ++ [40]) ++ (63 :: 58 :: (x ++ 41 :: z)) := by rw [hz]; simp
            have htx2 : tx = (a ++ [40, 63, 58]) ++ (x ++ 41 :: z) := by rw [hz]; simp
            have hcut : List.take ((a.length : Int) + 1 + 2 - (a.length + 1)).toNat (List.drop ((a.length : Int) + 1).toNat tx) = [63, 58] := by
              rw [show ((a.length : Int) + 1 + 2 - (a.length + 1)).toNat = 2 by omega, show ((a.length : Int) + 1).toNat = (a ++ [40]).length by rw [List.length_append, List.length_cons, List.length_nil]; omega, htx1, List.drop_left]
              rfl
            rw [hcut, if_pos (by rw [lit_9]; simp)]
            walk_at "M steps"
            walk_at "M go"
            (with_reducible rename Fr _ _ _ _ => F6); (with_reducible rename News _ _ _ _ => N6)
            refine ⟨by k_in, ?_⟩
            rw [show (a.length : Int) + 1 + 2 = (((a ++ [40, 63, 58]).length : Nat) : Int) by rw [List.length_append, List.length_cons, List.length_cons, List.length_cons, List.length_nil]; omega]
            refine ih (pre := a ++ [40, 63, 58]) (x := x) (post := 41 :: z) (X.keeps F6.keep) (Tp.keeps F6.keep) (by omega) h htx2 hp2 hlen fun h7 tk7 D7 RS7 t7 G7 Tss hk7 hG7 hD7 hR7 hT7 => ?_
            obtain ⟨F7, _⟩ := frK F6 N6 hk7
            obtain ⟨N7, hd7⟩ := newsAll F6 N6 hk7 hG7
            obtain ⟨N8, hG8, hm7, hm8⟩ := readNews N7 hD7 hd7 hG
            clear F6 N6 N7
            walk_at "M steps"
            walk_at "M go"
            (with_reducible rename Fr _ _ _ _ => F9); (with_reducible rename News _ _ _ _ => N9)
            rename _ ∧ _ ∧ _ ∧ AllLt _ _ => lD
            dsimp only
            exact ⟨rfl, _, _, _, _ :: (G7 ++ G), _, (a ++ [40, 63, 58] ++ x).length, _, rfl, F9, dn2 (del1 N9), List.forall_mem_cons.mpr ⟨⟨Nat.ne_of_gt lD.2.1, Nat.ne_of_gt lD.2.2.1⟩, hG8⟩, fun _ _ h => .tail _ (hm8 _ _ h),
              ⟨hU, .inr (.inl ⟨.ref RS7, Tss, ⟨_, _, rfl, .head _⟩, hR7.mono (fun _ _ h => .tail _ (hm7 _ _ h)) (Iv.mono (fun _ _ h => .tail _ (hm7 _ _ h)) _), hT7.symm⟩)⟩, by simp only [List.length_append, List.length_cons, List.length_nil]; omega, s1, rfl, s3, s4, rfl⟩
          | set cs hcs =>
            obtain ⟨rfl, rfl⟩ : 91 = c0 ∧ cs.flatMap chC ++ [93] = yr := by simpa using hy
            walk_at "M if"
            rw [if_neg (by decide)]
            walk_at "M steps"
            walk_at "M if"
            rw [if_pos (by decide)]
            walk_at "M steps"
            walk_at "M go"
            have htx2 : tx = (a ++ [91]) ++ (cs.flatMap chC ++ 93 :: z) := by rw [hz]; simp
            (with_reducible rename Fr _ _ _ _ => F6); (with_reducible rename News _ _ _ _ => N6)
            refine ⟨by k_in, ?_⟩
            rw [show (a.length : Int) + 1 = (((a ++ [91]).length : Nat) : Int) by rw [List.length_append, List.length_cons, List.length_nil]; omega]
            refine lset_c (pre := a ++ [91]) (cs := cs) (post := z) (X.keeps F6.keep) (Tp.keeps F6.keep) (by omega) htx2 hlen fun h7 tk7 D7 FD7 vs7 c7 t7 hk7 hD7 hFD7 hDF7 gD7 gF7 hvs7 => ?_
            obtain ⟨F7, _⟩ := frK F6 N6 hk7
            obtain ⟨N7, hd7⟩ := newsAll (G := [(D7, tupObj #[.ref FD7, .int (((a ++ [91] ++ cs.flatMap chC).length : Nat) : Int) t7]), (FD7, PySem.W.listOf (List.toArray vs7) c7)]) F6 N6 hk7 (List.forall_mem_cons.mpr ⟨⟨hD7, gD7⟩, List.forall_mem_singleton.mpr ⟨hFD7, gF7⟩⟩)
            simp only [List.cons_append, List.nil_append] at N7
            clear F6 N6
            walk_at "M steps"
            walk_at "M go"
            (with_reducible rename Fr _ _ _ _ => F9); (with_reducible rename News _ _ _ _ => N9)
            obtain ⟨mC, FC, NC, w1, w2, w3, w4, w5⟩ : ∃ mC, Fr s.heap s.heap.objs.size _ mC ∧ News s.heap s.heap.objs.size _ ((FD7, PySem.W.listOf (List.toArray vs7) c7) :: (RS, PySem.W.listOf (List.toArray rows) c1) :: (RW, PySem.W.listOf (List.toArray row) c2) :: G) ∧
              mC "text" = some (.str (S tx) t) ∧ mC "at" = some (.int (((a ++ [91] ++ cs.flatMap chC).length : Nat) : Int) t7) ∧ mC "rows" = some (.ref RS) ∧ mC "row" = some (.ref RW) ∧ mC "letters" = some (.ref FD7) := ⟨_, F9, fun p hp => N9 p (.tail _ hp), s1, rfl, s3, s4, rfl⟩
            clear F9 N9
            with_reducible refine' compJ (L := s.heap.objs.size) ?c0 ?c1 ?c2 ?c3 ?c4 ?_ ?c7
            (case c0 => exact rfl); (case c1 => exact rfl); (case c2 => decide +kernel); (case c3 => exact rfl); (case c4 => decide +kernel); (case c7 => intro _; rfl)
            walk_at "M steps"
            refine iterL FC NC (isL_news NC (.head _)) fun I h₂ F2 N2 lI hk2 => ?_
            refine ⟨I, _, _, _, rfl, F2, N2, fun Dc C oL h tk F3 N3 hns hk3 lD hLD hDC => ?_⟩
            dsimp only
            have hIL : @Ne Nat I s.heap.objs.size := (N2 _ (.head _)).2.1
            have hID : @LT.lt Nat _ I Dc := lD _ (.head _)
            have hLD2 : @LT.lt Nat _ s.heap.objs.size Dc := hLD
            simp only [List.forall_mem_cons] at lI
            obtain ⟨lI1, lI2, lI3, lI4⟩ : @LT.lt Nat _ FD7 I ∧ @LT.lt Nat _ RS I ∧ @LT.lt Nat _ RW I ∧ ∀ p ∈ G, @LT.lt Nat _ p.1 I := lI
            have hhd : ∀ rsl c GC, (∀ p ∈ GC, @LT.lt Nat _ Dc p.1) → ∀ p ∈ (Dc, PySem.W.listOf (List.toArray rsl) c) :: (s.heap.objs.size, oL) :: (FD7, PySem.W.listOf vs7.toArray c7) :: (RS, PySem.W.listOf (List.toArray rows) c1) :: (RW, PySem.W.listOf (List.toArray row) c2) :: (GC ++ G), p.1 ≠ I := by
              intro rsl c GC hGC
              simp only [List.forall_mem_cons]
              refine ⟨neN (by (try dsimp only); omega), hIL.symm, neN (by (try dsimp only); omega), neN (by (try dsimp only); omega), neN (by (try dsimp only); omega), fun p hp => ?_⟩
              rcases List.mem_append.mp hp with hp | hp
              · have := hGC p hp; exact neN (by omega)
              · have := lI4 p hp; exact neN (by omega)
            have hLF : @Ne Nat FD7 s.heap.objs.size := (NC _ (.head _)).2.1
            have hvl : vs7.length = cs.length := by rw [strsLen hvs7, List.length_map]
            have hcl : cs.length ≤ 500000 := by
              have h2 := flat_ge cs
              have h4 : (cs.flatMap chC).length ≤ tx.length := by rw [htx2]; simp only [List.length_append]; omega
              omega
            refine ⟨cs.length, fun i s' => ∃ h tk mX rsl c GC, s' = { s with heap := h, toks := tk } ∧ Fr s.heap C h mX ∧ News s.heap C h ((I, itObj FD7 i) :: (Dc, PySem.W.listOf (List.toArray rsl) c) :: (s.heap.objs.size, oL) :: (FD7, PySem.W.listOf vs7.toArray c7) :: (RS, PySem.W.listOf (List.toArray rows) c1) :: (RW, PySem.W.listOf (List.toArray row) c2) :: (GC ++ G)) ∧
              (∀ p ∈ GC, @LT.lt Nat _ Dc p.1) ∧ Paired (RowV (InG GC) (Iv (InG GC) 1)) rsl ((cs.take i).map fun c => [[[c]]]),
              ⟨h, tk, _, [], 0, [], rfl, F3, ?_, (fun _ h => nomatch h), .nil⟩, wpAny_pyIter_listiter ⟨_, N3.get (.tail _ (.tail _ (.head _))), rfl, rfl⟩ ⟨rfl, rfl⟩, ?_, ?_⟩
            · exact mv2 N3
            · rintro i s₃ hlt ⟨h, tk, mX, rsl, c, GC, rfl, F, N, hGC, hrsl⟩
              clear F2 N2 F3 N3
              have hrl : rsl.length = i := by rw [hrsl.length, List.length_map, List.length_take]; omega
              obtain ⟨tv, hv⟩ := strsAre_at hvs7 (i := i) (y := S [cs[i]]) (by rw [List.getElem?_map, List.getElem?_eq_getElem hlt]; rfl)
              refine nextL F N (hhd _ _ _ hGC) (isL_news N (.tail _ (.tail _ (.tail _ (.head _))))) (by simpa using hv) fun h₄ F4 N4 hk4 => ⟨_, rfl, ?_⟩
              clear F N
              refine assignX F4 N4 (by decide +kernel) rfl fun h₅ tk₅ F5 N5 hk5 => ?_
              clear F4 N4
              walk_at "M steps"
              walk_at "M go"
              (with_reducible rename Fr _ _ _ _ => F6); (with_reducible rename News _ _ _ _ => N6)
              rename _ ∧ _ ∧ _ ∧ _ ∧ _ ∧ _ ∧ AllLt _ _ => lT
              rename _ ∧ _ ∧ _ ∧ _ ∧ _ ∧ _ ∧ _ ∧ AllLt _ _ => lLT
              refine append_head F6 (mv3 N6) ?_ (fun h7 F7 N7 => ?_) (hsz := fitL (by omega))
              · simp only [List.forall_mem_cons]
                refine ⟨neN (by (try dsimp only); omega), neN (by (try dsimp only); omega), neN (by (try dsimp only); omega), neN (by (try dsimp only); omega), neN (by (try dsimp only); omega), neN (by (try dsimp only); omega), neN (by (try dsimp only); omega), fun p hp => ?_⟩
                rcases List.mem_append.mp hp with hp | hp
                · have := hGC p hp; exact neN (by omega)
                · have := lI4 p hp; exact neN (by omega)
              · rw [← pushL] at N7
                refine ⟨h7, _, _, rsl ++ [_], _, _, rfl, F7, setRe N7, ?_, ?_⟩
                · simp only [List.forall_mem_cons]
                  exact ⟨by omega, by omega, hGC⟩
                · rw [List.take_succ_eq_append_getElem hlt, List.map_append]
                  refine (pairedMono (fun _ _ => RowV.mono (fun _ _ h => .tail _ (.tail _ h)) (Iv.mono (fun _ _ h => .tail _ (.tail _ h)) _)) hrsl).snoc ⟨[_], ⟨_, _, rfl, .head _⟩, .cons ⟨by simp, .inl ⟨cs[i], _, ⟨_, _, rfl, .tail _ (.head _)⟩, rfl⟩⟩ .nil⟩
            · rintro s₃ ⟨h, tk, mX, rsl, c, GC, rfl, F, N, hGC, hrsl⟩
              have hLo := (N3 _ (.tail _ (.head _))).1
              refine nextL_end rfl F N (hhd _ _ _ hGC) (isL_news N (.tail _ (.tail _ (.tail _ (.head _))))) (by simp; omega) fun h₄ F4 N4 hk4 => ⟨rfl, _, F4.ns, fun h₅ hs5 => ?_⟩
              obtain ⟨F5, N5⟩ := compOut F4 (newsSwap N4) (nsAt hns hLo (N4 _ (.tail _ (.head _))).1) (Nat.le_refl _) (by
                simp only [List.forall_mem_cons]
                refine ⟨neN (by (try dsimp only); omega), hLF, (NC _ (.tail _ (.head _))).2.1, (NC _ (.tail _ (.tail _ (.head _)))).2.1, fun p hp => ?_⟩
                rcases List.mem_append.mp hp with hp | hp
                · have := hGC p hp; exact neN (by omega)
                · exact (NC _ (.tail _ (.tail _ (.tail _ hp)))).2.1) hs5
              clear F N F4 N4 hns F2 N2 F3 N3
              walk_at "M steps"
              walk_at "M go"
              (with_reducible rename Fr _ _ _ _ => F6); (with_reducible rename News _ _ _ _ => N6)
              rename _ ∧ _ ∧ _ ∧ _ ∧ AllLt _ _ => lT
              dsimp only
              rw [List.take_length] at hrsl
              have hm : ∀ q1 q2, ∀ a o, InG GC a o → InG (q1 :: q2 :: (GC ++ G)) a o := fun _ _ _ _ h => .tail _ (.tail _ (List.mem_append_left _ h))
              refine ⟨rfl, _, _, _, _ :: _ :: (GC ++ G), _, (a ++ [91] ++ cs.flatMap chC).length, _, rfl, F6, setEnd N6, ?_, fun _ _ h => .tail _ (.tail _ (List.mem_append_right _ h)),
                ⟨hU, .inr (.inl ⟨.ref Dc, cs.map fun c => [[[c]]], ⟨_, _, rfl, .head _⟩, ⟨rsl, ⟨_, _, rfl, .tail _ (.head _)⟩, pairedMono (fun _ _ => RowV.mono (hm _ _) fun _ _ h => Iv.mono (hm _ _) _ _ _ (Iv.le (by omega) h)) hrsl⟩, (meanT_set cs).symm⟩)⟩, by simp only [List.length_append, List.length_cons, List.length_nil]; omega, w1, (by exact w2), w3, w4, rfl⟩
              simp only [List.forall_mem_cons]
              refine ⟨⟨neN (by (try dsimp only); omega), neN (by (try dsimp only); omega)⟩, ⟨neN (by (try dsimp only); omega), neN (by (try dsimp only); omega)⟩, fun p hp => ?_⟩
              rcases List.mem_append.mp hp with hp | hp
              · have := hGC p hp; exact ⟨neN (by omega), neN (by omega)⟩
              · exact hG p hp
        · obtain ⟨rfl, h, tk, m, G', iv, b, tb, rfl, F, N, hG', hGG, hiv, hb1, m1, m2, m3, m4, m5⟩ := hf
          dsimp only
          rw [List.length_append] at hb1
          walk_at "M steps"
          walk_at "M if"
          have hcut : List.take ((b : Int) + 1 + 1 - (b + 1)).toNat (List.drop ((b : Int) + 1).toNat tx) = z.take 1 := by
            rw [show ((b : Int) + 1 + 1 - (b + 1)).toNat = 1 by omega, show ((b : Int) + 1).toNat = (a ++ y).length by rw [List.length_append]; omega, hz, ← List.append_assoc, List.drop_left]
          have hrest : ∀ r ∈ cur :: more, ∀ i ∈ r, Item (Rg k) i := fun r hr i hi => by
            rcases List.mem_cons.mp hr with rfl | hr
            · exact hitm _ (.head _) i (.tail _ hi)
            · exact hitm r (.tail _ hr) i hi
          have hcont : ∀ a2, a2 = a ++ i0.1 → tx = a2 ++ (rowsT (cur :: more) ++ post) ∧ a2 ++ rowsT (cur :: more) = pre ++ rowsT rs ∧ rowsM rs = dn ++ ((cd ++ [i0.2]) ++ rowM cur) :: rowsM more := fun a2 e => by
            refine ⟨by rw [htxa, e, rowsT_cons]; simp, by rw [← hpre, e, rowsT_cons]; simp, by rw [htot]; simp [rowM]⟩
          rcases hmk with ⟨e1, e2, rfl⟩ | ⟨e1, e2, rfl⟩
          · have hz1 : (rowsT (cur :: more) ++ post).take 1 ≠ [63] := fun e => by
              have := rows_hd (R := Rg k) (hrest _ (.head _)) hpost (more := more)
              cases h : rowsT (cur :: more) ++ post with
              | nil => rw [h] at e; cases e
              | cons c r => rw [h] at e this; simp at e this; exact this e
            rw [hcut, if_neg (by rw [lit_6]; simpa [S_eq] using hz1)]
            walk_at "M steps"
            walk_at "M go"
            (with_reducible rename Fr _ _ _ _ => F6); (with_reducible rename News _ _ _ _ => N6)
            refine append_second F6 N6 hRR (fun p hp => (hG' p hp).2) (fun h7 F7 N7 => ?_) (hsz := fitL (by omega))
            clear F6 N6
            walk_at "M steps"
            walk_at "M go"
            (with_reducible rename Fr _ _ _ _ => F8); (with_reducible rename News _ _ _ _ => N8)
            dsimp only
            rw [← pushL] at N8
            obtain ⟨k1, k2, k3⟩ := hcont (a ++ i0.1) rfl
            have hi0 : i0.1.length = y.length := by rw [e1]
            obtain ⟨mB, FB, b1, b3, b4, tb2, b2⟩ : ∃ mB, Fr s.heap s.heap.objs.size _ mB ∧ mB "text" = some (.str (S tx) t) ∧ mB "rows" = some (.ref RS) ∧ mB "row" = some (.ref RW) ∧ ∃ tb, mB "at" = some (.int ((a ++ i0.1).length : Nat) tb) :=
              ⟨_, F8, m1, m3, m4, _, congrArg (fun z => some (Value.int z _)) (by rw [List.length_append]; omega)⟩
            refine ⟨(rowsT (cur :: more)).length, by rw [hn, rowsT_cons, List.length_append]; omega, _, _, mB, G', rows, row ++ [iv], _, _, RS, RW, a ++ i0.1, tb2, dn, cd ++ [i0.2], cur, more, rfl, FB, N8, hG', hRR, pairedMono (fun _ _ => RowV.mono hGG (Iv.mono hGG _)) hrows, (pairedMono (Iv.mono hGG _) hrow).snoc (e2 ▸ Iv.up _ _ _ hiv), ?_, ?_, hrest, k1, k2, k3, rfl, b1, b2, b3, b4⟩
            · simp only [List.length_append]; omega
            · simp only [List.length_append, List.length_cons, List.length_nil]; omega
          · rw [hcut, if_pos (by rw [lit_6]; rfl)]
            walk_at "M steps"
            walk_at "M go"
            (with_reducible rename Fr _ _ _ _ => F6); (with_reducible rename News _ _ _ _ => N6)
            rename _ ∧ _ ∧ AllLt _ G' => lD
            refine append_second F6 (dn2 N6) hRR (List.forall_mem_cons.mpr ⟨Nat.ne_of_gt lD.2.1, fun p hp => (hG' p hp).2⟩) (fun h7 F7 N7 => ?_) (hsz := fitL (by omega))
            clear F6 N6
            walk_at "M steps"
            walk_at "M go"
            (with_reducible rename Fr _ _ _ _ => F8); (with_reducible rename News _ _ _ _ => N8)
            dsimp only
            rw [← pushL] at N8
            obtain ⟨k1, k2, k3⟩ := hcont (a ++ i0.1) rfl
            have hi0 : i0.1.length = y.length + 1 := by rw [e1]; simp
            obtain ⟨mB, FB, b1, b3, b4, tb2, b2⟩ : ∃ mB, Fr s.heap s.heap.objs.size _ mB ∧ mB "text" = some (.str (S tx) t) ∧ mB "rows" = some (.ref RS) ∧ mB "row" = some (.ref RW) ∧ ∃ tb, mB "at" = some (.int ((a ++ i0.1).length : Nat) tb) :=
              ⟨_, F8, m1, m3, m4, _, congrArg (fun z => some (Value.int z _)) (by rw [List.length_append]; omega)⟩
            have hmono : ∀ p, ∀ a o, InG G' a o → InG (p :: G') a o := fun _ _ _ h => .tail _ h
            refine ⟨(rowsT (cur :: more)).length, by rw [hn, rowsT_cons, List.length_append]; omega, _, _, mB, _ :: G', rows, row ++ [_], _, _, RS, RW, a ++ i0.1, tb2, dn, cd ++ [i0.2], cur, more, rfl, FB, N8, List.forall_mem_cons.mpr ⟨⟨Nat.ne_of_gt lD.1, Nat.ne_of_gt lD.2.1⟩, hG'⟩, hRR, pairedMono (fun _ _ h => (h.mono hGG (Iv.mono hGG _)).mono (hmono _) (Iv.mono (hmono _) _)) hrows, (pairedMono (fun _ _ h => Iv.mono (hmono _) _ _ _ (Iv.mono hGG _ _ _ h)) hrow).snoc ?_, ?_, ?_, hrest, k1, k2, k3, rfl, b1, b2, b3, b4⟩
            · rw [e2]
              exact ⟨by simp, .inr (.inr ⟨iv, U, ⟨_, _, rfl, .head _⟩, Iv.mono (hmono _) _ _ _ hiv, rfl⟩)⟩
            · simp only [List.length_append]; omega
            · simp only [List.length_append, List.length_cons, List.length_nil]; omega
    · cases rs with
      | nil => exact absurd rfl hrs
      | cons r0 more0 => exact ⟨_, _, _, [], [], [], 0, 0, RS0, RW0, pre, ta, [], [], r0, more0, rfl, F3, N3, (fun _ h => nomatch h), hR0, .nil, .nil, Nat.zero_le _, Nat.zero_le _, hit, htx, rfl, rfl, rfl, q1, q2, q3, q4⟩
end
end Mine
theorem Mine.off54 : True := by w_top off; trivial
-- P29_texts
namespace Mine
local macro_rules | `(tactic| walk_at "M none") => `(tactic| skip)
local macro_rules | `(tactic| walk_at "ite") => `(tactic| refine Mine.stop ?_)
local macro_rules | `(tactic| walk_at "call builtin:list.append") => `(tactic| refine Mine.stop ?_)
local macro_rules | `(tactic| walk_at "exec If") => `(tactic| ((fail_if_success (have : Mine.NoStop := by assumption)); refine Mine.stop ?_))
local macro_rules | `(tactic| walk_at "pyIter ref") => `(tactic| refine Mine.stop ?_)
local macro_rules | `(tactic| walk_at "binaryOp Add ref ref") => `(tactic| refine Mine.stop ?_)
local macro_rules | `(tactic| walk_at "M if") => `(tactic| ((try (with_reducible refine Mine.go ?_)); (have ns : Mine.NoStop := ⟨⟩); walk1; clear ns; walk_at "M steps"; walk_at "M go"))
theorem dn2x {h₀ h : Heap} {L : Addr} {a b c : Addr × Obj} {l : List (Addr × Obj)} (N : News h₀ L h (a :: b :: c :: l)) : News h₀ L h (a :: c :: b :: l) := fun p hp => N p (by grind)
theorem prodStep {P U : TL} {a : Nat} (h : a < P.length) : prod (P.take (a + 1)) U = prod (P.take a) U ++ U.map (fun b => P[a] ++ b) := by
  rw [List.take_succ_eq_append_getElem h, prod_app, prod_left_one]
theorem bd_prod {k l : Nat} {P U : TL} {a : Nat} (h : Bd k l (prod P U)) (ha : a < P.length) : Bd k l (prod (P.take (a + 1)) U) := by
  have e : prod P U = prod (P.take (a + 1)) U ++ prod (P.drop (a + 1)) U := by rw [← prod_app, List.take_append_drop]
  rw [e] at h
  exact h.appL
theorem pairedAt {α β : Type} {F : α → β → Prop} {l : List α} {r : List β} (h : Paired F l r) : ∀ {i : Nat} {b : β}, r[i]? = some b → ∃ a, l[i]? = some a ∧ F a b := by
  induction h with
  | nil => intro i b e; simp at e
  | cons h _ ih =>
    intro i b e
    cases i with
    | zero => simp at e; exact ⟨_, rfl, e ▸ h⟩
    | succ i => exact ih (by simpa using e)
theorem bd_row {k l : Nat} {Tss : List (List TL)} {i : Nat} (h : Bd k l (meanT Tss)) (hi : i < Tss.length) : Bd k l (prods Tss[i]) ∧ Bd k l (meanT (Tss.take i)) ∧ meanT (Tss.take (i + 1)) = meanT (Tss.take i) ++ prods Tss[i] ∧ Bd k l (meanT (Tss.take (i + 1))) := by
  have e : meanT (Tss.take (i + 1)) = meanT (Tss.take i) ++ prods Tss[i] := by
    rw [List.take_succ_eq_append_getElem hi, meanT_app]; simp [meanT]
  have h2 : Bd k l (meanT (Tss.take (i + 1))) := by
    have e2 : meanT Tss = meanT (Tss.take (i + 1)) ++ meanT (Tss.drop (i + 1)) := by rw [← meanT_app, List.take_append_drop]
    rw [e2] at h
    exact h.appL
  exact ⟨(e ▸ h2).appR, (e ▸ h2).appL, e, h2⟩
theorem bd_item {k l : Nat} {Us : List TL} {j : Nat} (h : Bd k l (prods Us)) (hne : ∀ U ∈ Us, U ≠ []) (hj : j < Us.length) : Bd k l (prods (Us.take j)) ∧ Bd k l Us[j] ∧ prods (Us.take (j + 1)) = prod (prods (Us.take j)) Us[j] ∧ Bd k l (prods (Us.take (j + 1))) := by
  have e : prods (Us.take (j + 1)) = prod (prods (Us.take j)) Us[j] := by
    rw [List.take_succ_eq_append_getElem hj, prods_append, prods_one]
  have hU := hne _ (List.getElem_mem hj)
  have hd : prods (Us.drop (j + 1)) ≠ [] := prods_ne fun T hT => hne T (List.mem_of_mem_drop hT)
  have ht : prods (Us.take j) ≠ [] := prods_ne fun T hT => hne T (List.mem_of_mem_take hT)
  have h2 : Bd k l (prods (Us.take (j + 1))) := by
    have e2 : prods Us = prod (prods (Us.take (j + 1))) (prods (Us.drop (j + 1))) := by rw [← prods_append, List.take_append_drop]
    rw [e2] at h
    exact h.left hd
  exact ⟨(e ▸ h2).left hU, (e ▸ h2).right ht, e, h2⟩
section
variable {prog : Program} {w : World} {A : Around} {E : Value → Shared → Prop} {s : Shared}
/-- a loop by an own invariant of the whole state, whatever its target -/
theorem forT {env : Env} {target iter : Expr} {pos : Pos} {body : List Stmt} {Q : Flow → Shared → Prop}
    (h : wpAny (model prog w) A (eval iter env) (fun xv s₁ => wpAny (model prog w) A (pyIter xv) (fun it s₂ => ∃ (I : Addr) (n : Nat) (J : Nat → Shared → Prop), it = .ref I ∧ J 0 s₂ ∧
      (∀ i s₃, i < n → J i s₃ → wpAny (model prog w) A (pyNext (.ref I)) (fun r s₄ => ∃ v, r = some v ∧ wpAny (model prog w) A (letOwnedTupleGo target (.ref I) v) (fun _ s₅ => wpAny (model prog w) A (assign target env v) (fun _ s₅ => wpAny (model prog w) A (execs body env) (fun f s₆ => match f with
        | .next => J (i + 1) s₆ | .cont => J (i + 1) s₆ | .brk => Q .next s₆ | .ret v => Q (.ret v) s₆) E s₅) E s₅) E s₄) E s₃) ∧
      (∀ s₃, J n s₃ → wpAny (model prog w) A (pyNext (.ref I)) (fun r s₄ => r = none ∧ Q .next s₄) E s₃)) E s₁) E s)
    (hs : ∀ x, foldedSetIterable iter env x = pure x) (hE : PassesOwn (model prog w) A env E) :
    wpAny (model prog w) A (exec (.For target iter body [] pos) env) Q E s := by
  refine wpAny_For (wpAny_mono h (fun xv s₁ h₁ => wpAny_mono h₁ (fun it s₂ h₂ => ?_) fun _ _ z => z) fun _ _ z => z) hs
  obtain ⟨I, n, J, rfl, h0, step, done⟩ := h₂
  refine codeAny_forLoop_any (R := fun r s' => match r with | .ok f => Q f s' | .error e => cameBackBy (model prog w) A env E e s') (fun k s' => ∃ i, i ≤ n ∧ k = n + 1 - i ∧ J i s') ?_ (n + 1) ⟨0, Nat.zero_le _, rfl, h0⟩
  rintro k s' ⟨i, hi, rfl, hJ⟩
  by_cases hlt : i < n
  · refine wpAny_passesOwn hE (wpAny_mono (step i s' hlt hJ) (fun r s₄ hr => ?_) fun _ _ z => z)
    obtain ⟨v, rfl, hv⟩ := hr
    refine wpAny_passesOwn hE (wpAny_mono hv (fun _ s₅ h₅ => ?_) fun _ _ z => z)
    refine wpAny_passesOwn hE (wpAny_mono h₅ (fun _ s₅ h₅ => ?_) fun _ _ z => z)
    refine wpAny_passesOwn hE (wpAny_mono h₅ (fun f s₆ h₆ => ?_) fun _ _ z => z)
    cases f with
    | next => exact ⟨n + 1 - (i + 1), by omega, i + 1, hlt, rfl, h₆⟩
    | cont => exact ⟨n + 1 - (i + 1), by omega, i + 1, hlt, rfl, h₆⟩
    | brk => exact h₆
    | ret _ => exact h₆
  · have : i = n := by omega
    subst this
    refine wpAny_passesOwn hE (wpAny_mono (done s' hJ) (fun r s₄ hr => ?_) fun _ _ z => z)
    obtain ⟨rfl, hq⟩ := hr
    exact wpAny_execs_nil hq
end
section
variable {prog : Program} {w : World} {A : Around} {E : Value → Shared → Prop} {s : Shared} {h₀ : Heap} {L a b : Addr} {m : Str → Option Value} {news : List (Addr × Obj)} {vs ws : List Value} {Q : Value → Shared → Prop}
theorem addL (F : Fr h₀ L s.heap m) (N : News h₀ L s.heap news) (ha : s.heap.IsList a vs.toArray) (hb : s.heap.IsList b ws.toArray) (hz : vs.length + ws.length ≤ 1000000)
    (h : ∀ D h', Fr h₀ L h' m → News h₀ L h' ((D, PySem.W.listOf (vs ++ ws).toArray 0) :: news) → (∀ p ∈ news, p.1 < D) → Q (.ref D) { s with heap := h' }) : wpAny (model prog w) A (binaryOp .Add (.ref a) (.ref b)) Q E s :=
  add_lists F N ha hb (fun h' F' N' => h _ h' F' N' fun p hp => Heap.lt_size (N p hp).1) (Nat.le_trans hz (by decide))
end
theorem Iv.tup {P : Lk} : ∀ {n : Nat} {v : Value} {T : TL}, Iv P n v T → ∃ m a k t r, n = m + 1 ∧ v = .ref a ∧ P a (tupObj #[.str k t, r]) ∧ T ≠ [] ∧ ((k = "one" ∧ ∃ c u, r = .str (S [c]) u ∧ T = [[c]]) ∨ (k = "or" ∧ ∃ b Tss, r = .ref b ∧ RowsV P (Iv P m) r Tss ∧ T = meanT Tss) ∨ (k = "maybe" ∧ ∃ U, Iv P m r U ∧ T = U ++ [[]]))
  | 0, _, _, h => h.elim
  | n + 1, _, _, ⟨h0, .inl ⟨c, u, ⟨a, t, e, h⟩, e2⟩⟩ => ⟨n, a, _, t, _, rfl, e, h, h0, .inl ⟨rfl, c, u, rfl, e2⟩⟩
  | n + 1, _, _, ⟨h0, .inr (.inl ⟨rv, Tss, ⟨a, t, e, h⟩, h2, e2⟩)⟩ => ⟨n, a, _, t, _, rfl, e, h, h0, .inr (.inl ⟨rfl, let ⟨_, ⟨b, _, e3, _⟩, _⟩ := h2; ⟨b, Tss, e3, h2, e2⟩⟩)⟩
  | n + 1, _, _, ⟨h0, .inr (.inr ⟨iv, U, ⟨a, t, e, h⟩, h2, e2⟩)⟩ => ⟨n, a, _, t, _, rfl, e, h, h0, .inr (.inr ⟨rfl, U, h2, e2⟩)⟩
theorem iv_ne {P : Lk} {n : Nat} {us : List Value} {Us : List TL} (h : Paired (Iv P n) us Us) : ∀ U ∈ Us, U ≠ [] := by
  induction h with
  | nil => intro _ h; cases h
  | cons h _ ih =>
    intro U hU
    rcases List.mem_cons.mp hU with rfl | hU
    · cases n with
      | zero => exact h.elim
      | succ n => exact h.1
    · exact ih U hU
abbrev Look (h : Heap) : Lk := fun a o => h.get? a = some o
def TextsAt (w : World) (loose : List Str) (mean : ExcName → Option Value) (mg mb : Str → Option Value) (n : Nat) : Prop :=
  ∀ {dp un : Nat} {fr : List Env} {gd : Option (List Code)} {s : Shared} {Q E : Value → Shared → Prop} {l : Addr} {Tss : List (List TL)}, (hd.heap_39 w.params).In s.heap → Top topProg loose mean mg mb s.heap → dp + n + 2 < recursionLimit →
    RowsV (Look s.heap) (Iv (Look s.heap) n) (.ref l) Tss → Bd 10000 10000 (meanT Tss) →
    (∀ h' tk' (D : Addr) vs c, Kp s.heap h' → s.heap.get? D = none → h'.get? D = some (PySem.W.listOf (List.toArray vs) c) → StrsAre vs ((meanT Tss).map S) → Q (.ref D) { s with heap := h', toks := tk' }) →
    wpAny (model PySem.Challenge.rw_ev0005_01.row.prog w) (Ar dp un (some fr) gd) (call (.ref 230) [.ref l]) Q E s
section
variable {w : World} {loose : List Str} {mean : ExcName → Option Value} {mg mb : Str → Option Value}
theorem texts_c (n : Nat) : TextsAt w loose mean mg mb n := by
  unfold TextsAt
  induction n using Nat.strongRecOn with
  | ind n ih =>
    intro dp un fr gd s Q E l Tss X Tp hA hR hB ret
    revert X; k_fill; intro X
    have hdp : (Ar dp un (some fr) gd).depth = dp := rfl
    obtain ⟨vs0, ⟨l0, c0, el, hl0⟩, hrows⟩ := hR
    obtain rfl := Value.ref.inj el
    have hl : s.heap.IsList l vs0.toArray := ⟨_, hl0, rfl, c0, rfl⟩
    walk_at "M enter"
    intro h₁ tk₁ F N
    walk_at "M steps"
    walk_at "M go"
    (with_reducible rename Fr _ _ _ _ => F2); (with_reducible rename News _ _ _ _ => N2)
    obtain ⟨FD0, m0, F3, N3, q1, q2⟩ : ∃ FD m0, Fr s.heap s.heap.objs.size _ m0 ∧ News s.heap s.heap.objs.size _ [(FD, PySem.W.listOf #[] 0)] ∧ m0 "rows" = some (.ref l) ∧ m0 "found" = some (.ref FD) := ⟨_, _, F2, N2, rfl, rfl⟩
    clear F2 N2
    have hlen0 : vs0.length = Tss.length := hrows.length
    refine forJ ?_ ?hs ?ht ?hE
    (case hs => intro _; rfl)
    (case ht => intro _ _; rfl)
    (case hE => passes_own)
    walk_at "M steps"
    walk_at "M go"
    (with_reducible rename Fr _ _ _ _ => F4); (with_reducible rename News _ _ _ _ => N4)
    refine iterL F4 N4 (isL_base F4 hl) fun I h₈ F8 N8 lI hk8 => ?_
    clear F4 N4
    have lI1 : @LT.lt Nat _ FD0 I := lI _ (.head _)
    refine ⟨I, Tss.length, fun i s' => ∃ h tk m FD vs c, s' = { s with heap := h, toks := tk } ∧ Fr s.heap s.heap.objs.size h m ∧ News s.heap s.heap.objs.size h [(I, itObj l i), (FD, PySem.W.listOf (List.toArray vs) c)] ∧ @Ne Nat FD I ∧
      StrsAre vs ((meanT (Tss.take i)).map S) ∧ m "found" = some (.ref FD), rfl, ⟨_, _, m0, FD0, [], 0, rfl, F8, N8, Nat.ne_of_lt lI1, by simpa [meanT] using StrsAre.nil, q2⟩, ?_, ?_⟩
    · rintro i s₃ hi ⟨h, tk, m, FD, vs, c, rfl, F, N, hFI, hvs, m1⟩
      obtain ⟨rv, hrv, us, ⟨ra, rc, rfl, hra⟩, hus⟩ := pairedAt hrows (List.getElem?_eq_getElem hi)
      obtain ⟨b1, b2, b3, b4⟩ := bd_row hB hi
      generalize Tss[i] = Us at *
      refine nextL F N (List.forall_mem_singleton.mpr hFI) (isL_base F hl) (by simpa using hrv) fun h₉ F9 N9 hk9 => ⟨_, rfl, ?_⟩
      clear F N F8 N8
      walk_at "M steps"
      walk_at "M go"
      (with_reducible rename Fr _ _ _ _ => FA); (with_reducible rename News _ _ _ _ => NA); rename _ < _ ∧ _ < _ => lTX
      obtain ⟨TX0, tt0, mA, FB, NB, lTX, a1, a2, a3⟩ : ∃ TX tt mA, Fr s.heap s.heap.objs.size _ mA ∧ News s.heap s.heap.objs.size _ [(TX, PySem.W.listOf #[.str (S []) tt] 0), (I, itObj l (i + 1)), (FD, PySem.W.listOf (List.toArray vs) c)] ∧ (@LT.lt Nat _ I TX ∧ @LT.lt Nat _ FD TX) ∧
        mA "row" = some (.ref ra) ∧ mA "texts" = some (.ref TX) ∧ mA "found" = some (.ref FD) := ⟨_, _, _, FA, by rw [← lit_0]; exact NA, lTX, rfl, rfl, m1⟩
      clear FA NA
      have hune := iv_ne hus
      have hulen : us.length = Us.length := hus.length
      have hlr : s.heap.IsList ra us.toArray := ⟨_, hra, rfl, rc, rfl⟩
      refine forT ?_ ?hs ?hE
      (case hs => intro _; rfl)
      (case hE => passes_own)
      walk_at "M steps"
      walk_at "M go"
      (with_reducible rename Fr _ _ _ _ => FC); (with_reducible rename News _ _ _ _ => NC)
      refine iterL FC NC (isL_base FC hlr) fun I2 h₈ F8 N8 lI2 hk8 => ?_
      clear FC NC
      simp only [List.forall_mem_cons] at lI2
      obtain ⟨lI21, lI22, lI23, _⟩ : @LT.lt Nat _ TX0 I2 ∧ @LT.lt Nat _ I I2 ∧ @LT.lt Nat _ FD I2 ∧ True := ⟨lI2.1, lI2.2.1, lI2.2.2.1, trivial⟩
      refine ⟨I2, Us.length, fun j s' => ∃ h tk m TX tv c2, s' = { s with heap := h, toks := tk } ∧ Fr s.heap s.heap.objs.size h m ∧ News s.heap s.heap.objs.size h [(I2, itObj ra j), (TX, PySem.W.listOf (List.toArray tv) c2), (I, itObj l (i + 1)), (FD, PySem.W.listOf (List.toArray vs) c)] ∧ @Ne Nat TX I2 ∧ @LT.lt Nat _ I TX ∧
        StrsAre tv ((prods (Us.take j)).map S) ∧ m "texts" = some (.ref TX) ∧ m "found" = some (.ref FD), rfl, ⟨_, _, mA, TX0, [.str (S []) tt0], 0, rfl, F8, N8, Nat.ne_of_lt lI21, lTX.1, .cons _ _ .nil, a2, a3⟩, ?_, ?_⟩
      · rintro j s₃ hj ⟨h, tk, m, TX, tv, c2, rfl, F, N, hTI, hTI1, htv, m1, m2⟩
        obtain ⟨v, hv, hiv⟩ := pairedAt hus (List.getElem?_eq_getElem hj)
        obtain ⟨d1, d2, d3, d4⟩ := bd_item b1 hune hj
        rw [d3] at d4
        generalize Us[j] = U at *
        obtain ⟨n', Ta, kk, kt, r, rfl, rfl, hTa, hUne, hkind⟩ := hiv.tup
        refine nextL F N ?_ (isL_base F hlr) (by simpa using hv) fun h₉ F9 N9 hk9 => ⟨_, rfl, ?_⟩
        · simp only [List.forall_mem_cons]
          exact ⟨hTI, neN (by (try dsimp only); omega), neN (by (try dsimp only); omega), fun _ h => nomatch h⟩
        clear F N F8 N8
        refine wpAny_letOwnedTupleGo_listiter ⟨_, N9.get (.head _), rfl, rfl⟩ ?_
        refine unpackN_ F9 N9 (F9.tup ⟨_, hTa, rfl, _, rfl⟩) rfl rfl rfl fun h₁₀ F10 N10 => ?_
        clear F9 N9
        walk_at "M steps"
        walk_at "M go"
        (with_reducible rename Fr _ _ _ _ => FC); (with_reducible rename News _ _ _ _ => NC)
        obtain ⟨mB, FB, e1, e2, e3, e4⟩ : ∃ mB, Fr s.heap s.heap.objs.size _ mB ∧ mB "kind" = some (.str kk kt) ∧ mB "what" = some r ∧ mB "texts" = some (.ref TX) ∧ mB "found" = some (.ref FD) := ⟨_, FC, rfl, rfl, m1, m2⟩
        clear FC
        refine wpAny_mono (Q := fun f s' => f = .next ∧ ∃ h tk m SD sv c3, s' = { s with heap := h, toks := tk } ∧ Fr s.heap s.heap.objs.size h m ∧ News s.heap s.heap.objs.size h [(SD, PySem.W.listOf (List.toArray sv) c3), (I2, itObj ra (j + 1)), (TX, PySem.W.listOf (List.toArray tv) c2), (I, itObj l (i + 1)), (FD, PySem.W.listOf (List.toArray vs) c)] ∧
          StrsAre sv (U.map S) ∧ m "some" = some (.ref SD) ∧ m "texts" = some (.ref TX) ∧ m "found" = some (.ref FD)) ?_ (fun f s' hf => ?_) (fun _ _ z => z)
        · rcases hkind with ⟨rfl, ch, cu, rfl, rfl⟩ | ⟨rfl, rb, Tss2, rfl, hR2, rfl⟩ | ⟨rfl, U2, hiv2, rfl⟩
          · walk_at "M if"
            rw [if_pos (by decide)]
            walk_at "M steps"
            walk_at "M go"
            (with_reducible rename Fr _ _ _ _ => FC); (with_reducible rename News _ _ _ _ => NC)
            dsimp only
            exact ⟨rfl, _, _, _, _, [_], 0, rfl, FC, NC, .cons _ _ .nil, rfl, e3, e4⟩
          · walk_at "M if"
            rw [if_neg (by decide)]
            walk_at "M steps"
            walk_at "M if"
            rw [if_pos (by decide)]
            walk_at "M steps"
            walk_at "M go"
            (with_reducible rename Fr _ _ _ _ => FC); (with_reducible rename News _ _ _ _ => NC)
            refine ⟨by k_in, ?_⟩
            refine ih n' (Nat.lt_succ_self _) (X.keeps FC.keep) (Tp.keeps FC.keep) (by omega) (hR2.mono (fun _ _ e => FC.keep _ _ e) (Iv.mono (fun _ _ e => FC.keep _ _ e) _)) d2 fun h7 tk7 D7 vs7 c7 hk7 hD7 gD7 hvs7 => ?_
            obtain ⟨F7, _⟩ := frK FC NC hk7
            obtain ⟨N7, _⟩ := newsNew FC NC hk7 hD7 gD7
            clear FC NC
            walk_at "M steps"
            walk_at "M go"
            (with_reducible rename Fr _ _ _ _ => F8); (with_reducible rename News _ _ _ _ => N8)
            dsimp only
            exact ⟨rfl, _, _, _, _, vs7, c7, rfl, F8, N8, hvs7, rfl, e3, e4⟩
          · walk_at "M if"
            rw [if_neg (by decide)]
            walk_at "M steps"
            walk_at "M if"
            rw [if_neg (by decide)]
            walk_at "M steps"
            walk_at "M go"
            (with_reducible rename Fr _ _ _ _ => FC); (with_reducible rename News _ _ _ _ => NC)
            refine ⟨by k_in, ?_⟩
            have hm1 : meanT [[U2]] = U2 := by simp [meanT, prods_one]
            refine ih n' (Nat.lt_succ_self _) (Tss := [[U2]]) (X.keeps FC.keep) (Tp.keeps FC.keep) (by omega) ⟨[_], ⟨_, _, rfl, NC.get (.head _)⟩, .cons ⟨[r], ⟨_, _, rfl, NC.get (.tail _ (.head _))⟩, .cons (Iv.mono (fun _ _ e => FC.keep _ _ e) _ _ _ hiv2) .nil⟩ .nil⟩ (by rw [hm1]; exact d2.appL) fun h7 tk7 D7 vs7 c7 hk7 hD7 gD7 hvs7 => ?_
            rw [hm1] at hvs7
            obtain ⟨F7, _⟩ := frK FC NC hk7
            obtain ⟨N7, _⟩ := newsNew FC NC hk7 hD7 gD7
            clear FC NC
            walk_at "M steps"
            walk_at "M go"
            (with_reducible rename Fr _ _ _ _ => F8); (with_reducible rename News _ _ _ _ => N8)
            have hz := strsLen hvs7
            rw [List.length_map] at hz
            refine addL (vs := vs7) F8 N8 (isL_news N8 (.tail _ (.head _))) (isL_news N8 (.head _)) (by have := d2.appL.1; simp only [List.length_cons, List.length_nil]; omega) fun SD h' F5 N5 lF => ?_
            clear F8 N8
            walk_at "M steps"
            walk_at "M go"
            (with_reducible rename Fr _ _ _ _ => F6); (with_reducible rename News _ _ _ _ => N6)
            dsimp only
            refine ⟨rfl, _, _, _, SD, _, 0, rfl, F6, del1 (del1 (del1 (del1 N6))), ?_, rfl, e3, e4⟩
            rw [List.map_append]
            exact hvs7.append' (.cons _ _ .nil)
        · obtain ⟨rfl, h, tk, m, SD, sv, c3, rfl, F, N, hsv, m1, m2, m3⟩ := hf
          dsimp only
          walk_at "M steps"
          walk_at "M go"
          (with_reducible rename Fr _ _ _ _ => FC); (with_reducible rename News _ _ _ _ => NC); rename _ ∧ _ ∧ _ ∧ _ ∧ _ => lD
          have hz1 := strsLen htv
          have hz2 := strsLen hsv
          rw [List.length_map] at hz1 hz2
          generalize hP : prods (Us.take j) = P at *
          obtain ⟨LG0, mD, FD1, ND1, hLG, e1, e2, e3, e4⟩ : ∃ LG mD, Fr s.heap s.heap.objs.size _ mD ∧ News s.heap s.heap.objs.size _ [(LG, PySem.W.listOf #[] 0), (SD, PySem.W.listOf (List.toArray sv) c3), (I2, itObj ra (j + 1)), (TX, PySem.W.listOf (List.toArray tv) c2), (I, itObj l (i + 1)), (FD, PySem.W.listOf (List.toArray vs) c)] ∧
            (@LT.lt Nat _ SD LG ∧ @LT.lt Nat _ I2 LG ∧ @LT.lt Nat _ TX LG ∧ @LT.lt Nat _ I LG ∧ @LT.lt Nat _ FD LG) ∧ mD "some" = some (.ref SD) ∧ mD "texts" = some (.ref TX) ∧ mD "found" = some (.ref FD) ∧ mD "longer" = some (.ref LG) := ⟨_, _, FC, NC, lD, m1, m2, m3, rfl⟩
          clear FC NC lD
          refine forJ ?_ ?hs ?ht ?hE
          (case hs => intro _; rfl)
          (case ht => intro _ _; rfl)
          (case hE => passes_own)
          walk_at "M steps"
          walk_at "M go"
          (with_reducible rename Fr _ _ _ _ => FC); (with_reducible rename News _ _ _ _ => NC)
          refine iterL FC NC (isL_news NC (.tail _ (.tail _ (.tail _ (.head _))))) fun I3 h₈ F8 N8 lI3 hk8 => ?_
          clear FC NC
          simp only [List.forall_mem_cons] at lI3
          obtain ⟨lI31, lI32, lI33, lI34, lI35, lI36⟩ : @LT.lt Nat _ LG0 I3 ∧ @LT.lt Nat _ SD I3 ∧ @LT.lt Nat _ I2 I3 ∧ @LT.lt Nat _ TX I3 ∧ @LT.lt Nat _ I I3 ∧ @LT.lt Nat _ FD I3 := ⟨lI3.1, lI3.2.1, lI3.2.2.1, lI3.2.2.2.1, lI3.2.2.2.2.1, lI3.2.2.2.2.2.1⟩
          refine ⟨I3, P.length, fun a s' => ∃ h tk m gv c4, s' = { s with heap := h, toks := tk } ∧ Fr s.heap s.heap.objs.size h m ∧ News s.heap s.heap.objs.size h [(I3, itObj TX a), (LG0, PySem.W.listOf (List.toArray gv) c4), (SD, PySem.W.listOf (List.toArray sv) c3), (I2, itObj ra (j + 1)), (TX, PySem.W.listOf (List.toArray tv) c2), (I, itObj l (i + 1)), (FD, PySem.W.listOf (List.toArray vs) c)] ∧
            StrsAre gv ((prod (P.take a) U).map S) ∧ m "some" = some (.ref SD) ∧ m "texts" = some (.ref TX) ∧ m "found" = some (.ref FD) ∧ m "longer" = some (.ref LG0), rfl, ⟨_, _, mD, [], 0, rfl, F8, N8, .nil, e1, e2, e3, e4⟩, ?_, ?_⟩
          · rintro a s₄ ha ⟨h, tk, m, gv, c4, rfl, F, N, hgv, f1, f2, f3, f4⟩
            have hbp := bd_prod d4 ha
            have hstep := prodStep (U := U) ha
            obtain ⟨tt, hv⟩ := strsAre_at htv (i := a) (y := S P[a]) (by rw [List.getElem?_map, List.getElem?_eq_getElem ha]; rfl)
            have hPa : P[a].length ≤ 10000 := d1.2 _ (List.getElem_mem ha)
            generalize P[a] = pa at *
            rw [hstep] at hbp
            refine nextL F N ?_ (isL_news N (.tail _ (.tail _ (.tail _ (.tail _ (.head _)))))) (by simpa using hv) fun h₉ F9 N9 hk9 => ⟨_, rfl, ?_⟩
            · simp only [List.forall_mem_cons]
              exact ⟨neN (by (try dsimp only); omega), neN (by (try dsimp only); omega), neN (by (try dsimp only); omega), neN (by (try dsimp only); omega), neN (by (try dsimp only); omega), neN (by (try dsimp only); omega), fun _ h => nomatch h⟩
            clear F N F8 N8
            walk_at "M steps"
            walk_at "M go"
            (with_reducible rename Fr _ _ _ _ => FC); (with_reducible rename News _ _ _ _ => NC)
            obtain ⟨mB, FB, g1, g2, g3, g4, g5⟩ : ∃ mB, Fr s.heap s.heap.objs.size _ mB ∧ mB "some" = some (.ref SD) ∧ mB "texts" = some (.ref TX) ∧ mB "found" = some (.ref FD) ∧ mB "longer" = some (.ref LG0) ∧ mB "text" = some (.str (S pa) tt) := ⟨_, FC, f1, f2, f3, f4, rfl⟩
            clear FC
            refine forJ ?_ ?hs ?ht ?hE
            (case hs => intro _; rfl)
            (case ht => intro _ _; rfl)
            (case hE => passes_own)
            walk_at "M steps"
            walk_at "M go"
            (with_reducible rename Fr _ _ _ _ => FC); (with_reducible rename News _ _ _ _ => NC)
            refine iterL FC NC (isL_news NC (.tail _ (.tail _ (.head _)))) fun I4 h₈ F8 N8 lI4 hk8 => ?_
            clear FC NC
            simp only [List.forall_mem_cons] at lI4
            obtain ⟨lI41, lI42, lI43, lI44, lI45, lI46, lI47⟩ : @LT.lt Nat _ I3 I4 ∧ @LT.lt Nat _ LG0 I4 ∧ @LT.lt Nat _ SD I4 ∧ @LT.lt Nat _ I2 I4 ∧ @LT.lt Nat _ TX I4 ∧ @LT.lt Nat _ I I4 ∧ @LT.lt Nat _ FD I4 := ⟨lI4.1, lI4.2.1, lI4.2.2.1, lI4.2.2.2.1, lI4.2.2.2.2.1, lI4.2.2.2.2.2.1, lI4.2.2.2.2.2.2.1⟩
            refine ⟨I4, U.length, fun b s' => ∃ h tk m gv c4, s' = { s with heap := h, toks := tk } ∧ Fr s.heap s.heap.objs.size h m ∧ News s.heap s.heap.objs.size h [(I4, itObj SD b), (LG0, PySem.W.listOf (List.toArray gv) c4), (I3, itObj TX (a + 1)), (SD, PySem.W.listOf (List.toArray sv) c3), (I2, itObj ra (j + 1)), (TX, PySem.W.listOf (List.toArray tv) c2), (I, itObj l (i + 1)), (FD, PySem.W.listOf (List.toArray vs) c)] ∧
              StrsAre gv ((prod (P.take a) U ++ (U.take b).map (fun b => pa ++ b)).map S) ∧ m "some" = some (.ref SD) ∧ m "texts" = some (.ref TX) ∧ m "found" = some (.ref FD) ∧ m "longer" = some (.ref LG0) ∧ m "text" = some (.str (S pa) tt), rfl, ⟨_, _, mB, gv, c4, rfl, F8, dn2x N8, by simpa using hgv, g1, g2, g3, g4, g5⟩, ?_, ?_⟩
            · rintro b s₅ hb ⟨h, tk, m, gv, c4, rfl, F, N, hgv, f1, f2, f3, f4, f5⟩
              obtain ⟨tu, hv⟩ := strsAre_at hsv (i := b) (y := S U[b]) (by rw [List.getElem?_map, List.getElem?_eq_getElem hb]; rfl)
              have hUb : U[b].length ≤ 10000 := d2.2 _ (List.getElem_mem hb)
              have htk : U.take (b + 1) = U.take b ++ [U[b]] := List.take_succ_eq_append_getElem hb
              generalize U[b] = ub at *
              have hgl := strsLen hgv
              rw [List.length_map, List.length_append, List.length_map, List.length_take] at hgl
              have hgm : gv.length ≤ 10000 := by
                have := hbp.1
                rw [List.length_append, List.length_map] at this
                omega
              refine nextL F N ?_ (isL_news N (.tail _ (.tail _ (.tail _ (.head _))))) (by simpa using hv) fun h₉ F9 N9 hk9 => ⟨_, rfl, ?_⟩
              · simp only [List.forall_mem_cons]
                exact ⟨neN (by (try dsimp only); omega), neN (by (try dsimp only); omega), neN (by (try dsimp only); omega), neN (by (try dsimp only); omega), neN (by (try dsimp only); omega), neN (by (try dsimp only); omega), neN (by (try dsimp only); omega), fun _ h => nomatch h⟩
              clear F N F8 N8
              walk_at "M steps"
              walk_at "M if"
              rw [if_neg Bool.false_ne_true]
              walk_at "M steps"
              walk_at "M go"
              (with_reducible rename Fr _ _ _ _ => F6); (with_reducible rename News _ _ _ _ => N6)
              refine append_second F6 N6 (neN (by (try dsimp only); omega)) ?_ (fun h7 F7 N7 => ?_) (hsz := fitL (by omega))
              · simp only [List.forall_mem_cons]
                exact ⟨neN (by (try dsimp only); omega), neN (by (try dsimp only); omega), neN (by (try dsimp only); omega), neN (by (try dsimp only); omega), neN (by (try dsimp only); omega), neN (by (try dsimp only); omega), fun _ h => nomatch h⟩
              clear F6 N6
              walk_at "M steps"
              walk_at "M go"
              (with_reducible rename Fr _ _ _ _ => F8); (with_reducible rename News _ _ _ _ => N8)
              dsimp only
              rw [S_app, ← pushL] at N8
              refine ⟨_, _, _, gv ++ [_], _, rfl, F8, N8, ?_, f1, f2, f3, f4, f5⟩
              have e9 : (prod (P.take a) U ++ (U.take (b + 1)).map (fun b => pa ++ b)).map S = (prod (P.take a) U ++ (U.take b).map (fun b => pa ++ b)).map S ++ [S (pa ++ ub)] := by rw [htk]; simp
              rw [e9]
              exact strsAre_push hgv _ _
            · rintro s₅ ⟨h, tk, m, gv, c4, rfl, F, N, hgv, f1, f2, f3, f4, f5⟩
              refine nextL_end rfl F N ?_ (isL_news N (.tail _ (.tail _ (.tail _ (.head _))))) (by simp; omega) fun h₉ F9 N9 hk9 => ⟨rfl, ?_⟩
              · simp only [List.forall_mem_cons]
                exact ⟨neN (by (try dsimp only); omega), neN (by (try dsimp only); omega), neN (by (try dsimp only); omega), neN (by (try dsimp only); omega), neN (by (try dsimp only); omega), neN (by (try dsimp only); omega), neN (by (try dsimp only); omega), fun _ h => nomatch h⟩
              clear F N F8 N8
              dsimp only
              rw [List.take_length, ← hstep] at hgv
              walk_at "M steps"
              walk_at "M go"
              (with_reducible rename Fr _ _ _ _ => F6); (with_reducible rename News _ _ _ _ => N6)
              dsimp only
              exact ⟨_, _, _, gv, c4, rfl, F6, newsSwap N6, hgv, f1, f2, f3, f4⟩
          · rintro s₄ ⟨h, tk, m, gv, c4, rfl, F, N, hgv, f1, f2, f3, f4⟩
            refine nextL_end rfl F N ?_ (isL_news N (.tail _ (.tail _ (.tail _ (.tail _ (.head _)))))) (by simp; omega) fun h₉ F9 N9 hk9 => ⟨rfl, ?_⟩
            · simp only [List.forall_mem_cons]
              exact ⟨neN (by (try dsimp only); omega), neN (by (try dsimp only); omega), neN (by (try dsimp only); omega), neN (by (try dsimp only); omega), neN (by (try dsimp only); omega), neN (by (try dsimp only); omega), fun _ h => nomatch h⟩
            clear F N F8 N8
            dsimp only
            rw [List.take_length] at hgv
            walk_at "M steps"
            walk_at "M go"
            (with_reducible rename Fr _ _ _ _ => F6); (with_reducible rename News _ _ _ _ => N6)
            dsimp only
            obtain ⟨mB, F7, g1, g2⟩ : ∃ mB, Fr s.heap s.heap.objs.size _ mB ∧ mB "texts" = some (.ref LG0) ∧ mB "found" = some (.ref FD) := ⟨_, F6, rfl, f3⟩
            refine ⟨_, _, mB, LG0, gv, c4, rfl, F7, fun p hp => ?_, neN (by omega), hLG.2.2.2.1, ?_, g1, g2⟩
            · rcases List.mem_cons.mp hp with rfl | hp
              · exact N6 _ (.tail _ (.tail _ (.head _)))
              rcases List.mem_cons.mp hp with rfl | hp
              · exact N6 _ (.head _)
              · exact N6 _ (.tail _ (.tail _ (.tail _ (.tail _ hp))))
            · rw [d3]
              exact hgv
      · rintro s₃ ⟨h, tk, m, TX, tv, c2, rfl, F, N, hTI, hTI1, htv, m1, m2⟩
        refine nextL_end rfl F N ?_ (isL_base F hlr) (by simp; omega) fun h₉ F9 N9 hk9 => ⟨rfl, ?_⟩
        · simp only [List.forall_mem_cons]
          exact ⟨hTI, neN (by (try dsimp only); omega), neN (by (try dsimp only); omega), fun _ h => nomatch h⟩
        clear F N F8 N8
        dsimp only
        rw [List.take_length] at htv
        walk_at "M steps"
        walk_at "M go"
        (with_reducible rename Fr _ _ _ _ => FC); (with_reducible rename News _ _ _ _ => NC)
        have hz1 := strsLen hvs
        have hz2 := strsLen htv
        rw [List.length_map] at hz1 hz2
        refine addL FC NC (isL_news NC (.tail _ (.tail _ (.head _)))) (isL_news NC (.head _)) (by have := b1.1; have := b2.1; omega) fun FD2 h' F5 N5 lF => ?_
        clear FC NC
        have lF1 : @LT.lt Nat _ I FD2 := lF _ (.tail _ (.head _))
        walk_at "M steps"
        (with_reducible rename Fr _ _ _ _ => F6); (with_reducible rename News _ _ _ _ => N6)
        dsimp only
        obtain ⟨mB, F7, e1⟩ : ∃ mB, Fr s.heap s.heap.objs.size _ mB ∧ mB "found" = some (.ref FD2) := ⟨_, F6, rfl⟩
        refine ⟨_, _, mB, FD2, vs ++ tv, 0, rfl, F7, ?_, Nat.ne_of_gt lF1, ?_, e1⟩
        · intro p hp
          rcases List.mem_cons.mp hp with rfl | hp
          · exact N6 _ (.tail _ (.tail _ (.head _)))
          · rw [List.mem_singleton.mp hp]; exact N6 _ (.head _)
        · rw [b3, List.map_append]
          exact hvs.append' htv
    · rintro s₃ ⟨h, tk, m, FD, vs, c, rfl, F, N, hFI, hvs, m1⟩
      refine nextL_end rfl F N (List.forall_mem_singleton.mpr hFI) (isL_base F hl) (by simp; omega) fun h₉ F9 N9 hk9 => ⟨rfl, ?_⟩
      clear F N F8 N8
      dsimp only
      walk_at "M steps"
      (with_reducible rename Fr _ _ _ _ => F6); (with_reducible rename News _ _ _ _ => N6)
      rw [List.take_length] at hvs
      exact ret _ _ FD vs c F6.keep (N6 _ (.head _)).2.2 (N6.get (.head _)) hvs
end
end Mine
theorem Mine.off55 : True := by w_top off; trivial
-- P30_rows
namespace Mine
local macro_rules | `(tactic| walk_at "M none") => `(tactic| skip)
local macro_rules | `(tactic| walk_at "M none") => `(tactic| skip)
local macro_rules | `(tactic| walk_at "pyIter ref") => `(tactic| refine Mine.stop ?_)
local macro_rules | `(tactic| walk_at "binaryOp Add ref ref") => `(tactic| refine Mine.stop ?_)
/-- a list of lists of texts -/
def TLs (P : Lk) (vs : List Value) (Us : List TL) : Prop := Paired (fun v U => ∃ us, LiAt P v us ∧ StrsAre us (U.map S)) vs Us
section
variable {w : World} {dp un : Nat} {fr : List Env} {gd : Option (List Code)} {s : Shared} {Q E : Value → Shared → Prop} {loose : List Str} {mean : ExcName → Option Value} {mg mb : Str → Option Value}
theorem rows_c {l : Addr} {vs0 : List Value} {Us : List TL} (X : (hd.heap_39 w.params).In s.heap) (T : Top topProg loose mean mg mb s.heap) (hA : dp + 2 < recursionLimit)
  (hl : s.heap.IsList l vs0.toArray) (hU : TLs (Look s.heap) vs0 Us) (hB : Bd 10000 10000 (prods Us)) (hne : ∀ U ∈ Us, U ≠ [])
  (ret : ∀ h' tk' (D : Addr) vs c, Kp s.heap h' → s.heap.get? D = none → h'.get? D = some (PySem.W.listOf (List.toArray vs) c) → StrsAre vs ((prods Us).map S) → Q (.ref D) { s with heap := h', toks := tk' }) :
  wpAny (model PySem.Challenge.rw_ev0005_01.row.prog w) (Ar dp un (some fr) gd) (call (.ref 235) [.ref l]) Q E s := by
  revert X; k_fill; intro X
  have hN : ∀ q ∈ ([] : List (Addr × Obj)), s.heap.get? q.1 = some q.2 ∧ s.heap.get? q.1 = none := fun _ h => nomatch h
  refine' enterC [] (B := s.heap) (fun _ _ e => e) hN ?k1 ?k2 ?k6 ?k7 ?k8 ?k9 ?kB ?kD ?_ ?c2 ?c3 ?c4
  walk_at "M enterC"
  intro h₁ tk₁ cells XB TB F N Y
  k_cells Y
  (try simp only [List.cons_append, List.nil_append] at N)
  have hbut : (But s []) = s.heap := by rfl
  rw [hbut] at F N XB TB
  walk_at "M steps"
  walk_at "M go"
  (with_reducible rename Fr _ _ _ _ => F2); (with_reducible rename News _ _ _ _ => N2); rename _ = Data.cell _ => hcell; rename _ < _ => lF
  obtain ⟨FD0, CL, oC0, cv0, tt0, m0, F3, N3, hcl0, hCL, hFDC, q1, q2⟩ : ∃ FD CL oC cv tt m0, Fr s.heap s.heap.objs.size _ m0 ∧ News s.heap s.heap.objs.size _ [(FD, PySem.W.listOf #[.str (S []) tt] 0), (CL, oC)] ∧ oC.data = .cell cv ∧ @Eq Nat CL (s.heap.objs.size + 1) ∧ @LT.lt Nat _ CL FD ∧ m0 "lists" = some (.ref l) ∧ m0 "found" = some (.ref FD) :=
    ⟨_, _, _, _, _, _, F2, by rw [← lit_0]; exact N2, hcell, rfl, lF, rfl, rfl⟩
  clear F2 N2
  subst hCL
  have hlen0 : vs0.length = Us.length := hU.length
  refine forJ ?_ ?hs ?ht ?hE
  (case hs => intro _; rfl)
  (case ht => intro _ _; rfl)
  (case hE => passes_own)
  walk_at "M steps"
  walk_at "M go"
  (with_reducible rename Fr _ _ _ _ => F4); (with_reducible rename News _ _ _ _ => N4)
  refine iterL F4 N4 (isL_base F4 hl) fun I h₈ F8 N8 lI hk8 => ?_
  clear F4 N4
  have lIC : @LT.lt Nat _ (s.heap.objs.size + 1) I := lI _ (.tail _ (.head _))
  simp only [List.forall_mem_cons] at lI
  obtain ⟨lI1, lI2⟩ : @LT.lt Nat _ FD0 I ∧ @LT.lt Nat _ (s.heap.objs.size + 1) I := ⟨lI.1, lI.2.1⟩
  refine ⟨I, Us.length, fun i s' => ∃ h tk m FD vs c oC cv, s' = { s with heap := h, toks := tk } ∧ Fr s.heap s.heap.objs.size h m ∧ News s.heap s.heap.objs.size h [(I, itObj l i), (FD, PySem.W.listOf (List.toArray vs) c), (s.heap.objs.size + 1, oC)] ∧ oC.data = .cell cv ∧ @Ne Nat FD I ∧ @LT.lt Nat _ (s.heap.objs.size + 1) FD ∧
      StrsAre vs ((prods (Us.take i)).map S) ∧ m "found" = some (.ref FD), rfl, ⟨_, _, m0, FD0, [.str (S []) tt0], 0, oC0, cv0, rfl, F8, N8, hcl0, Nat.ne_of_lt lI1, hFDC, .cons _ _ .nil, q2⟩, ?_, ?_⟩
  · rintro i s₃ hi ⟨h, tk, m, FD, vs, c, oC, cv, rfl, F, N, hcv, hFI, hCF, hvs, m1⟩
    obtain ⟨rv, hrv, us, ⟨ra, rc, rfl, hra⟩, hus⟩ := pairedAt hU (List.getElem?_eq_getElem hi)
    obtain ⟨d1, d2, d3, d4⟩ := bd_item hB hne hi
    rw [d3] at d4
    generalize hP : prods (Us.take i) = P at *
    generalize Us[i] = U at *
    have hz1 := strsLen hvs
    have hz2 := strsLen hus
    rw [List.length_map] at hz1 hz2
    have hlr : s.heap.IsList ra us.toArray := ⟨_, hra, rfl, rc, rfl⟩
    refine nextL F N ?_ (isL_base F hl) (by simpa using hrv) fun h₉ F9 N9 hk9 => ⟨_, rfl, ?_⟩
    · simp only [List.forall_mem_cons]
      exact ⟨hFI, neN (by (try dsimp only); omega), fun _ h => nomatch h⟩
    clear F N F8 N8
    walk_at "M steps"
    walk_at "M go"
    (with_reducible rename Fr _ _ _ _ => FA); (with_reducible rename News _ _ _ _ => NA)
    rename _ < _ ∧ _ < _ ∧ _ < _ => lLG
    obtain ⟨LG0, mA, FB, NB, lLG1, lLG2, lLG3, a1, a2, a3⟩ : ∃ LG mA, Fr s.heap s.heap.objs.size _ mA ∧ News s.heap s.heap.objs.size _ [(LG, PySem.W.listOf #[] 0), (I, itObj l (i + 1)), (FD, PySem.W.listOf (List.toArray vs) c), (s.heap.objs.size + 1, oC)] ∧ @LT.lt Nat _ I LG ∧ @LT.lt Nat _ FD LG ∧ @LT.lt Nat _ (s.heap.objs.size + 1) LG ∧
      mA "texts" = some (.ref ra) ∧ mA "longer" = some (.ref LG) ∧ mA "found" = some (.ref FD) := ⟨_, _, FA, NA, lLG.1, lLG.2.1, lLG.2.2, rfl, rfl, m1⟩
    clear FA NA lLG
    refine forJ ?_ ?hs ?ht ?hE
    (case hs => intro _; rfl)
    (case ht => intro _ _; rfl)
    (case hE => passes_own)
    walk_at "M steps"
    walk_at "M go"
    (with_reducible rename Fr _ _ _ _ => FC); (with_reducible rename News _ _ _ _ => NC)
    refine iterL FC NC (isL_news NC (.tail _ (.tail _ (.head _)))) fun I2 h₈ F8 N8 lI2 hk8 => ?_
    clear FC NC
    simp only [List.forall_mem_cons] at lI2
    obtain ⟨lI21, lI22, lI23, lI24⟩ : @LT.lt Nat _ LG0 I2 ∧ @LT.lt Nat _ I I2 ∧ @LT.lt Nat _ FD I2 ∧ @LT.lt Nat _ (s.heap.objs.size + 1) I2 := ⟨lI2.1, lI2.2.1, lI2.2.2.1, lI2.2.2.2.1⟩
    refine ⟨I2, P.length, fun a s' => ∃ h tk m LG gv c4 oC cv, s' = { s with heap := h, toks := tk } ∧ Fr s.heap s.heap.objs.size h m ∧ News s.heap s.heap.objs.size h [(I2, itObj FD a), (LG, PySem.W.listOf (List.toArray gv) c4), (I, itObj l (i + 1)), (FD, PySem.W.listOf (List.toArray vs) c), (s.heap.objs.size + 1, oC)] ∧ oC.data = .cell cv ∧ @Ne Nat LG I2 ∧ @LT.lt Nat _ I LG ∧
      StrsAre gv ((prod (P.take a) U).map S) ∧ m "texts" = some (.ref ra) ∧ m "longer" = some (.ref LG), rfl, ⟨_, _, mA, LG0, [], 0, oC, cv, rfl, F8, N8, hcv, Nat.ne_of_lt lI21, lLG1, .nil, a1, a2⟩, ?_, ?_⟩
    · rintro a s₄ ha ⟨h, tk, m, LG, gv, c4, oC, cv, rfl, F, N, hcv, hLI, hLI1, hgv, f1, f2⟩
      have hbp := bd_prod d4 ha
      have hstep := prodStep (U := U) ha
      obtain ⟨tt, hv⟩ := strsAre_at hvs (i := a) (y := S P[a]) (by rw [List.getElem?_map, List.getElem?_eq_getElem ha]; rfl)
      have hPa : P[a].length ≤ 10000 := d1.2 _ (List.getElem_mem ha)
      generalize P[a] = pa at *
      rw [hstep] at hbp
      refine nextL F N ?_ (isL_news N (.tail _ (.tail _ (.tail _ (.head _))))) (by simpa using hv) fun h₉ F9 N9 hk9 => ⟨_, rfl, ?_⟩
      · simp only [List.forall_mem_cons]
        exact ⟨hLI, neN (by (try dsimp only); omega), neN (by (try dsimp only); omega), neN (by (try dsimp only); omega), fun _ h => nomatch h⟩
      clear F N F8 N8
      walk_at "M steps"
      walk_at "M go"
      with_reducible refine' compL (fun b => pa ++ b) ?c1 ?c2 ?c3 ?c4 ?c5 ?c6 ?_ ?c7
      (case c1 => exact rfl); (case c2 => exact rfl); (case c3 => decide +kernel); (case c4 => exact rfl); (case c5 => decide +kernel); (case c6 => exact rfl); (case c7 => intro _; rfl)
      walk_at "M steps"
      walk_at "M go"
      (with_reducible rename Fr _ _ _ _ => FB); (with_reducible rename News _ _ _ _ => NB)
      refine ⟨_, us, U, rfl, isL_base FB hlr, hus, by have := d2.1; omega, _, _, _, _, FB, NB, ?_, ?_⟩
      · intro ub C u s₃ m₃ E' hub hk FC NC hm
        have hUb : ub.length ≤ 10000 := d2.2 _ hub
        clear FB NB
        walk_at "M steps"
        walk_at "M go"
        exact ⟨⟨_, congrArg (Value.str · _) (S_app _ _)⟩, _, _, rfl, fun _ _ e => e⟩
      · intro D h' tk' ys nn F N hD hys hk
        clear FB NB
        walk_at "M steps"
        walk_at "M go"
        (with_reducible rename Fr _ _ _ _ => F6); (with_reducible rename News _ _ _ _ => N6); rename _ = Data.cell _ => hcv2
        have hz3 := strsLen hys
        have hz4 := strsLen hgv
        rw [List.length_map] at hz3 hz4
        have hb9 := hbp.1
        rw [List.length_append, List.length_map] at hb9
        refine addL (ws := ys) F6 N6 (isL_news N6 (.tail _ (.tail _ (.head _)))) (isL_news (n := nn) N6 (.head _)) (by omega) fun LG2 h' F5 N5 lG => ?_
        have lG1 : @LT.lt Nat _ I2 LG2 := lG _ (.tail _ (.head _))
        clear F6 N6
        walk_at "M steps"
        walk_at "M go"
        (with_reducible rename Fr _ _ _ _ => F8); (with_reducible rename News _ _ _ _ => N8)
        dsimp only
        obtain ⟨mB, F7, g1, g2⟩ : ∃ mB, Fr s.heap s.heap.objs.size _ mB ∧ mB "texts" = some (.ref ra) ∧ mB "longer" = some (.ref LG2) := ⟨_, F8, f1, rfl⟩
        refine ⟨_, _, mB, LG2, gv ++ ys, 0, _, _, rfl, F7, fun p hp => ?_, hcv2, neN (by omega), Nat.lt_trans lI22 lG1, ?_, g1, g2⟩
        · rcases List.mem_cons.mp hp with rfl | hp
          · exact N8 _ (.tail _ (.tail _ (.head _)))
          rcases List.mem_cons.mp hp with rfl | hp
          · exact N8 _ (.head _)
          · exact N8 _ (.tail _ (.tail _ (.tail _ (.tail _ hp))))
        · rw [hstep, List.map_append, List.map_map]
          exact hgv.append' hys
    · rintro s₄ ⟨h, tk, m, LG, gv, c4, oC, cv, rfl, F, N, hcv, hLI, hLI1, hgv, f1, f2⟩
      refine nextL_end rfl F N ?_ (isL_news N (.tail _ (.tail _ (.tail _ (.head _))))) (by simp; omega) fun h₉ F9 N9 hk9 => ⟨rfl, ?_⟩
      · simp only [List.forall_mem_cons]
        exact ⟨hLI, neN (by (try dsimp only); omega), neN (by (try dsimp only); omega), neN (by (try dsimp only); omega), fun _ h => nomatch h⟩
      clear F N F8 N8
      dsimp only
      rw [List.take_length] at hgv
      walk_at "M steps"
      walk_at "M go"
      (with_reducible rename Fr _ _ _ _ => F6); (with_reducible rename News _ _ _ _ => N6)
      dsimp only
      obtain ⟨mB, F7, g1⟩ : ∃ mB, Fr s.heap s.heap.objs.size _ mB ∧ mB "found" = some (.ref LG) := ⟨_, F6, rfl⟩
      refine ⟨_, _, mB, LG, gv, c4, oC, cv, rfl, F7, fun p hp => ?_, hcv, neN (by omega), Nat.lt_trans lIC hLI1, ?_, g1⟩
      · rcases List.mem_cons.mp hp with rfl | hp
        · exact N6 _ (.tail _ (.head _))
        rcases List.mem_cons.mp hp with rfl | hp
        · exact N6 _ (.head _)
        · exact N6 _ (.tail _ (.tail _ (.tail _ hp)))
      · rw [d3]
        exact hgv
  · rintro s₃ ⟨h, tk, m, FD, vs, c, oC, cv, rfl, F, N, hcv, hFI, hCF, hvs, m1⟩
    refine nextL_end rfl F N ?_ (isL_base F hl) (by simp; omega) fun h₉ F9 N9 hk9 => ⟨rfl, ?_⟩
    · simp only [List.forall_mem_cons]
      exact ⟨hFI, neN (by (try dsimp only); omega), fun _ h => nomatch h⟩
    clear F N F8 N8
    dsimp only
    walk_at "M steps"
    (with_reducible rename Fr _ _ _ _ => F6); (with_reducible rename News _ _ _ _ => N6)
    rw [List.take_length] at hvs
    exact ret _ _ FD vs c F6.keep (N6 _ (.head _)).2.2 (N6.get (.head _)) hvs
end
end Mine
theorem Mine.off56 : True := by w_top off; trivial
-- P31_in
namespace Mine
/-- a thing with a code's look -/
def IsCd (o : Obj) : Prop := ∃ vs q t, o.data = .fields vs ∧ vs[1]? = some (.str q t)
theorem cd_it {l : Addr} {i : Nat} : ¬ IsCd (itObj l i) := fun ⟨vs, q, t, h, e⟩ => by
  have : vs = #[.ref l, .int i 0] := by injection h with h; exact h.symm
  subst this
  simp at e
theorem cd_ri {x left : Int} : ¬ IsCd (riObj x left) := fun ⟨vs, q, t, h, e⟩ => by
  have : vs = #[rawInt x, rawInt left, rawInt 1] := by injection h with h; exact h.symm
  subst this
  simp [rawInt] at e
theorem cd_list {its : Array Value} {n : Nat} : ¬ IsCd (PySem.W.listOf its n) := fun ⟨vs, q, t, h, e⟩ => by cases h
theorem cdNe {h₀ h : Heap} {L : Addr} {news : List (Addr × Obj)} (N : News h₀ L h news) {p q : Addr × Obj} (hp : p ∈ news) (hq : q ∈ news) (h1 : IsCd p.2) (h2 : ¬ IsCd q.2) : p.1 ≠ q.1 := fun e => by
  have a := (N p hp).1
  have b := (N q hq).1
  rw [e, b] at a
  exact h2 (Option.some.inj a ▸ h1)
/-- the table's codes stand in the ground or in the ledger -/
structure TabG (W : List (Addr × Obj)) (h₀ : Heap) (ps : Array Value) : Prop where
  tri : TriplesOk ps.toList
  lam : ∀ pos : Pos, pos.line = lamL → pos.col = lamC → codeAmong pos ps.toList = none ∨ ∃ c' o vs t, codeAmong pos ps.toList = some (.ref c') ∧ o.data = .fields vs ∧ vs[1]? = some (.str "regex_opt_inner.<locals>.<lambda>" t) ∧ c' ≠ 145 ∧ (h₀.get? c' = some o ∨ (c', o) ∈ W)
theorem TabG.ok {W news : List (Addr × Obj)} {h₀ h : Heap} {L : Addr} {m : Str → Option Value} {ps : Array Value} (x : TabG W h₀ ps) (F : Fr h₀ L h m) (N : News h₀ L h news) (k : ∀ p ∈ W, p ∈ news) : TabOk h ps := by
  refine ⟨x.tri, fun pos h1 h2 => ?_⟩
  rcases x.lam pos h1 h2 with e | ⟨c', o, vs, t, e, hd, hv, hne, ho⟩
  · exact .inl e
  · refine .inr ⟨c', e, ⟨c', o, vs, t, rfl, ?_, hd, hv⟩, hne⟩
    rcases ho with ho | ho
    · exact F.keep _ _ ho
    · exact (N _ (k _ ho)).1
theorem TabG.more {W W' : List (Addr × Obj)} {h₀ : Heap} {ps : Array Value} (x : TabG W h₀ ps) (k : ∀ p ∈ W, p ∈ W') : TabG W' h₀ ps := by
  refine ⟨x.tri, fun pos h1 h2 => ?_⟩
  rcases x.lam pos h1 h2 with e | ⟨c', o, vs, t, e, hd, hv, hne, ho⟩
  · exact .inl e
  · exact .inr ⟨c', o, vs, t, e, hd, hv, hne, ho.imp id (k _)⟩
/-- after a call, the code that was made is laid to the ledger -/
theorem tabLay {h₁ h' : Heap} {L : Addr} {m : Str → Option Value} {news : List (Addr × Obj)} {ps : Array Value} (F : Fr h₁ L h' m) (N : News h₁ L h' news) (x : TabOk h' ps) :
    ∃ KT, (∀ p ∈ KT, IsCd p.2 ∧ p.1 ≠ 145) ∧ News h₁ L h' (KT ++ news) ∧ TabG KT h₁ ps := by
  by_cases hq : ∃ pos : Pos, pos.line = lamL ∧ pos.col = lamC ∧ codeAmong pos ps.toList ≠ none
  · obtain ⟨pos, h1, h2, h3⟩ := hq
    rcases x.lam pos h1 h2 with e | ⟨c', e, ⟨c, o, vs, t, e2, ho, hd, hv⟩, hne⟩
    · exact absurd e h3
    · cases e2
      have hcL : c' ≠ L := fun z => by
        obtain ⟨oL, es, ep, hL, hdL, _⟩ := F.ns
        rw [z, hL] at ho
        cases ho
        rw [hd] at hdL; cases hdL
      have hall : ∀ q : Pos, q.line = lamL → q.col = lamC → codeAmong q ps.toList = some (.ref c') := fun q g1 g2 => by
        rw [among_congr (q := pos) (g1.trans h1.symm) (g2.trans h2.symm)]
        exact e
      cases hb : h₁.get? c' with
      | some o' =>
        have := F.keep _ _ hb
        rw [ho] at this
        cases this
        exact ⟨[], (fun _ h => nomatch h), N, x.tri, fun q g1 g2 => .inr ⟨c', o, vs, t, hall q g1 g2, hd, hv, hne, .inl hb⟩⟩
      | none =>
        refine ⟨[(c', o)], List.forall_mem_singleton.mpr ⟨⟨vs, _, t, hd, hv⟩, hne⟩, fun p hp => ?_, x.tri, fun q g1 g2 => .inr ⟨c', o, vs, t, hall q g1 g2, hd, hv, hne, .inr (.head _)⟩⟩
        rcases List.mem_cons.mp hp with rfl | hp
        · exact ⟨ho, hcL, hb⟩
        · exact N p hp
  · refine ⟨[], (fun _ h => nomatch h), N, x.tri, fun pos h1 h2 => .inl ?_⟩
    cases e : codeAmong pos ps.toList with
    | none => rfl
    | some v => exact absurd ⟨pos, h1, h2, by rw [e]; exact fun z => nomatch z⟩ hq
theorem TabG.none {W : List (Addr × Obj)} {h₀ : Heap} : TabG W h₀ #[] := ⟨trivial, fun _ _ _ => .inl rfl⟩
section
variable {w : World} {dp un : Nat} {fr : List Env} {gd : Option (List Code)} {s : Shared} {Q E : Value → Shared → Prop} {loose : List Str} {mean : ExcName → Option Value} {mg mb : Str → Option Value}
/-- words.get within a frame -/
theorem get_in {env : Env} {B h₀ b₀ : Heap} {L : Addr} {m : Str → Option Value} {W : List (Addr × Obj)} {l x dx : Addr} {vs : List Value} {xs : List (List Nat)} {p q : List Nat} {t1 t2 t3 tp tq : Tok} {ps : Array Value} {c : Nat}
  (hf : env.frame = some L) (hk : env.scope.kind = .function) (G : Fl B fr h₀) (XB : (hd.heap_39 w.params).In B) (TB : Top topProg loose mean mg mb B) (W₀ : Kw fr [] b₀ h₀) (F : Fr h₀ L s.heap m)
  (N : News h₀ L s.heap ((x, instObj 181 dx) :: (dx, wordsD w t1 t2 t3 l (S p) (S q) tp tq) :: (145, tabObj ps) :: W)) (hT : TabG W h₀ ps) (hW : ∀ p ∈ W, p.1 ≠ 145) (hl : (l, PySem.W.listOf (List.toArray vs) c) ∈ W)
  (hvs : StrsAre vs (xs.map S)) (hnd : xs.Nodup) (hne : xs ≠ []) (hx : msr xs ≤ 60) (h64 : xs.length < 64) (hp : p.length ≤ 300000) (hq : q.length ≤ 300000) (hA : dp + 150 < recursionLimit)
  (ret : ∀ h' tk' t ps' g' d' h₁ KT, Kw fr [] b₀ h₁ → Fl B fr h₁ → (hd.heap_39 w.params).In h₁ → Top topProg loose mean mg mb h₁ → Fr h₁ L h' m → (∀ p ∈ KT, IsCd p.2 ∧ p.1 ≠ 145) → News h₁ L h' ((x, instObj 181 dx) :: (dx, wordsD w t1 t2 t3 l (S p) (S q) tp tq) :: (145, tabObj ps') :: (KT ++ W)) →
    TabG (KT ++ W) h₁ ps' → GensOk s.gens g' → Q (.str (S (p ++ pat xs ++ q)) t) { s with heap := h', toks := tk', gens := g', drawn := d' }) :
  wpAny (model PySem.Challenge.rw_ev0005_01.row.prog w) (Ar dp un (some (env :: fr)) gd) (call (.ref 178) [.ref x]) Q E s := by
  have hxN := N _ (.head _)
  have hdN := N _ (.tail _ (.head _))
  have hTN := N _ (.tail _ (.tail _ (.head _)))
  have hxne : x ≠ 145 := fun e => by
    have := hxN.1
    rw [e, hTN.1] at this; cases this
  have hdne : dx ≠ 145 := fun e => by
    have := hdN.1
    rw [e, hTN.1] at this; cases this
  have hM : ∀ a ∈ [(145 : Addr)], ∃ o, (a, o) ∈ ((x, instObj 181 dx) :: (dx, wordsD w t1 t2 t3 l (S p) (S q) tp tq) :: (145, tabObj ps) :: W) := List.forall_mem_singleton.mpr ⟨_, .tail _ (.tail _ (.head _))⟩
  have hM3 : ∀ a ∈ [x, dx, (145 : Addr)], ∃ o, (a, o) ∈ ((x, instObj 181 dx) :: (dx, wordsD w t1 t2 t3 l (S p) (S q) tp tq) :: (145, tabObj ps) :: W) :=
    List.forall_mem_cons.mpr ⟨⟨_, .head _⟩, List.forall_mem_cons.mpr ⟨⟨_, .tail _ (.head _)⟩, List.forall_mem_singleton.mpr ⟨_, .tail _ (.tail _ (.head _))⟩⟩⟩
  have hll : l ∉ [x, dx, (145 : Addr)] := fun z => by
    have h1 := (N _ (.tail _ (.tail _ (.tail _ hl)))).1
    simp only [List.mem_cons, List.not_mem_nil, or_false] at z
    rcases z with rfl | rfl | rfl
    · rw [hxN.1] at h1; cases h1
    · rw [hdN.1] at h1
      exact absurd (congrArg Obj.cls (Option.some.inj h1)) fun z => by injection z with z; exact absurd z (by decide)
    · exact hW _ hl rfl
  refine get_c (B := hideAll s.heap ([x, dx, 145] ++ fa (env :: fr))) (l := l) (vs := vs) (xs := xs) (p := p) (q := q) (ps := ps) (in_fl G F N hM3 hf hk) (XB.keeps (in_kp G F N hM3 hf hk)) (TB.keeps (in_kp G F N hM3 hf hk)) (by omega)
    (in_mu G F N hM3 hf hk (.tail _ (.tail _ (.head _)))) hTN.1 (hT.ok F N fun p hp => .tail _ (.tail _ (.tail _ hp))) hxN.1 hdN.1 (in_mu G F N hM3 hf hk (.head _)) (in_mu G F N hM3 hf hk (.tail _ (.head _)))
    (in_list G F N hM3 hf hk (.tail _ (.tail _ (.tail _ hl))) hll) hvs hnd hne (by omega) h64 hp hq fun h' tk' t ps' g' d' WK gT tab' gens' => ?_
  obtain ⟨h₁, W1, G1, X1, T1, F1, N1⟩ := frW (news' := (x, instObj 181 dx) :: (dx, wordsD w t1 t2 t3 l (S p) (S q) tp tq) :: (145, tabObj ps') :: W) G XB TB W₀ F N WK hf
    (List.forall_mem_singleton.mpr hTN.2.symm)
    (by
      simp only [List.forall_mem_cons]
      exact ⟨.inr ⟨.head _, fun z => hxne (List.mem_singleton.mp z)⟩, .inr ⟨.tail _ (.head _), fun z => hdne (List.mem_singleton.mp z)⟩, .inl ⟨gT, .inr (.head _)⟩, fun p hp => .inr ⟨.tail _ (.tail _ (.tail _ hp)), fun z => hW p hp (List.mem_singleton.mp z)⟩⟩)
  obtain ⟨KT, k1, k2, k3⟩ := tabLay F1 N1 tab'
  refine ret h' tk' t ps' g' d' h₁ KT W1 G1 X1 T1 F1 k1 (fun r hr => k2 r ?_) (k3.more fun p hp => List.mem_append_left _ hp) gens'
  grind
end
end Mine
theorem Mine.off57 : True := by w_top off; trivial
-- P31b_pure
namespace Mine
theorem Rg.le {n m : Nat} (h : n ≤ m) {x : List Nat} {T : TL} (r : Rg n x T) : Rg m x T := by
  induction h with
  | refl => exact r
  | step _ ih => exact Rg.up _ _ _ ih
/-- a list of words as the law makes them -/
def WOk (xs : TL) : Prop := xs ≠ [] ∧ xs.Nodup ∧ xs.length ≤ 4 ∧ ∀ x ∈ xs, x.length ≤ 12
/-- what a list of words is told as -/
def PatT (xs T : TL) : Prop := (∃ y, pat xs = 40 :: (y ++ [41]) ∧ Rg 60 y T) ∧ T.Perm xs
theorem msr_bd : ∀ {xs : TL}, (∀ x ∈ xs, x.length ≤ 12) → msr xs ≤ 13 * xs.length
  | [], _ => by simp [msr]
  | x :: xs, h => by
    have h1 := h x (.head _)
    have h2 := msr_bd fun y hy => h y (.tail _ hy)
    rw [msr_cons, List.length_cons]; omega
theorem WOk.msr {xs : TL} (h : WOk xs) : Mine.msr xs ≤ 52 := by
  have := msr_bd h.2.2.2
  have := h.2.2.1
  omega
theorem WOk.pat {xs : TL} (h : WOk xs) : ∃ T, PatT xs T := by
  have hm := h.msr
  obtain ⟨x, T, h1, h2, h3⟩ := roi_means (Mine.msr xs + 1) (srt xs) (srt_ne h.1) (by rw [msr_srt]; omega)
  refine ⟨T, ⟨x, ?_, Rg.le (by omega) h1⟩, h2.trans (srt_perm xs)⟩
  rw [Mine.pat, h3]
  simp [cls]
theorem WOk.len {xs : TL} (h : WOk xs) : (Mine.pat xs).length ≤ 500 := by
  have hm := h.msr
  have := roi_len (Mine.msr xs + 1) (srt xs) [40] (srt_ne h.1)
  rw [msr_srt] at this
  unfold Mine.pat
  simp only [List.length_cons, List.length_nil] at this
  omega
theorem PatT.bd {xs T : TL} (h : PatT xs T) (k : WOk xs) : Bd 4 12 T := ⟨by rw [h.2.length_eq]; exact k.2.2.1, fun x hx => k.2.2.2 x (h.2.mem_iff.mp hx)⟩
theorem PatT.ne {xs T : TL} (h : PatT xs T) : T ≠ [] := let ⟨⟨_, _, r⟩, _⟩ := h; Rg.ne _ _ _ r
theorem PatT.srt {xs T : TL} (h : PatT xs T) : Mine.srt T = Mine.srt xs := srt_uniq ((srt_perm T).trans h.2) (srt_pw T)
theorem PatT.rg {xs T : TL} (h : PatT xs T) : Rg 61 (pat xs) T := by
  obtain ⟨⟨y, e, r⟩, _⟩ := h
  have := rg_row (n := 60) (r := [(pat xs, T)]) (List.forall_mem_singleton.mpr (.inl (by rw [e]; exact .grp r)))
  simpa [rowT, rowM, prods_one] using this
/-- one pattern behind the other -/
def pats (xss : List TL) : List Nat := xss.flatMap pat
theorem pats_nil : pats [] = [] := rfl
theorem pats_cons (xs : TL) (xss : List TL) : pats (xs :: xss) = pat xs ++ pats xss := rfl
theorem pats_app (a b : List TL) : pats (a ++ b) = pats a ++ pats b := by simp [pats]
theorem pats_one (xs : TL) : pats [xs] = pat xs := by simp [pats]
theorem pats_row {xss Ts : List TL} (h : Paired PatT xss Ts) : ∃ r : List It, (∀ i ∈ r, Item (Rg 60) i) ∧ rowT r = pats xss ∧ rowM r = Ts := by
  induction h with
  | nil => exact ⟨[], fun _ h => (nomatch h), rfl, rfl⟩
  | @cons xs T l1 l2 hF _ ih =>
    obtain ⟨r, h1, h2, h3⟩ := ih
    obtain ⟨⟨y, e, g⟩, _⟩ := hF
    refine ⟨(pat xs, T) :: r, List.forall_mem_cons.mpr ⟨.inl (by rw [e]; exact .grp g), h1⟩, ?_, ?_⟩
    · rw [rowT_cons, h2, pats_cons]
    · simp only [rowM, List.map_cons] at h3 ⊢
      rw [h3]
theorem pats_means {xss Ts : List TL} (h : Paired PatT xss Ts) : Rg 61 (pats xss) (prods Ts) := by
  obtain ⟨r, h1, h2, h3⟩ := pats_row h
  rw [← h2, ← h3]
  exact rg_row h1
theorem pats_len {xss : List TL} (h : ∀ xs ∈ xss, WOk xs) : (pats xss).length ≤ 500 * xss.length := by
  induction xss with
  | nil => simp [pats]
  | cons xs xss ih =>
    have h1 := (h xs (.head _)).len
    have h2 := ih fun y hy => h y (.tail _ hy)
    rw [pats_cons, List.length_append, List.length_cons]; omega
theorem bd_prods : ∀ {Ts : List TL}, (∀ T ∈ Ts, Bd 4 12 T) → Bd (4 ^ Ts.length) (12 * Ts.length) (prods Ts)
  | [], _ => ⟨by simp [prods_nil], fun x hx => by simp [prods_nil] at hx; subst hx; simp⟩
  | T :: Ts, h => by
    obtain ⟨a1, a2⟩ := h T (.head _)
    obtain ⟨b1, b2⟩ := bd_prods fun y hy => h y (.tail _ hy)
    rw [prods_cons]
    refine ⟨?_, fun x hx => ?_⟩
    · rw [prod_length, List.length_cons, Nat.pow_succ, Nat.mul_comm]
      exact Nat.mul_le_mul b1 a1
    · obtain ⟨a, ha, b, hb, rfl⟩ := mem_prod.mp hx
      have := a2 a ha
      have := b2 b hb
      rw [List.length_append, List.length_cons]; omega
theorem bd_prods3 {Ts : List TL} (h : ∀ T ∈ Ts, Bd 4 12 T) (hl : Ts.length ≤ 3) : Bd 10000 10000 (prods Ts) := by
  obtain ⟨h1, h2⟩ := bd_prods h
  have : 4 ^ Ts.length ≤ 4 ^ 3 := Nat.pow_le_pow_right (by decide) hl
  exact ⟨by omega, fun x hx => by have := h2 x hx; omega⟩
theorem pairedAll {α β : Type} {F : α → β → Prop} {P : β → Prop} {l : List α} {r : List β} (h : Paired F l r) (k : ∀ a ∈ l, ∀ b, F a b → P b) : ∀ b ∈ r, P b := by
  induction h with
  | nil => intro _ h; cases h
  | cons hF _ ih =>
    intro b hb
    rcases List.mem_cons.mp hb with rfl | hb
    · exact k _ (.head _) _ hF
    · exact ih (fun a ha => k a (.tail _ ha)) b hb
theorem pairedMake {α β : Type} {F : α → β → Prop} : ∀ {l : List α}, (∀ a ∈ l, ∃ b, F a b) → ∃ r, Paired F l r
  | [], _ => ⟨[], .nil⟩
  | a :: l, h => by
    obtain ⟨b, hb⟩ := h a (.head _)
    obtain ⟨r, hr⟩ := pairedMake fun x hx => h x (.tail _ hx)
    exact ⟨b :: r, .cons hb hr⟩
section
open PySem.SeqAt
variable {prog : Program} {w : World} {A : Around} {E : Value → Shared → Prop} {s : Shared} {l : Addr} {vs : List Value} {xs : List (List Nat)} {Q : Value → Shared → Prop}
/-- sorted, of a list of texts -/
theorem sortedL (hl : s.heap.IsList l vs.toArray) (hvs : StrsAre vs (xs.map S)) (h64 : xs.length < 64)
    (h : ∀ h' D (out : List Value) e, Kp s.heap h' → s.heap.get? D = none → h'.get? D = some (PySem.W.listOf out.toArray e) → StrsAre out ((srt xs).map S) → Q (.ref D) { s with heap := h' }) :
    wpAny (model prog w) A (call (.builtin "sorted") [.ref l]) Q E s := by
  have hlen : vs.length = xs.length := by rw [strsLen hvs, List.length_map]
  have hz : vs.length ≤ sizeLine := by
    have : (1000000 : Nat) ≤ sizeLine := by decide
    omega
  refine sortedColl (collect_list hl ⟨_, hvs, by omega, fun h' out ss' e hkp hD ho hp hso => ?_⟩ hz)
  have hk : Kp s.heap ((s.heap.push (seqObj "list" #[] 0)).update s.heap.objs.size (Obj.mapSeq (· ++ vs.toArray))) := fun b o e =>
    (Heap.get?_update_other _ _ (fun q => Nat.lt_irrefl _ (q ▸ Heap.lt_size e))).trans (Heap.get?_push_of_some _ e)
  refine h h' _ out e (fun b o q => hkp b o (hk b o q)) ?_ (by rw [hD]) (by rw [← sorted_srt hp hso]; exact ho)
  exact Heap.get?_none_of_le (by rw [Heap.size_after_update, Heap.size_push]; exact Nat.le_succ _)
/-- None is among no texts -/
theorem noneIn (hl : s.heap.IsList l vs.toArray) {ys : List Str} (hvs : StrsAre vs ys) (h : Q (.bool false) s) : wpAny (model prog w) A (compareOp .In .none (.ref l)) Q E s := by
  refine in_listAt (fun _ => false) hl (fun y hy => ?_) ?_
  · obtain ⟨i, hi, e⟩ := List.mem_iff_getElem.mp (List.mem_toArray.mp hy)
    have hi2 : i < ys.length := by rw [← strsLen hvs]; exact hi
    obtain ⟨t, ht⟩ := strsAre_at hvs (i := i) (y := ys[i]) (List.getElem?_eq_getElem hi2)
    rw [List.getElem?_eq_getElem hi, e] at ht
    rw [Option.some.inj ht]
    exact EqAt.str_none _ _
  · have : vs.toArray.any (fun _ => false) = false := by simp
    rw [this]
    exact h
end
end Mine
theorem Mine.off58 : True := by w_top off; trivial
-- P31c_st
namespace Mine
/-- the law's own text, as the head has it -/
noncomputable def rawFn (P : Params) : Option FuncData := match (hd.heap_39 P).lookup 240 with
  | some ⟨_, _, .func fd, _⟩ => some fd
  | _ => none
noncomputable def rawBody (P : Params) : List Stmt := match rawFn P with
  | some ⟨_, _, _, .stmts b, _, _, _, _, _, _, _, _, _, _, _⟩ => b
  | _ => []
noncomputable def rawScope (P : Params) : Scope := match rawFn P with
  | some ⟨_, _, _, _, sc, _, _, _, _, _, _, _, _, _, _⟩ => sc
  | _ => default
noncomputable def lawA : { b : List Stmt // ∀ P, rawBody P = b } := ⟨?_, fun P => by conv => lhs; whnf⟩
@[reducible] noncomputable def lawS : { b : Scope // ∀ P, rawScope P = b } := ⟨?_, fun P => by conv => lhs; whnf⟩
/-- the law's frame -/
noncomputable abbrev lawEnv (L : Addr) : Env := envOfC "law" lawS.1 L 240 (.ref 239)
section
variable {w : World} {dp un : Nat} {fr : List Env} {gd : Option (List Code)} {s : Shared} {Q E : Value → Shared → Prop} {loose : List Str} {mean : ExcName → Option Value} {mg mb : Str → Option Value}
/-- the ground for a call that changes one thing of the ledger -/
theorem stGround {h₀ h : Heap} {L : Addr} {m : Str → Option Value} {own rest : List (Addr × Obj)} {st : Addr} {o : Obj} (F : Fr h₀ L h m) (N : News h₀ L h (own ++ (st, o) :: rest)) :
    Kp h₀ (hideAll h [st]) ∧ (hideAll h [st]).get? st = none ∧ ∀ q ∈ own ++ rest, q.1 ≠ st → (hideAll h [st]).get? q.1 = some q.2 := by
  have hst := N (st, o) (List.mem_append_right _ (.head _))
  refine ⟨fun b ob e => hideAll_get _ (F.keep b ob e) fun z => ?_, hideAll_none _ (.head _), fun q hq hne => hideAll_get _ (N q ?_).1 fun z => hne (List.mem_singleton.mp z)⟩
  · rw [List.mem_singleton.mp z, hst.2.2] at e; cases e
  · rcases List.mem_append.mp hq with hq | hq
    · exact List.mem_append_left _ hq
    · exact List.mem_append_right _ (.tail _ hq)
/-- _law_next, the numbers in the ledger too -/
theorem next_st {h₀ : Heap} {L : Addr} {m : Str → Option Value} {own rest : List (Addr × Obj)} {st nA : Addr} {ns : List Int} {vs : List Value} {at_ : Nat} {t tm : Tok} {many : Int} {c c2 : Nat} (F : Fr h₀ L s.heap m)
  (N : News h₀ L s.heap (own ++ (st, liObj #[.ref nA, .int at_ t] c) :: rest)) (hne : ∀ q ∈ own ++ rest, q.1 ≠ st)
  (X : (hd.heap_39 w.params).In h₀) (T : Top topProg loose mean mg mb h₀) (hA : dp + 2 < recursionLimit)
  (hnA : (nA, PySem.W.listOf vs.toArray c2) ∈ own ++ rest) (hi : IntsAre vs ns) (hn : ∀ n ∈ ns, 0 ≤ n ∧ n ≤ 1000003) (hlen : 3 ≤ ns.length ∧ ns.length ≤ 100) (hat : at_ ≤ 100000) (hm : 1 ≤ many ∧ many ≤ 100)
  (ret : ∀ h' tk' c' t' r u, Fr h₀ L h' m → News h₀ L h' (own ++ (st, liObj #[.ref nA, .int ((at_ + 1 : Nat) : Int) t'] c') :: rest) → 0 ≤ r → r < many → (∀ b o, b ≠ st → s.heap.get? b = some o → h'.get? b = some o) → Q (.int r u) { s with heap := h', toks := tk' }) :
  wpAny (model PySem.Challenge.rw_ev0005_01.row.prog w) (Ar dp un (some fr) gd) (call (.ref 192) [.ref st, .int many tm]) Q E s := by
  have hst := N (st, liObj #[.ref nA, .int at_ t] c) (List.mem_append_right _ (.head _))
  obtain ⟨g1, g2, g3⟩ := stGround F N
  refine next_c (B := hideAll s.heap [st]) (fun b o e => of_hideAll _ e) (X.keeps g1) (T.keeps g1) hA hst.1 g2 ⟨_, g3 _ hnA (hne _ hnA), rfl, c2, rfl⟩ hi hn hlen hat hm fun h' tk' c' t' r u hk hg h0 h1 => ?_
  obtain ⟨F2, N2⟩ := tabSet (o' := liObj #[.ref nA, .int ((at_ + 1 : Nat) : Int) t'] c') F N hne hk hg
  exact ret h' tk' c' t' r u F2 N2 h0 h1 hk
/-- _law_words, likewise -/
theorem lwords_st {h₀ : Heap} {L : Addr} {m : Str → Option Value} {own rest : List (Addr × Obj)} {st nA : Addr} {ns : List Int} {vs : List Value} {at_ : Nat} {t : Tok} {c c2 : Nat} (F : Fr h₀ L s.heap m)
  (N : News h₀ L s.heap (own ++ (st, liObj #[.ref nA, .int at_ t] c) :: rest)) (hne : ∀ q ∈ own ++ rest, q.1 ≠ st)
  (X : (hd.heap_39 w.params).In h₀) (T : Top topProg loose mean mg mb h₀) (hA : dp + 4 < recursionLimit) (hU : un + 100 < cLine)
  (hnA : (nA, PySem.W.listOf vs.toArray c2) ∈ own ++ rest) (hi : IntsAre vs ns) (hn : ∀ n ∈ ns, 0 ≤ n ∧ n ≤ 1000003) (hlen : 3 ≤ ns.length ∧ ns.length ≤ 100) (hat : at_ ≤ 1000)
  (ret : ∀ h' tk' c' t' k' D ws cw xs, Fr h₀ L h' m → News h₀ L h' ((D, PySem.W.listOf (List.toArray ws) cw) :: (own ++ (st, liObj #[.ref nA, .int ((k' : Nat) : Int) t'] c') :: rest)) → (∀ q ∈ own ++ rest, q.1 ≠ D) → D ≠ st → k' ≤ at_ + 100 → (∀ b o, b ≠ st → s.heap.get? b = some o → h'.get? b = some o) →
    StrsAre ws (xs.map S) → WOk xs → Q (.ref D) { s with heap := h', toks := tk' }) :
  wpAny (model PySem.Challenge.rw_ev0005_01.row.prog w) (Ar dp un (some fr) gd) (call (.ref 211) [.ref st]) Q E s := by
  have hst := N (st, liObj #[.ref nA, .int at_ t] c) (List.mem_append_right _ (.head _))
  obtain ⟨g1, g2, g3⟩ := stGround F N
  refine lwords_c (B := hideAll s.heap [st]) (fun b o e => of_hideAll _ e) (X.keeps g1) (T.keeps g1) hA hU hst.1 g2 ⟨_, g3 _ hnA (hne _ hnA), rfl, c2, rfl⟩ hi hn hlen hat fun h' tk' c' t' k' D ws cw xs hk hg hk' hD hDo hws h1 h2 h3 h4 => ?_
  obtain ⟨F2, N2⟩ := tabSet (o' := liObj #[.ref nA, .int ((k' : Nat) : Int) t'] c') F N hne hk hg
  have hDst : D ≠ st := fun z => by
    have e : s.heap.get? st = some (liObj #[.ref nA, .int at_ t] c) := hst.1
    rw [← z, hD] at e; cases e
  have hDN : ∀ q ∈ own ++ rest, q.1 ≠ D := fun q hq z => by
    have : s.heap.get? q.1 = some q.2 := by
      rcases List.mem_append.mp hq with hq | hq
      · exact (N q (List.mem_append_left _ hq)).1
      · exact (N q (List.mem_append_right _ (.tail _ hq))).1
    rw [z, hD] at this; cases this
  refine ret h' tk' c' t' k' D ws cw xs F2 (fun p hp => ?_) hDN hDst hk' hk hws ⟨h1, h2, h3, h4⟩
  rcases List.mem_cons.mp hp with rfl | hp
  · refine ⟨hDo, fun z => ?_, ?_⟩
    · obtain ⟨oL, _, _, hL, _⟩ := F.ns
      have z' : D = L := z
      rw [z', hL] at hD; cases hD
    · cases e : h₀.get? D with
      | none => rfl
      | some o' => rw [F.keep _ _ e] at hD; cases hD
  · exact N2 p hp
end
section
variable {prog : Program} {w : World} {A : Around} {E : Value → Shared → Prop} {s : Shared}
/-- the block's list goes to its name: back to the frame around it -/
theorem compStore {h₀ : Heap} {L C D : Addr} {m mC : Str → Option Value} {oL : Obj} {news : List (Addr × Obj)} {env : Env} {y : Str} {py : Pos} {P : Unit → Shared → Prop} (hLoc : env.locals = L) (F : Fr h₀ C s.heap mC) (N : News h₀ C s.heap ((L, oL) :: news))
    (hL : s.heap.Ns L m) (hab : h₀.objs.size ≤ L) (hn : ∀ p ∈ news, p.1 ≠ L) (hy : env.kindOf y = some .local) (hp : (env.scope.kind == .class || (env.scope.kind == .module && env.locals != env.globals)) = false)
    (h : ∀ h₂ tk, h₂.Ns C mC → (∀ h', Heap.SameBut C h₂ h' → Fr h₀ L h' (fun z => if z = y then some (.ref D) else m z) ∧ News h₀ L h' news) → P () { s with heap := h₂, toks := tk }) :
    wpAny (model prog w) A (assign (.Name y py) env (.ref D)) P E s := by
  subst hLoc
  have hLC : env.locals ≠ C := (N _ (.head _)).2.1
  refine wpAny_assign_Name (wpAny_storeName_local (env := env) hy hL (fun h₂ hn₂ hs₂ => ?_) hp)
  refine h h₂ _ (F.ns.sameBut hs₂ hLC.symm) fun h' hs' => ⟨⟨hn₂.sameBut hs' hLC, fun b o e => ?_, hab⟩, fun p hp => ?_⟩
  · exact hs'.extBut b o (Nat.ne_of_lt (Nat.lt_of_lt_of_le (Heap.lt_size e) F.above)) (hs₂.extBut b o (Nat.ne_of_lt (Nat.lt_of_lt_of_le (Heap.lt_size e) hab)) (F.keep b o e))
  · have := N p (.tail _ hp)
    exact ⟨hs'.extBut _ _ this.2.1 (hs₂.extBut _ _ (hn p hp) this.1), hn p hp, this.2.2⟩
end
end Mine
theorem Mine.off59 : True := by w_top off; trivial
-- P32_gx
namespace Mine
theorem TabG.drop {W W' : List (Addr × Obj)} {h₀ : Heap} {ps : Array Value} (x : TabG W h₀ ps) (k : ∀ p ∈ W, IsCd p.2 → p ∈ W') : TabG W' h₀ ps := by
  refine ⟨x.tri, fun pos h1 h2 => ?_⟩
  rcases x.lam pos h1 h2 with e | ⟨c', o, vs, t, e, hd, hv, hne, ho⟩
  · exact .inl e
  · exact .inr ⟨c', o, vs, t, e, hd, hv, hne, ho.imp id fun z => k _ z ⟨vs, _, t, hd, hv⟩⟩
/-- after words.get: the instance goes, the code that was made stays -/
theorem getEnd {h₁ h' : Heap} {L : Addr} {a b : Addr × Obj} {ps' : Array Value} {KT own G : List (Addr × Obj)} (N1 : News h₁ L h' (a :: b :: (145, tabObj ps') :: (KT ++ (own ++ G)))) (k1 : ∀ p ∈ KT, IsCd p.2 ∧ p.1 ≠ 145)
    (ho : ∀ q ∈ own, ¬ IsCd q.2 ∧ q.1 ≠ 145) (hG : ∀ p ∈ G, p.1 ≠ 145 ∧ ∀ q ∈ own, p.1 ≠ q.1) (tab : TabG (KT ++ (own ++ G)) h₁ ps') :
    News h₁ L h' ((145, tabObj ps') :: (own ++ (KT ++ G))) ∧ (∀ p ∈ KT ++ G, p.1 ≠ 145 ∧ ∀ q ∈ own, p.1 ≠ q.1) ∧ TabG (KT ++ G) h₁ ps' := by
  refine ⟨fun p hp => N1 p ?_, fun p hp => ?_, tab.drop fun p hp hc => ?_⟩
  · rcases List.mem_cons.mp hp with rfl | hp
    · exact .tail _ (.tail _ (.head _))
    · refine .tail _ (.tail _ (.tail _ ?_))
      rcases List.mem_append.mp hp with hp | hp
      · exact List.mem_append_right _ (List.mem_append_left _ hp)
      · rcases List.mem_append.mp hp with hp | hp
        · exact List.mem_append_left _ hp
        · exact List.mem_append_right _ (List.mem_append_right _ hp)
  · rcases List.mem_append.mp hp with hp | hp
    · refine ⟨(k1 p hp).2, fun q hq => ?_⟩
      exact cdNe N1 (.tail _ (.tail _ (.tail _ (List.mem_append_left _ hp)))) (.tail _ (.tail _ (.tail _ (List.mem_append_right _ (List.mem_append_left _ hq))))) (k1 p hp).1 (ho q hq).1
    · exact hG p hp
  · rcases List.mem_append.mp hp with hp | hp
    · exact List.mem_append_left _ hp
    · rcases List.mem_append.mp hp with hp | hp
      · exact absurd hc (ho p hp).1
      · exact List.mem_append_right _ hp
/-- what stands between two statements of the law -/
structure Gx (w : World) (loose : List Str) (mean : ExcName → Option Value) (mg mb : Str → Option Value) (B b₀ : Heap) (fr : List Env) (L : Addr) (h₀ h : Heap) (m : Str → Option Value) (ps : Array Value) (G : List (Addr × Obj)) : Prop where
  kw : Kw fr [] b₀ h₀
  fl : Fl B fr h₀
  inn : (hd.heap_39 w.params).In h₀
  top : Top topProg loose mean mg mb h₀
  frm : Fr h₀ L h m
  nw : News h₀ L h ((145, tabObj ps) :: G)
  ne : ∀ p ∈ G, p.1 ≠ 145
  tab : TabG G h₀ ps
theorem TLs.mono {P P' : Lk} (k : ∀ a o, P a o → P' a o) {vs : List Value} {Us : List TL} (h : TLs P vs Us) : TLs P' vs Us := pairedMono (fun _ _ ⟨us, h1, h2⟩ => ⟨us, h1.mono k, h2⟩) h
end Mine
theorem Mine.off60 : True := by w_top off; trivial
-- P33a_lists
namespace Mine
local macro_rules | `(tactic| walk_at "pyIter ref") => `(tactic| refine Mine.stop ?_)
local macro_rules | `(tactic| walk_at "call builtin:list.append") => `(tactic| refine Mine.stop ?_)
section
variable {h₀ h : Heap} {L : Addr} {a b c d e f g k : Addr × Obj} {l : List (Addr × Obj)}
theorem st1 (N : News h₀ L h (a :: b :: c :: l)) : News h₀ L h (c :: a :: b :: l) := mv2 N
theorem st2 (N : News h₀ L h (d :: k :: a :: b :: c :: e :: f :: g :: l)) : News h₀ L h (a :: d :: b :: c :: e :: f :: g :: k :: l) := fun p hp => N p (by grind)
theorem st3 (N : News h₀ L h (a :: b :: c :: d :: e :: f :: l)) : News h₀ L h (b :: a :: f :: l) := fun p hp => N p (by grind)
end
section
variable {w : World} {dp un : Nat} {fr : List Env} {gd : Option (List Code)} {s : Shared} {E : Value → Shared → Prop} {loose : List Str} {mean : ExcName → Option Value} {mg mb : Str → Option Value} {h₀ : Heap} {L : Addr} {m : Str → Option Value} {ps : Array Value} {Qf : Flow → Shared → Prop}
theorem st_lists {st nA : Addr} {vs : List Value} {ns : List Int} {c c2 : Nat} {t : Tok} {oC : Obj} (F : Fr h₀ L s.heap m) (X : (hd.heap_39 w.params).In h₀) (T : Top topProg loose mean mg mb h₀) (hA : dp + 200 < recursionLimit) (hU : un + 200 < cLine)
  (N : News h₀ L s.heap [(st, liObj #[.ref nA, .int (0 : Nat) t] c), (nA, PySem.W.listOf vs.toArray c2), ((L + 1 : Nat), oC), (145, tabObj ps)]) (hcv : oC.data = .cell (some (.ref st))) (hne : ∀ q ∈ [(nA, PySem.W.listOf vs.toArray c2), ((L + 1 : Nat), oC), (145, tabObj ps)], q.1 ≠ st)
  (hi : IntsAre vs ns) (hn : ∀ n ∈ ns, 0 ≤ n ∧ n ≤ 1000003) (hlen : 3 ≤ ns.length ∧ ns.length ≤ 100)
  (next : ∀ h tk m' LS lvs cl G xss, Fr h₀ L h m' → News h₀ L h ((LS, PySem.W.listOf (List.toArray lvs) cl) :: (145, tabObj ps) :: G) → (∀ p ∈ G, p.1 ≠ 145) → LS ≠ 145 → TLs (InG G) lvs xss → (∀ xs ∈ xss, WOk xs) → xss ≠ [] → xss.length ≤ 3 → m' "lists" = some (.ref LS) →
    wpAny (model PySem.Challenge.rw_ev0005_01.row.prog w) ((Ar dp un (some fr) gd).deeper (lawEnv L)) (execs (lawA.1.drop 2) (lawEnv L)) Qf E { s with heap := h, toks := tk }) :
  wpAny (model PySem.Challenge.rw_ev0005_01.row.prog w) ((Ar dp un (some fr) gd).deeper (lawEnv L)) (execs (lawA.1.drop 1) (lawEnv L)) Qf E s := by
  revert X; k_fill; intro X
  have hdp : (Ar dp un (some fr) gd).depth = dp := rfl
  have hab := F.above
  show wpAny _ _ (execs (_ :: lawA.1.drop 2) _) _ _ _
  dsimp only [lawEnv, lawS]
  walk_at "M steps"
  walk_at "M go"
  with_reducible refine' assignCompJ (L := L) ?c0 ?c1 ?c2 ?c3 ?c4 ?c5 ?_ ?c7
  (case c0 => exact rfl); (case c1 => exact rfl); (case c2 => exact rfl); (case c3 => decide +kernel); (case c4 => exact rfl); (case c5 => decide +kernel); (case c7 => intro _; rfl)
  walk_at "M steps"
  walk_at "M go"
  refine ⟨by k_in, ?_⟩
  refine next_st (own := []) (rest := [(nA, _), (L + 1, oC), (145, _)]) F N hne X T (by omega) (.head _) hi hn hlen (by decide) (by decide) fun h₂ tk₂ c3 t3 r u F2 N2 h0 h1 hk => ?_
  simp only [List.nil_append] at N2
  clear F N
  walk_at "M steps"
  walk_at "M go"
  (with_reducible rename Fr _ _ _ _ => F3); (with_reducible rename News _ _ _ _ => N3); rename IsRange _ _ _ _ _ _ _ _ => hR
  obtain ⟨cn, hcn⟩ : ∃ cn : Nat, 1 + r = (cn : Int) := ⟨(1 + r).toNat, by omega⟩
  rw [hcn] at hR
  have hcn3 : 1 ≤ cn ∧ cn ≤ 3 := by omega
  refine iterR F3 N3 hR (by omega) fun I h₈ F8 N8 lI hk8 => ?_
  clear F3 N3
  refine ⟨I, h₀, _, _, rfl, F8, N8, fun D C oL h tk F4 N4 hns hk4 lD hLD hDC => ?_⟩
  simp only [List.forall_mem_cons] at lI lD
  obtain ⟨lI1, lI2, lI3, lI4⟩ : @LT.lt Nat _ st I ∧ @LT.lt Nat _ nA I ∧ @LT.lt Nat _ (L + 1) I ∧ @LT.lt Nat _ 145 I := ⟨lI.1, lI.2.1, lI.2.2.1, lI.2.2.2.1⟩
  have lD0 : @LT.lt Nat _ I D := lD.1
  have hLD' : @LT.lt Nat _ L D := hLD
  simp only [List.forall_mem_cons] at hne
  obtain ⟨ne1, ne2, ne3⟩ : @Ne Nat nA st ∧ @Ne Nat (L + 1) st ∧ @Ne Nat 145 st := ⟨hne.1, hne.2.1, hne.2.2.1⟩
  have hLst : @Ne Nat st L := (N8 _ (.tail _ (.head _))).2.1
  have hIL : @Ne Nat I L := (N8 _ (.head _)).2.1
  have hnL : ∀ p ∈ [(nA, PySem.W.listOf vs.toArray c2), ((L + 1 : Nat), oC), (145, tabObj ps)], p.1 ≠ L := fun p hp => (N8 p (.tail _ (.tail _ hp))).2.1
  clear F8 N8
  dsimp only
  refine ⟨cn, fun i s' => ∃ h tk mC vals cv G k' t' c' xss, s' = { s with heap := h, toks := tk } ∧ Fr h₀ C h mC ∧ News h₀ C h ((I, riObj i ((cn : Int) - i)) :: (D, PySem.W.listOf (List.toArray vals) cv) :: (L, oL) :: (st, liObj #[.ref nA, .int (k' : Nat) t'] c') :: (nA, PySem.W.listOf vs.toArray c2) :: ((L + 1 : Nat), oC) :: (145, tabObj ps) :: G) ∧
    h.Ns L m ∧ (∀ p ∈ G, p.1 ≠ I ∧ p.1 ≠ D ∧ p.1 ≠ st ∧ p.1 ≠ L ∧ p.1 ≠ 145) ∧ TLs (InG G) vals xss ∧ (∀ xs ∈ xss, WOk xs) ∧ xss.length = i ∧ k' ≤ 1 + 100 * i, ⟨h, _, _, [], 0, [], 1, t3, c3, [], rfl, F4, ?_, hns, (fun _ h => nomatch h), .nil, (fun _ h => nomatch h), rfl, by omega⟩, wpAny_pyIter_rangeiter (step := 1) (by exact (N4 _ (.tail _ (.tail _ (.head _)))).1) ⟨rfl, rfl⟩, ?_, ?_⟩
  · rw [show ((0 : Nat) : Int) = 0 by rfl, Int.sub_zero]
    exact st1 N4
  · rintro i s₃ hlt ⟨h, tk, mC, vals, cv, G, k', t', c', xss, rfl, F, N, hns, hG, hvals, hok, hlen2, hk'⟩
    have hvl : vals.length = xss.length := hvals.length
    refine nextR F N ?_ (by omega) fun h₄ t4 tk4 F4 N4 hk4 => ⟨_, rfl, ?_⟩
    · simp only [List.forall_mem_cons]
      exact ⟨neN (by (try dsimp only); omega), neN (by (try dsimp only); omega), neN (by (try dsimp only); omega), neN (by (try dsimp only); omega), neN (by (try dsimp only); omega), neN (by (try dsimp only); omega), fun p hp => (hG p hp).1⟩
    have hLo := (N _ (.tail _ (.tail _ (.head _)))).1
    have hns4 := nsAt hns hLo (N4 _ (.tail _ (.tail _ (.head _)))).1
    clear F N hns
    refine assignX F4 N4 (by decide +kernel) rfl fun h₅ tk₅ F5 N5 hk5 => ?_
    have hns5 := nsAt hns4 (N4 _ (.tail _ (.tail _ (.head _)))).1 (N5 _ (.tail _ (.tail _ (.head _)))).1
    clear F4 N4 hns4
    walk_at "M steps"
    walk_at "M go"
    refine ⟨by k_in, ?_⟩
    refine lwords_st (own := [(I, _), (D, _), (L, oL)]) (rest := (nA, _) :: (L + 1, oC) :: (145, _) :: G) F5 N5 ?_ X T (by omega) (show un + 3 + 100 < cLine by omega) (.tail _ (.tail _ (.tail _ (.head _)))) hi hn hlen (by omega) fun h₆ tk₆ c6 t6 k6 D6 ws6 cw6 xs6 F6 N6 hDN hDst hk6 hkp6 hws6 hx6 => ?_
    · simp only [List.cons_append, List.nil_append, List.forall_mem_cons]
      exact ⟨neN (by (try dsimp only); omega), neN (by (try dsimp only); omega), hLst.symm, ne1, ne2, ne3, fun p hp => (hG p hp).2.2.1⟩
    simp only [List.cons_append, List.nil_append] at N6 hDN
    have hns6 := nsAt hns5 (N5 _ (.tail _ (.tail _ (.head _)))).1 (N6 _ (.tail _ (.tail _ (.tail _ (.head _))))).1
    clear F5 N5 hns5
    simp only [List.forall_mem_cons] at hDN
    obtain ⟨d1, d2, d3, d4, d5, d6, d7⟩ := hDN
    walk_at "M steps"
    walk_at "M go"
    refine append_head (rest := (D6, PySem.W.listOf (List.toArray ws6) cw6) :: (I, riObj ((i : Int) + 1) ((cn : Int) - i - 1)) :: (L, oL) :: (st, liObj #[.ref nA, .int (k6 : Nat) t6] c6) :: (nA, PySem.W.listOf vs.toArray c2) :: ((L + 1 : Nat), oC) :: (145, tabObj ps) :: G) F6 (mv2 N6) ?_ (fun h7 F7 N7 => ?_) (hsz := fitL (vs := vals) (by omega))
    · simp only [List.forall_mem_cons]
      exact ⟨d2.symm, neN (by (try dsimp only); omega), neN (by (try dsimp only); omega), neN (by (try dsimp only); omega), neN (by (try dsimp only); omega), neN (by (try dsimp only); omega), neN (by (try dsimp only); omega), fun p hp => (hG p hp).2.1⟩
    have hns7 := nsAt hns6 (N6 _ (.tail _ (.tail _ (.tail _ (.head _))))).1 (N7 _ (.tail _ (.tail _ (.tail _ (.head _))))).1
    clear F6 N6 hns6
    dsimp only
    rw [show (i : Int) + 1 = ((i + 1 : Nat) : Int) by omega, show (cn : Int) - i - 1 = (cn : Int) - ((i + 1 : Nat) : Int) by omega] at N7
    refine ⟨_, _, _, vals ++ [.ref D6], _, (D6, PySem.W.listOf (List.toArray ws6) cw6) :: G, k6, t6, c6, xss ++ [xs6], rfl, F7, by rw [pushL]; exact st2 N7, hns7, ?_, ?_, ?_, by rw [List.length_append, hlen2]; rfl, by omega⟩
    · exact List.forall_mem_cons.mpr ⟨⟨d1.symm, d2.symm, hDst, d3.symm, d6.symm⟩, hG⟩
    · exact (hvals.mono fun _ _ h => .tail _ h).snoc ⟨_, ⟨_, _, rfl, .head _⟩, hws6⟩
    · intro xs hxs
      rcases List.mem_append.mp hxs with h | h
      · exact hok _ h
      · rw [List.mem_singleton.mp h]; exact hx6
  · rintro s₃ ⟨h, tk, mC, vals, cv, G, k', t', c', xss, rfl, F, N, hns, hG, hvals, hok, hlen2, hk'⟩
    refine nextR_end rfl F N ?_ (by omega) fun h₄ F4 N4 hk4 => ⟨rfl, ?_⟩
    · simp only [List.forall_mem_cons]
      exact ⟨neN (by (try dsimp only); omega), neN (by (try dsimp only); omega), neN (by (try dsimp only); omega), neN (by (try dsimp only); omega), neN (by (try dsimp only); omega), neN (by (try dsimp only); omega), fun p hp => (hG p hp).1⟩
    have hns4 := nsAt hns (N _ (.tail _ (.tail _ (.head _)))).1 (N4 _ (.tail _ (.head _))).1
    clear F N hns
    refine compStore (news := (D, PySem.W.listOf (List.toArray vals) cv) :: (145, tabObj ps) :: G) (L := L) (m := m) ?e1 F4 (st3 N4) hns4 ?_ ?_ ?e2 ?e3 fun h₃ tk₃ hC3 hk3 => ⟨_, hC3, fun h₅ hs5 => ?_⟩
    (case e1 => exact rfl); (case e2 => exact rfl); (case e3 => exact rfl)
    · exact hab
    · simp only [List.forall_mem_cons]
      exact ⟨neN (by (try dsimp only); omega), (hnL (145, tabObj ps) (.tail _ (.tail _ (.head _)))), fun p hp => (hG p hp).2.2.2.1⟩
    obtain ⟨F5, N5⟩ := hk3 h₅ hs5
    exact next h₅ _ _ D vals cv G xss F5 N5 (fun p hp => (hG p hp).2.2.2.2) (neN (by omega)) hvals hok (fun z => by rw [z] at hlen2; simp at hlen2; omega) (by omega) rfl
end
end Mine
theorem Mine.off61 : True := by w_top off; trivial
-- P33b_kept
namespace Mine
local macro_rules | `(tactic| walk_at "pyIter ref") => `(tactic| refine Mine.stop ?_)
local macro_rules | `(tactic| walk_at "call builtin:list.append") => `(tactic| refine Mine.stop ?_)
local macro_rules | `(tactic| walk_at "call type:list") => `(tactic| refine Mine.stop ?_)
section
variable {h₀ h : Heap} {L : Addr} {a b c d e k : Addr × Obj} {K G l : List (Addr × Obj)}
theorem kp1 (N : News h₀ L h (d :: k :: a :: b :: c :: e :: (K ++ G))) : News h₀ L h (a :: d :: b :: c :: e :: ((k :: K) ++ G)) := fun p hp => N p (by grind)
theorem kp2 (N : News h₀ L h (d :: a :: b :: c :: l)) : News h₀ L h (a :: c :: b :: d :: l) := fun p hp => N p (by grind)
theorem kp3 (N : News h₀ L h (d :: a :: b :: c :: l)) : News h₀ L h (c :: b :: d :: l) := fun p hp => N p (by grind)
end
section
variable {w : World} {dp un : Nat} {fr : List Env} {gd : Option (List Code)} {s : Shared} {E : Value → Shared → Prop} {loose : List Str} {mean : ExcName → Option Value} {mg mb : Str → Option Value} {h₀ : Heap} {L : Addr} {m : Str → Option Value} {ps : Array Value} {Qf : Flow → Shared → Prop} {G : List (Addr × Obj)}
theorem st_kept {LS : Addr} {lvs : List Value} {cl : Nat} {xss : List TL} (F : Fr h₀ L s.heap m) (X : (hd.heap_39 w.params).In h₀) (T : Top topProg loose mean mg mb h₀) (hA : dp + 200 < recursionLimit) (hU : un + 200 < cLine)
  (N : News h₀ L s.heap ((LS, PySem.W.listOf (List.toArray lvs) cl) :: (145, tabObj ps) :: G)) (hG : ∀ p ∈ G, p.1 ≠ 145) (hLS : LS ≠ 145) (hv : TLs (InG G) lvs xss) (hok : ∀ xs ∈ xss, WOk xs) (hn : xss.length ≤ 3) (m1 : m "lists" = some (.ref LS))
  (next : ∀ h tk m' KP kvs ck K, Fr h₀ L h m' → News h₀ L h ((145, tabObj ps) :: (LS, PySem.W.listOf (List.toArray lvs) cl) :: (KP, PySem.W.listOf (List.toArray kvs) ck) :: (K ++ G)) → (∀ p ∈ (LS, PySem.W.listOf (List.toArray lvs) cl) :: (KP, PySem.W.listOf (List.toArray kvs) ck) :: (K ++ G), p.1 ≠ 145) →
    TLs (InG K) kvs xss → m' "lists" = some (.ref LS) → m' "kept" = some (.ref KP) →
    wpAny (model PySem.Challenge.rw_ev0005_01.row.prog w) ((Ar dp un (some fr) gd).deeper (lawEnv L)) (execs (lawA.1.drop 3) (lawEnv L)) Qf E { s with heap := h, toks := tk }) :
  wpAny (model PySem.Challenge.rw_ev0005_01.row.prog w) ((Ar dp un (some fr) gd).deeper (lawEnv L)) (execs (lawA.1.drop 2) (lawEnv L)) Qf E s := by
  revert X; k_fill; intro X
  have hdp : (Ar dp un (some fr) gd).depth = dp := rfl
  have hab := F.above
  have hlv : lvs.length = xss.length := hv.length
  show wpAny _ _ (execs (_ :: lawA.1.drop 3) _) _ _ _
  dsimp only [lawEnv, lawS]
  walk_at "M steps"
  walk_at "M go"
  with_reducible refine' assignCompJ (L := L) ?c0 ?c1 ?c2 ?c3 ?c4 ?c5 ?_ ?c7
  (case c0 => exact rfl); (case c1 => exact rfl); (case c2 => exact rfl); (case c3 => decide +kernel); (case c4 => exact rfl); (case c5 => decide +kernel); (case c7 => intro _; rfl)
  walk_at "M steps"
  walk_at "M go"
  refine iterL F N (isL_news N (.head _)) fun I h₈ F8 N8 lI hk8 => ?_
  refine ⟨I, h₀, _, _, rfl, F8, N8, fun D C oL h tk F4 N4 hns hk4 lD hLD hDC => ?_⟩
  simp only [List.forall_mem_cons] at lI lD
  obtain ⟨lI1, lI2⟩ : @LT.lt Nat _ LS I ∧ @LT.lt Nat _ 145 I := ⟨lI.1, lI.2.1⟩
  have lIG : ∀ p ∈ G, p.1 < I := lI.2.2
  have lD0 : @LT.lt Nat _ I D := lD.1
  have hLD' : @LT.lt Nat _ L D := hLD
  have hIL : @Ne Nat I L := (N8 _ (.head _)).2.1
  have hLSL : @Ne Nat LS L := (N8 _ (.tail _ (.head _))).2.1
  have hTL : @Ne Nat 145 L := (N8 _ (.tail _ (.tail _ (.head _)))).2.1
  have hGL : ∀ p ∈ G, p.1 ≠ L := fun p hp => (N8 p (.tail _ (.tail _ (.tail _ hp)))).2.1
  clear F8 N8
  dsimp only
  refine ⟨xss.length, fun i s' => ∃ h tk mC vals cv K, s' = { s with heap := h, toks := tk } ∧ Fr h₀ C h mC ∧ News h₀ C h ((I, itObj LS i) :: (D, PySem.W.listOf (List.toArray vals) cv) :: (L, oL) :: (LS, PySem.W.listOf (List.toArray lvs) cl) :: (145, tabObj ps) :: (K ++ G)) ∧
    h.Ns L m ∧ (∀ p ∈ K, p.1 ≠ I ∧ p.1 ≠ D ∧ p.1 ≠ L ∧ p.1 ≠ 145) ∧ TLs (InG K) vals (xss.take i), ⟨h, _, _, [], 0, [], rfl, F4, mv2 N4, hns, (fun _ h => nomatch h), .nil⟩, wpAny_pyIter_listiter ⟨_, N4.get (.tail _ (.tail _ (.head _))), rfl, rfl⟩ ⟨rfl, rfl⟩, ?_, ?_⟩
  · rintro i s₃ hlt ⟨h, tk, mC, vals, cv, K, rfl, F, N, hns, hK, hvals⟩
    have hvl : vals.length = (xss.take i).length := hvals.length
    rw [List.length_take] at hvl
    obtain ⟨rv, hrv, us, ⟨ra, rc, rfl, hra⟩, hus⟩ := pairedAt hv (List.getElem?_eq_getElem hlt)
    have hxi := hok _ (List.getElem_mem hlt)
    have hul : us.length = xss[i].length := by rw [strsLen hus, List.length_map]
    have hul4 := hxi.2.2.1
    refine nextL F N ?_ (isL_news N (.tail _ (.tail _ (.tail _ (.head _))))) (by simpa using hrv) fun h₄ F4 N4 hk4 => ⟨_, rfl, ?_⟩
    · simp only [List.forall_mem_cons]
      refine ⟨neN (by (try dsimp only); omega), neN (by (try dsimp only); omega), neN (by (try dsimp only); omega), neN (by (try dsimp only); omega), fun p hp => ?_⟩
      rcases List.mem_append.mp hp with hp | hp
      · exact (hK p hp).1
      · exact Nat.ne_of_lt (lIG p hp)
    have hns4 := nsAt hns (N _ (.tail _ (.tail _ (.head _)))).1 (N4 _ (.tail _ (.tail _ (.head _)))).1
    clear F N hns
    refine assignX F4 N4 (by decide +kernel) rfl fun h₅ tk₅ F5 N5 hk5 => ?_
    have hns5 := nsAt hns4 (N4 _ (.tail _ (.tail _ (.head _)))).1 (N5 _ (.tail _ (.tail _ (.head _)))).1
    clear F4 N4 hns4
    walk_at "M steps"
    walk_at "M go"
    refine list_copyK (l := ra) (items := us.toArray) F5 N5 (isL_news N5 (.tail _ (.tail _ (.tail _ (.tail _ (.tail _ (List.mem_append_right _ hra))))))) (fun D6 c6 h6 F6 N6 l6 => ?_) (fitL (by omega))
    have hns6 := nsAt hns5 (N5 _ (.tail _ (.tail _ (.head _)))).1 (N6 _ (.tail _ (.tail _ (.tail _ (.head _))))).1
    clear F5 N5 hns5
    simp only [List.forall_mem_cons] at l6
    obtain ⟨j1, j2, j3, j4, j5⟩ : @LT.lt Nat _ I D6 ∧ @LT.lt Nat _ D D6 ∧ @LT.lt Nat _ L D6 ∧ @LT.lt Nat _ LS D6 ∧ @LT.lt Nat _ 145 D6 := ⟨l6.1, l6.2.1, l6.2.2.1, l6.2.2.2.1, l6.2.2.2.2.1⟩
    walk_at "M steps"
    walk_at "M go"
    refine append_head (rest := (D6, PySem.W.listOf us.toArray c6) :: (I, itObj LS (i + 1)) :: (L, oL) :: (LS, PySem.W.listOf (List.toArray lvs) cl) :: (145, tabObj ps) :: (K ++ G)) F6 (mv2 N6) ?_ (fun h7 F7 N7 => ?_) (hsz := fitL (vs := vals) (by omega))
    · simp only [List.forall_mem_cons]
      refine ⟨neN (by (try dsimp only); omega), neN (by (try dsimp only); omega), neN (by (try dsimp only); omega), neN (by (try dsimp only); omega), neN (by (try dsimp only); omega), fun p hp => ?_⟩
      rcases List.mem_append.mp hp with hp | hp
      · exact (hK p hp).2.1
      · exact Nat.ne_of_lt (Nat.lt_trans (lIG p hp) lD0)
    have hns7 := nsAt hns6 (N6 _ (.tail _ (.tail _ (.tail _ (.head _))))).1 (N7 _ (.tail _ (.tail _ (.tail _ (.head _))))).1
    clear F6 N6 hns6
    dsimp only
    refine ⟨_, _, _, vals ++ [.ref D6], _, (D6, PySem.W.listOf us.toArray c6) :: K, rfl, F7, by rw [pushL]; exact kp1 N7, hns7, ?_, ?_⟩
    · exact List.forall_mem_cons.mpr ⟨⟨neN (by (try dsimp only); omega), neN (by (try dsimp only); omega), neN (by (try dsimp only); omega), neN (by (try dsimp only); omega)⟩, hK⟩
    · rw [List.take_succ_eq_append_getElem hlt]
      exact (hvals.mono fun _ _ h => .tail _ h).snoc ⟨_, ⟨_, _, rfl, .head _⟩, hus⟩
  · rintro s₃ ⟨h, tk, mC, vals, cv, K, rfl, F, N, hns, hK, hvals⟩
    refine nextL_end rfl F N ?_ (isL_news N (.tail _ (.tail _ (.tail _ (.head _))))) (by simp; omega) fun h₄ F4 N4 hk4 => ⟨rfl, ?_⟩
    · simp only [List.forall_mem_cons]
      refine ⟨neN (by (try dsimp only); omega), neN (by (try dsimp only); omega), neN (by (try dsimp only); omega), neN (by (try dsimp only); omega), fun p hp => ?_⟩
      rcases List.mem_append.mp hp with hp | hp
      · exact (hK p hp).1
      · exact Nat.ne_of_lt (lIG p hp)
    have hns4 := nsAt hns (N _ (.tail _ (.tail _ (.head _)))).1 (N4 _ (.tail _ (.head _))).1
    clear F N hns
    rw [List.take_length] at hvals
    refine compStore (news := (D, PySem.W.listOf (List.toArray vals) cv) :: (LS, PySem.W.listOf (List.toArray lvs) cl) :: (145, tabObj ps) :: (K ++ G)) (L := L) (m := m) ?e1 F4 (newsSwap N4) hns4 hab ?_ ?e2 ?e3 fun h₃ tk₃ hC3 hk3 => ⟨_, hC3, fun h₅ hs5 => ?_⟩
    (case e1 => exact rfl); (case e2 => exact rfl); (case e3 => exact rfl)
    · simp only [List.forall_mem_cons]
      refine ⟨neN (by (try dsimp only); omega), hLSL, hTL, fun p hp => ?_⟩
      rcases List.mem_append.mp hp with hp | hp
      · exact (hK p hp).2.2.1
      · exact hGL p hp
    obtain ⟨F5, N5⟩ := hk3 h₅ hs5
    refine next h₅ _ _ D vals cv K F5 (fun p hp => N5 p (by
      rcases List.mem_cons.mp hp with rfl | hp
      · exact .tail _ (.tail _ (.head _))
      rcases List.mem_cons.mp hp with rfl | hp
      · exact .tail _ (.head _)
      rcases List.mem_cons.mp hp with rfl | hp
      · exact .head _
      · exact .tail _ (.tail _ (.tail _ hp)))) ?_ hvals m1 rfl
    simp only [List.forall_mem_cons]
    refine ⟨hLS, neN (by (try dsimp only); omega), fun p hp => ?_⟩
    rcases List.mem_append.mp hp with hp | hp
    · exact (hK p hp).2.2.2
    · exact hG p hp
end
end Mine
theorem Mine.off62 : True := by w_top off; trivial
-- P33c_ahead
namespace Mine
local macro_rules | `(tactic| walk_at "pyIter ref") => `(tactic| refine Mine.stop ?_)
theorem gt1 {h₀ h : Heap} {L : Addr} {a b c d : Addr × Obj} {l : List (Addr × Obj)} (N : News h₀ L h (a :: b :: c :: d :: l)) : News h₀ L h (a :: b :: d :: c :: l) := fun p hp => N p (by grind)
section
variable {w : World} {dp un : Nat} {fr : List Env} {gd : Option (List Code)} {s : Shared} {E : Value → Shared → Prop} {loose : List Str} {mean : ExcName → Option Value} {mg mb : Str → Option Value} {B b₀ h₀ : Heap} {L : Addr} {m : Str → Option Value} {ps : Array Value} {G : List (Addr × Obj)} {Qf : Flow → Shared → Prop}
theorem st_ahead {LS : Addr} {lvs : List Value} {cl : Nat} {xss : List TL} (gx : Gx w loose mean mg mb B b₀ fr L h₀ s.heap m ps G) (XB : (hd.heap_39 w.params).In B) (TB : Top topProg loose mean mg mb B) (hA : dp + 200 < recursionLimit) (hU : un + 200 < cLine)
  (hE : PassesOwn (model PySem.Challenge.rw_ev0005_01.row.prog w) ((Ar dp un (some fr) gd).deeper (lawEnv L)) (lawEnv L) E)
  (hLS : (LS, PySem.W.listOf (List.toArray lvs) cl) ∈ G) (hv : TLs (InG G) lvs xss) (hok : ∀ xs ∈ xss, WOk xs) (hn : xss.length ≤ 3)
  (m1 : m "lists" = some (.ref LS))
  (next : ∀ h tk m' h₁ ps' G' g d t t2, Gx w loose mean mg mb B b₀ fr L h₁ h m' ps' G' → (∀ p ∈ G, p ∈ G') → GensOk s.gens g → (∀ z : Str, z ≠ "told" → z ≠ "ahead" → z ≠ "behind" → m' z = m z) → m' "ahead" = some (.str (S (pats xss)) t) → m' "behind" = some (.str (S []) t2) →
    wpAny (model PySem.Challenge.rw_ev0005_01.row.prog w) ((Ar dp un (some fr) gd).deeper (lawEnv L)) (execs (lawA.1.drop 5) (lawEnv L)) Qf E { s with heap := h, toks := tk, gens := g, drawn := d }) :
  wpAny (model PySem.Challenge.rw_ev0005_01.row.prog w) ((Ar dp un (some fr) gd).deeper (lawEnv L)) (execs (lawA.1.drop 3) (lawEnv L)) Qf E s := by
  obtain ⟨W₀, GF, X, T, F, N, hne, tab⟩ := gx
  have hlen0 : lvs.length = xss.length := hv.length
  have hdp : (Ar dp un (some fr) gd).depth = dp := rfl
  revert X; k_fill; intro X
  show wpAny _ _ (execs (_ :: _ :: lawA.1.drop 5) _) _ _ _
  dsimp only [lawEnv, lawS] at hE ⊢
  walk_at "M steps"
  walk_at "M go"
  (with_reducible rename Fr _ _ _ _ => FA); (with_reducible rename News _ _ _ _ => NA)
  obtain ⟨mA, FB, NB, a1, ⟨t1, a2⟩, ⟨t2, a3⟩⟩ : ∃ mA, Fr h₀ L _ mA ∧ News h₀ L _ ((145, tabObj ps) :: G) ∧ (∀ z : Str, z ≠ "ahead" → z ≠ "behind" → mA z = m z) ∧ (∃ t, mA "ahead" = some (.str (S []) t)) ∧ ∃ t, mA "behind" = some (.str (S []) t) :=
    ⟨_, FA, fun p hp => NA p (.tail _ hp), fun z h1 h2 => by rw [if_neg h2, if_neg h1], ⟨_, by rw [← lit_0]; rfl⟩, ⟨_, by rw [← lit_0]; rfl⟩⟩
  have m1A : mA "lists" = some (.ref LS) := (a1 _ (by decide) (by decide)).trans m1
  clear FA NA
  refine forJ ?_ ?hs ?ht ?hE
  (case hs => intro _; rfl)
  (case ht => intro _ _; rfl)
  (case hE => exact hE)
  walk_at "M steps"
  walk_at "M go"
  refine iterL FB NB (isL_news NB (.tail _ hLS)) fun I h₈ F8 N8 lI hk8 => ?_
  clear FB NB
  have hI145 : @LT.lt Nat _ 145 I := lI _ (.head _)
  have hIG : ∀ p ∈ G, p.1 ≠ 145 ∧ p.1 ≠ I := fun p hp => ⟨hne p hp, Nat.ne_of_lt (lI _ (.tail _ hp))⟩
  refine ⟨I, xss.length, fun i s' => ∃ h tk m' h₁ ps' G' g d t, s' = { s with heap := h, toks := tk, gens := g, drawn := d } ∧ Kw fr [] b₀ h₁ ∧ Fl B fr h₁ ∧ (hd.heap_39 w.params).In h₁ ∧ Top topProg loose mean mg mb h₁ ∧ Fr h₁ L h m' ∧ News h₁ L h ((145, tabObj ps') :: (I, itObj LS i) :: G') ∧
      (∀ p ∈ G', p.1 ≠ 145 ∧ p.1 ≠ I) ∧ TabG G' h₁ ps' ∧ (∀ p ∈ G, p ∈ G') ∧ GensOk s.gens g ∧ (∀ z : Str, z ≠ "told" → z ≠ "ahead" → m' z = mA z) ∧ m' "ahead" = some (.str (S (pats (xss.take i))) t), rfl,
    ⟨h₈, _, mA, h₀, ps, G, _, _, t1, rfl, W₀, GF, X, T, F8, newsSwap N8, hIG, tab, fun _ h => h, .refl, fun _ _ _ => rfl, a2⟩, ?_, ?_⟩
  · clear X T W₀ GF F8 N8
    rintro i s₃ hi ⟨h, tk, m', h₁, ps', G', g, d, t, rfl, W1, GF1, X1, T1, F, N, hG', tab1, hsub, hg, b1, b2⟩
    obtain ⟨rv, hrv, us, ⟨ra, rc, rfl, hra⟩, hus⟩ := pairedAt hv (List.getElem?_eq_getElem hi)
    have hxi := hok _ (List.getElem_mem hi)
    refine nextL F (newsSwap N) ?_ (isL_news N (.tail _ (.tail _ (hsub _ hLS)))) (by simpa using hrv) fun h₄ F4 N4 hk4 => ⟨_, rfl, ?_⟩
    · exact List.forall_mem_cons.mpr ⟨Nat.ne_of_lt hI145, fun p hp => (hG' p hp).2⟩
    clear F N
    walk_at "M steps"
    walk_at "M go"
    refine ⟨by k_in, ?_⟩
    (with_reducible rename Fr _ _ _ _ => F5); (with_reducible rename News _ _ _ _ => N5)
    refine words_p F5 N5 X1 T1 (show dp + 1 + 3 < recursionLimit by omega) fun h₆ tk₆ x dx t3 t4 t5 t6 t7 F6 N6 l6 l7 => ?_
    clear F5 N5
    walk_at "M steps"
    walk_at "M go"
    dsimp only
    rw [lit_0] at N6
    have hpl : (pats (xss.take i)).length ≤ 1500 := by
      have h1 := pats_len (xss := xss.take i) fun xs hxs => hok _ (List.mem_of_mem_take hxs)
      rw [List.length_take] at h1; omega
    refine get_in (env := envOfC "law" lawS.1 L 240 (.ref 239)) (W := (I, itObj LS (i + 1)) :: G') (p := pats (xss.take i)) (q := []) (by rfl) (by rfl) GF1 XB TB W1 F6 (gt1 N6) (tab1.more fun _ h => .tail _ h) (List.forall_mem_cons.mpr ⟨Nat.ne_of_gt hI145, fun p hp => (hG' p hp).1⟩) (.tail _ (hsub _ hra)) hus hxi.2.1 hxi.1
      (by have := hxi.msr; omega) (by have := hxi.2.2.1; omega) (by omega) (by simp) (show dp + 1 + 150 < recursionLimit by omega) fun h' tk' t8 ps2 g' d' h₂ KT W2 GF2 X2 T2 F7 k1 N7 tab2 hg2 => ?_
    obtain ⟨N8, hG2, tab3⟩ := getEnd (own := [(I, itObj LS (i + 1))]) N7 k1 (List.forall_mem_singleton.mpr ⟨cd_it, Nat.ne_of_gt hI145⟩) (fun p hp => ⟨(hG' p hp).1, List.forall_mem_singleton.mpr (hG' p hp).2⟩) tab2
    clear F6 N6 N7 tab2 X1 T1 W1 GF1
    walk_at "M steps"
    walk_at "M go"
    (with_reducible rename Fr _ _ _ _ => F9); (with_reducible rename News _ _ _ _ => N9)
    dsimp only
    refine ⟨_, _, _, h₂, ps2, KT ++ G', _, _, t8, rfl, W2, GF2, X2, T2, F9, N9, fun p hp => ⟨(hG2 p hp).1, (hG2 p hp).2 _ (.head _)⟩, tab3, fun p hp => List.mem_append_right _ (hsub p hp), hg.trans hg2, fun z h1 h2 => (if_neg h2).trans ((if_neg h1).trans (b1 z h1 h2)), (if_pos rfl).trans ?_⟩
    rw [List.take_succ_eq_append_getElem hi, pats_app, pats_one, List.append_nil]
  · rintro s₃ ⟨h, tk, m', h₁, ps', G', g, d, t, rfl, W1, GF1, X1, T1, F, N, hG', tab1, hsub, hg, b1, b2⟩
    refine nextL_end rfl F (newsSwap N) ?_ (isL_news N (.tail _ (.tail _ (hsub _ hLS)))) (by simp; omega) fun h₄ F4 N4 hk4 => ⟨rfl, ?_⟩
    · exact List.forall_mem_cons.mpr ⟨Nat.ne_of_lt hI145, fun p hp => (hG' p hp).2⟩
    rw [List.take_length] at b2
    have b3 : m' "behind" = some (.str (S []) t2) := (b1 _ (by decide) (by decide)).trans a3
    clear N F
    dsimp only
    exact next h₄ _ m' h₁ ps' G' g d t t2 ⟨W1, GF1, X1, T1, F4, N4, fun p hp => (hG' p hp).1, tab1⟩ hsub hg (fun z z1 z2 z3 => (b1 z z1 z2).trans (a1 z z2 z3)) b2 b3
end
end Mine
theorem Mine.off63 : True := by w_top off; trivial
-- P33d_behind
namespace Mine
local macro_rules | `(tactic| walk_at "pyIter ref") => `(tactic| refine Mine.stop ?_)
local macro_rules | `(tactic| walk_at "exec If") => `(tactic| ((fail_if_success (have : Mine.NoStop := by assumption)); refine Mine.stop ?_))
local macro_rules | `(tactic| walk_at "M if") => `(tactic| ((try (with_reducible refine Mine.go ?_)); (have ns : Mine.NoStop := ⟨⟩); walk1; clear ns; walk_at "M steps"; walk_at "M go"))
local macro_rules | `(tactic| walk_at "ite") => `(tactic| refine Mine.stop ?_)
local macro_rules | `(tactic| walk_at "compareOp NotEq ref ref") => `(tactic| refine Mine.stop ?_)
/-- the same, the instance kept -/
theorem getKeep {h₁ h' : Heap} {L : Addr} {a b : Addr × Obj} {ps' : Array Value} {KT own G : List (Addr × Obj)} (N1 : News h₁ L h' (a :: b :: (145, tabObj ps') :: (KT ++ (own ++ G)))) : News h₁ L h' (a :: b :: (145, tabObj ps') :: (own ++ (KT ++ G))) := fun p hp => N1 p (by grind)
theorem bh1 {h₀ h : Heap} {L : Addr} {a b c d : Addr × Obj} {l : List (Addr × Obj)} (N : News h₀ L h (a :: b :: c :: d :: l)) : News h₀ L h (a :: b :: d :: c :: l) := fun p hp => N p (by grind)
section
variable {w : World} {dp un : Nat} {fr : List Env} {gd : Option (List Code)} {s : Shared} {E : Value → Shared → Prop} {loose : List Str} {mean : ExcName → Option Value} {mg mb : Str → Option Value} {B b₀ h₀ : Heap} {L : Addr} {m : Str → Option Value} {ps : Array Value} {G : List (Addr × Obj)} {Qf : Flow → Shared → Prop}
theorem st_behind {LS : Addr} {lvs : List Value} {cl : Nat} {xss : List TL} {t0 : Tok} (gx : Gx w loose mean mg mb B b₀ fr L h₀ s.heap m ps G) (XB : (hd.heap_39 w.params).In B) (TB : Top topProg loose mean mg mb B) (hA : dp + 200 < recursionLimit) (hU : un + 200 < cLine)
  (hE : PassesOwn (model PySem.Challenge.rw_ev0005_01.row.prog w) ((Ar dp un (some fr) gd).deeper (lawEnv L)) (lawEnv L) E)
  (hLS : (LS, PySem.W.listOf (List.toArray lvs) cl) ∈ G) (hv : TLs (InG G) lvs xss) (hok : ∀ xs ∈ xss, WOk xs) (hn : xss.length ≤ 3)
  (m1 : m "lists" = some (.ref LS)) (m2 : m "behind" = some (.str (S []) t0))
  (next : ∀ h tk m' h₁ ps' G' g d t, Gx w loose mean mg mb B b₀ fr L h₁ h m' ps' G' → (∀ p ∈ G, p ∈ G') → GensOk s.gens g → (∀ z : Str, z ≠ "told" → z ≠ "one" → z ≠ "before" → z ≠ "behind" → m' z = m z) → m' "behind" = some (.str (S (pats xss)) t) →
    wpAny (model PySem.Challenge.rw_ev0005_01.row.prog w) ((Ar dp un (some fr) gd).deeper (lawEnv L)) (execs (lawA.1.drop 6) (lawEnv L)) Qf E { s with heap := h, toks := tk, gens := g, drawn := d }) :
  wpAny (model PySem.Challenge.rw_ev0005_01.row.prog w) ((Ar dp un (some fr) gd).deeper (lawEnv L)) (execs (lawA.1.drop 5) (lawEnv L)) Qf E s := by
  obtain ⟨W₀, GF, X, T, F, N, hne, tab⟩ := gx
  have hlen0 : lvs.length = xss.length := hv.length
  have hdp : (Ar dp un (some fr) gd).depth = dp := rfl
  revert X; k_fill; intro X
  show wpAny _ _ (execs (_ :: lawA.1.drop 6) _) _ _ _
  dsimp only [lawEnv, lawS] at hE ⊢
  walk_at "M steps"
  walk_at "M go"
  refine forJ ?_ ?hs ?ht ?hE
  (case hs => intro _; rfl)
  (case ht => intro _ _; rfl)
  (case hE => exact hE)
  walk_at "M steps"
  walk_at "M go"
  refine' krv_lit (its := lvs.toArray) (zs := lvs.reverse) F N (isL_news N (.tail _ hLS)) (.int _ _) (by simp) ?_ ?hs ?ht (fitL (by omega))
  (case hs => with_unfolding_all rfl)
  (case ht => (intro _; with_unfolding_all rfl))
  intro D h' F2 N2 lD
  have hD145 : @LT.lt Nat _ 145 D := lD _ (.head _)
  have hDG : ∀ p ∈ G, p.1 < D := fun p hp => lD _ (.tail _ hp)
  clear F N
  walk_at "M steps"
  walk_at "M go"
  refine iterL F2 N2 (isL_news N2 (.head _)) fun I h₈ F8 N8 lI hk8 => ?_
  clear F2 N2
  have hI145 : @LT.lt Nat _ 145 I := lI _ (.tail _ (.head _))
  have hID : @LT.lt Nat _ D I := lI _ (.head _)
  have hIG : ∀ p ∈ G, p.1 ≠ 145 ∧ p.1 ≠ I ∧ p.1 ≠ D := fun p hp => ⟨hne p hp, Nat.ne_of_lt (lI _ (.tail _ (.tail _ hp))), Nat.ne_of_lt (hDG p hp)⟩
  refine ⟨I, xss.length, fun i s' => ∃ h tk m' h₁ ps' G' g d t, s' = { s with heap := h, toks := tk, gens := g, drawn := d } ∧ Kw fr [] b₀ h₁ ∧ Fl B fr h₁ ∧ (hd.heap_39 w.params).In h₁ ∧ Top topProg loose mean mg mb h₁ ∧ Fr h₁ L h m' ∧ News h₁ L h ((145, tabObj ps') :: (I, itObj D i) :: (D, PySem.W.listOf lvs.reverse.toArray 0) :: G') ∧
      (∀ p ∈ G', p.1 ≠ 145 ∧ p.1 ≠ I ∧ p.1 ≠ D) ∧ TabG G' h₁ ps' ∧ (∀ p ∈ G, p ∈ G') ∧ GensOk s.gens g ∧ (∀ z : Str, z ≠ "told" → z ≠ "one" → z ≠ "before" → z ≠ "behind" → m' z = m z) ∧ m' "behind" = some (.str (S (pats (xss.drop (xss.length - i)))) t), rfl,
    ⟨h₈, _, m, h₀, ps, G, _, _, t0, rfl, W₀, GF, X, T, F8, fun p hp => N8 p (by
      rcases List.mem_cons.mp hp with rfl | hp
      · exact .tail _ (.tail _ (.head _))
      rcases List.mem_cons.mp hp with rfl | hp
      · exact .head _
      rcases List.mem_cons.mp hp with rfl | hp
      · exact .tail _ (.head _)
      · exact .tail _ (.tail _ (.tail _ hp))), hIG, tab, fun _ h => h, .refl, fun _ _ _ _ _ => rfl, by rw [Nat.sub_zero, List.drop_length]; exact m2⟩, ?_, ?_⟩
  · clear X T W₀ GF F8 N8
    rintro i s₃ hi ⟨h, tk, m', h₁, ps', G', g, d, t, rfl, W1, GF1, X1, T1, F, N, hG', tab1, hsub, hg, b1, b2⟩
    have hj : xss.length - (i + 1) < xss.length := by omega
    obtain ⟨rv, hrv, us, ⟨ra, rc, rfl, hra⟩, hus⟩ := pairedAt hv (List.getElem?_eq_getElem hj)
    have hxi := hok _ (List.getElem_mem hj)
    have hri : lvs.reverse[i]? = some (Value.ref ra) := by
      rw [List.getElem?_reverse (by omega), ← hrv, hlen0]
      congr 1
      omega
    have hdrop : xss.drop (xss.length - (i + 1)) = xss[xss.length - (i + 1)] :: xss.drop (xss.length - i) := by
      rw [List.drop_eq_getElem_cons hj]
      congr 2
      omega
    generalize xss[xss.length - (i + 1)] = xi at *
    refine nextL F (newsSwap N) ?_ (isL_news N (.tail _ (.tail _ (.head _)))) (by simpa using hri) fun h₄ F4 N4 hk4 => ⟨_, rfl, ?_⟩
    · exact List.forall_mem_cons.mpr ⟨Nat.ne_of_lt hI145, List.forall_mem_cons.mpr ⟨Nat.ne_of_lt hID, fun p hp => (hG' p hp).2.1⟩⟩
    clear F N
    walk_at "M steps"
    walk_at "M go"
    refine ⟨by k_in, ?_⟩
    (with_reducible rename Fr _ _ _ _ => F5); (with_reducible rename News _ _ _ _ => N5)
    have hpl : (pats (xss.drop (xss.length - i))).length ≤ 1500 := by
      have h1 := pats_len (xss := xss.drop (xss.length - i)) fun xs hxs => hok _ (List.mem_of_mem_drop hxs)
      rw [List.length_drop] at h1; omega
    generalize hP : pats (xss.drop (xss.length - i)) = P at *
    refine words_s F5 N5 X1 T1 (show dp + 1 + 3 < recursionLimit by omega) fun h₆ tk₆ x dx t3 t4 t5 t6 t7 F6 N6 l6 l7 => ?_
    clear F5 N5
    simp only [List.forall_mem_cons] at l6
    walk_at "M steps"
    walk_at "M go"
    (with_reducible rename Fr _ _ _ _ => F7); (with_reducible rename News _ _ _ _ => N7)
    dsimp only
    rw [lit_0] at N7
    have hW : ∀ p ∈ (I, itObj D (i + 1)) :: (D, PySem.W.listOf lvs.reverse.toArray 0) :: G', p.1 ≠ 145 := List.forall_mem_cons.mpr ⟨Nat.ne_of_gt hI145, List.forall_mem_cons.mpr ⟨Nat.ne_of_gt hD145, fun p hp => (hG' p hp).1⟩⟩
    refine get_in (env := envOfC "law" lawS.1 L 240 (.ref 239)) (W := (I, itObj D (i + 1)) :: (D, PySem.W.listOf lvs.reverse.toArray 0) :: G') (p := []) (q := P) (by rfl) (by rfl) GF1 XB TB W1 F7 (bh1 N7) (tab1.more fun _ h => .tail _ (.tail _ h)) hW (.tail _ (.tail _ (hsub _ hra))) hus hxi.2.1 hxi.1
      (by have := hxi.msr; omega) (by have := hxi.2.2.1; omega) (by simp) (by omega) (show dp + 1 + 150 < recursionLimit by omega) fun h' tk' t8 ps2 g2 d2 h₂ KT W2 GF2 X2 T2 F8 k1 N8 tab2 hg2 => ?_
    clear F7 N7 X1 T1 W1 GF1 tab1
    rw [List.nil_append]
    walk_at "M steps"
    walk_at "M go"
    (with_reducible rename Fr _ _ _ _ => F9); (with_reducible rename News _ _ _ _ => N9)
    obtain ⟨N10, hG2, tab3⟩ := getEnd (own := [(I, itObj D (i + 1)), (D, PySem.W.listOf lvs.reverse.toArray 0)]) (fun p hp => N9 p (.tail _ hp)) k1 (List.forall_mem_cons.mpr ⟨⟨cd_it, Nat.ne_of_gt hI145⟩, List.forall_mem_singleton.mpr ⟨cd_list, Nat.ne_of_gt hD145⟩⟩) (fun p hp => ⟨(hG' p hp).1, List.forall_mem_cons.mpr ⟨(hG' p hp).2.1, List.forall_mem_singleton.mpr (hG' p hp).2.2⟩⟩) tab2
    clear N10 tab2
    obtain ⟨mB, FB, NB, c1, c2, c3, c4, c5⟩ : ∃ mB, Fr h₂ L _ mB ∧ News h₂ L _ ((x, instObj 181 dx) :: (dx, wordsD w t3 t4 t5 ra (S []) (S P) t6 t7) :: (145, tabObj ps2) :: (I, itObj D (i + 1)) :: (D, PySem.W.listOf lvs.reverse.toArray 0) :: (KT ++ G')) ∧ mB "one" = some (.ref x) ∧ mB "told" = some (.ref ra) ∧ mB "before" = some (.str (S P) t) ∧ mB "behind" = some (.str (S (pat xi ++ P)) t8) ∧
        ∀ z : Str, z ≠ "told" → z ≠ "one" → z ≠ "before" → z ≠ "behind" → mB z = m z :=
      ⟨_, F9, getKeep (own := [(I, itObj D (i + 1)), (D, PySem.W.listOf lvs.reverse.toArray 0)]) fun p hp => N9 p (.tail _ hp), rfl, rfl, rfl, rfl, fun z z1 z2 z3 z4 => (if_neg z3).trans ((if_neg z4).trans ((if_neg z2).trans ((if_neg z1).trans (b1 z z1 z2 z3 z4))))⟩
    clear F9 N9
    walk_at "M if"
    dsimp only
    refine get_in (env := envOfC "law" lawS.1 L 240 (.ref 239)) (W := (I, itObj D (i + 1)) :: (D, PySem.W.listOf lvs.reverse.toArray 0) :: (KT ++ G')) (p := []) (q := P) (by rfl) (by rfl) GF2 XB TB W2 FB NB (tab3.more fun _ h => .tail _ (.tail _ h)) (List.forall_mem_cons.mpr ⟨Nat.ne_of_gt hI145, List.forall_mem_cons.mpr ⟨Nat.ne_of_gt hD145, fun p hp => (hG2 p hp).1⟩⟩) (.tail _ (.tail _ (List.mem_append_right _ (hsub _ hra)))) hus hxi.2.1 hxi.1
      (by have := hxi.msr; omega) (by have := hxi.2.2.1; omega) (by simp) (by omega) (show dp + 1 + 150 < recursionLimit by omega) fun h' tk' t9 ps3 g3 d3 h₃ KT2 W3 GF3 X3 T3 F8 k2 N8 tab4 hg3 => ?_
    clear FB NB X2 T2 W2 GF2 tab3
    rw [List.nil_append]
    walk_at "M steps"
    walk_at "M go"
    rw [if_neg (by simp)]
    walk_at "M steps"
    walk_at "M go"
    refine neTexts (isL_news N8 (.tail _ (.tail _ (.tail _ (List.mem_append_right _ (.tail _ (.tail _ (List.mem_append_right _ (hsub _ hra)))))))))  (isL_news N8 (.tail _ (.tail _ (.tail _ (List.mem_append_right _ (.tail _ (.tail _ (List.mem_append_right _ (hsub _ hra))))))))) hus hus (show un + 3 < cLine by omega) ?_
    rw [decide_eq_true rfl]
    walk_at "M steps"
    walk_at "M go"
    rw [if_neg (by decide)]
    walk_at "M steps"
    walk_at "M go"
    rw [if_neg (by decide)]
    walk_at "M steps"
    walk_at "M go"
    rw [if_neg (by simp)]
    walk_at "M steps"
    walk_at "M go"
    rw [if_neg (by decide)]
    walk_at "M steps"
    dsimp only
    obtain ⟨N10, hG3, tab5⟩ := getEnd (own := [(I, itObj D (i + 1)), (D, PySem.W.listOf lvs.reverse.toArray 0)]) N8 k2 (List.forall_mem_cons.mpr ⟨⟨cd_it, Nat.ne_of_gt hI145⟩, List.forall_mem_singleton.mpr ⟨cd_list, Nat.ne_of_gt hD145⟩⟩) hG2 tab4
    refine ⟨_, _, mB, h₃, ps3, KT2 ++ (KT ++ G'), _, _, t8, rfl, W3, GF3, X3, T3, F8, N10, fun p hp => ⟨(hG3 p hp).1, (hG3 p hp).2 _ (.head _), (hG3 p hp).2 _ (.tail _ (.head _))⟩, tab5, fun p hp => List.mem_append_right _ (List.mem_append_right _ (hsub p hp)), (hg.trans hg2).trans hg3, c5, ?_⟩
    rw [hdrop, pats_cons, hP]
    exact c4
  · rintro s₃ ⟨h, tk, m', h₁, ps', G', g, d, t, rfl, W1, GF1, X1, T1, F, N, hG', tab1, hsub, hg, b1, b2⟩
    refine nextL_end rfl F (newsSwap N) ?_ (isL_news N (.tail _ (.tail _ (.head _)))) (by simp; omega) fun h₄ F4 N4 hk4 => ⟨rfl, ?_⟩
    · exact List.forall_mem_cons.mpr ⟨Nat.ne_of_lt hI145, List.forall_mem_cons.mpr ⟨Nat.ne_of_lt hID, fun p hp => (hG' p hp).2.1⟩⟩
    rw [Nat.sub_self, List.drop_zero] at b2
    clear N F
    dsimp only
    exact next h₄ _ m' h₁ ps' G' g d t ⟨W1, GF1, X1, T1, F4, del1 N4, fun p hp => (hG' p hp).1, tab1⟩ hsub hg b1 b2
end
end Mine
theorem Mine.off64 : True := by w_top off; trivial
-- P33e_in
namespace Mine
section
variable {w : World} {dp un : Nat} {fr : List Env} {gd : Option (List Code)} {s : Shared} {Q E : Value → Shared → Prop} {loose : List Str} {mean : ExcName → Option Value} {mg mb : Str → Option Value} {h₀ : Heap} {L : Addr} {m : Str → Option Value} {news own G : List (Addr × Obj)}
/-- _law_read of a whole text, within a frame -/
theorem read_in {x : List Nat} {T : TL} {t ta : Tok} (F : Fr h₀ L s.heap m) (N : News h₀ L s.heap (own ++ G)) (X : (hd.heap_39 w.params).In h₀) (Tp : Top topProg loose mean mg mb h₀) (hA : dp + 70 < recursionLimit) (hR : Rg 61 x T) (hl : x.length ≤ 500000)
  (ret : ∀ h' tk' D RS t Gr Tss, Fr h₀ L h' m → News h₀ L h' ((D, tupObj #[.ref RS, .int (x.length : Nat) t]) :: (own ++ (Gr ++ G))) → (∀ p ∈ Gr, ∀ q ∈ own ++ G, p.1 ≠ q.1) → (D, tupObj #[.ref RS, .int (x.length : Nat) t]) ∈ Gr → RowsV (InG Gr) (Iv (InG Gr) 123) (.ref RS) Tss → meanT Tss = T →
    Kp s.heap h' → Q (.ref D) { s with heap := h', toks := tk' }) :
  wpAny (model PySem.Challenge.rw_ev0005_01.row.prog w) (Ar dp un (some fr) gd) (call (.ref 216) [.str (S x) t, .int 0 ta]) Q E s := by
  have R : ReadAt w loose mean mg mb 61 := read_c 61
  unfold ReadAt at R
  refine R (pre := []) (x := x) (post := []) (tx := x) (X.keeps F.keep) (Tp.keeps F.keep) (by omega) hR (by simp) (.inl rfl) hl fun h' tk' D RS t Gr Tss hk hG hD hrows hmean => ?_
  obtain ⟨N2, hap⟩ := newsAll F N hk hG
  rw [List.nil_append] at hD
  refine ret h' tk' D RS t Gr Tss (F.keeps hk) (fun p hp => N2 p ?_) hap hD hrows hmean hk
  rcases List.mem_cons.mp hp with rfl | hp
  · exact List.mem_append_left _ hD
  · rcases List.mem_append.mp hp with hp | hp
    · exact List.mem_append_right _ (List.mem_append_left _ hp)
    · rcases List.mem_append.mp hp with hp | hp
      · exact List.mem_append_left _ hp
      · exact List.mem_append_right _ (List.mem_append_right _ hp)
theorem texts_in {l : Addr} {Gr : List (Addr × Obj)} {Tss : List (List TL)} {T : TL} (F : Fr h₀ L s.heap m) (N : News h₀ L s.heap news) (X : (hd.heap_39 w.params).In h₀) (Tp : Top topProg loose mean mg mb h₀) (hA : dp + 130 < recursionLimit)
  (hr : RowsV (InG Gr) (Iv (InG Gr) 123) (.ref l) Tss) (hsub : ∀ p ∈ Gr, p ∈ news) (hT : meanT Tss = T) (hB : Bd 10000 10000 T)
  (ret : ∀ h' tk' D vs c, Fr h₀ L h' m → News h₀ L h' ((D, PySem.W.listOf (List.toArray vs) c) :: news) → (∀ p ∈ news, p.1 ≠ D) → StrsAre vs (T.map S) → Kp s.heap h' → Q (.ref D) { s with heap := h', toks := tk' }) :
  wpAny (model PySem.Challenge.rw_ev0005_01.row.prog w) (Ar dp un (some fr) gd) (call (.ref 230) [.ref l]) Q E s := by
  have R : TextsAt w loose mean mg mb 123 := texts_c 123
  unfold TextsAt at R
  have hm : ∀ a o, InG Gr a o → Look s.heap a o := fun a o h => (N _ (hsub _ h)).1
  refine R (X.keeps F.keep) (Tp.keeps F.keep) (by omega) (hr.mono hm (Iv.mono hm _)) (hT ▸ hB) fun h' tk' D vs c hk hD hDo hvs => ?_
  obtain ⟨N2, hne⟩ := newsNew F N hk hD hDo
  exact ret h' tk' D vs c (F.keeps hk) N2 hne (hT ▸ hvs) hk
theorem rows_in {l : Addr} {vs0 : List Value} {c0 : Nat} {Gr : List (Addr × Obj)} {Us : List TL} (F : Fr h₀ L s.heap m) (N : News h₀ L s.heap news) (X : (hd.heap_39 w.params).In h₀) (Tp : Top topProg loose mean mg mb h₀) (hA : dp + 2 < recursionLimit)
  (hl : (l, PySem.W.listOf (List.toArray vs0) c0) ∈ news) (hU : TLs (InG Gr) vs0 Us) (hsub : ∀ p ∈ Gr, p ∈ news) (hB : Bd 10000 10000 (prods Us)) (hne : ∀ U ∈ Us, U ≠ [])
  (ret : ∀ h' tk' D vs c, Fr h₀ L h' m → News h₀ L h' ((D, PySem.W.listOf (List.toArray vs) c) :: news) → (∀ p ∈ news, p.1 ≠ D) → StrsAre vs ((prods Us).map S) → Kp s.heap h' → Q (.ref D) { s with heap := h', toks := tk' }) :
  wpAny (model PySem.Challenge.rw_ev0005_01.row.prog w) (Ar dp un (some fr) gd) (call (.ref 235) [.ref l]) Q E s := by
  refine rows_c (X.keeps F.keep) (Tp.keeps F.keep) (by omega) (isL_news N hl) (hU.mono fun a o h => (N _ (hsub _ h)).1) hB hne fun h' tk' D vs c hk hD hDo hvs => ?_
  obtain ⟨N2, hn⟩ := newsNew F N hk hD hDo
  exact ret h' tk' D vs c (F.keeps hk) N2 hn hvs hk
end
section
variable {prog : Program} {w : World} {A : Around} {E : Value → Shared → Prop} {s : Shared}
/-- the first place of a pair -/
theorem tupFst {value slice : Expr} {D : Addr} {a b : Value} {u : Tok} {Q : Value → Shared → Prop} (hD : s.heap.get? D = some (tupObj #[a, b])) (h : Q a s)
    (hs : subscripted slice false (.ref D) (.int 0 u) = operate [.ref D, .int 0 u] (getItem (.ref D) (.int 0 u))) : wpAny (model prog w) A (subscriptTail value slice (.ref D) (.int 0 u)) Q E s := by
  have ht : IsTup s.heap D #[a, b] := ⟨_, hD, rfl, _, rfl⟩
  exact tail_any ht.typeIs F.slot_tuple_getitem.lookup (getItem_tuple ht (j := 0) (by decide) (by decide) (by rfl) (by rfl) h) hs
end
end Mine
theorem Mine.off65 : True := by w_top off; trivial
-- P33f_alone
namespace Mine
local macro_rules | `(tactic| walk_at "M none") => `(tactic| skip)
local macro_rules | `(tactic| walk_at "pyIter ref") => `(tactic| refine Mine.stop ?_)
local macro_rules | `(tactic| walk_at "call builtin:list.append") => `(tactic| refine Mine.stop ?_)
local macro_rules | `(tactic| walk_at "call type:list") => `(tactic| refine Mine.stop ?_)
theorem al1 {h₀ h : Heap} {L : Addr} {a b c d e : Addr × Obj} {l : List (Addr × Obj)} (N : News h₀ L h (a :: b :: c :: d :: e :: l)) : News h₀ L h (e :: a :: b :: c :: d :: l) := fun p hp => N p (by grind)
theorem al2 {h₀ h : Heap} {L : Addr} {a b c d e f : Addr × Obj} {l : List (Addr × Obj)} (N : News h₀ L h (c :: a :: b :: d :: e :: f :: l)) : News h₀ L h (a :: b :: f :: c :: d :: e :: l) := fun p hp => N p (by grind)
theorem al3 {h₀ h : Heap} {L : Addr} {a b c d : Addr × Obj} {l : List (Addr × Obj)} (N : News h₀ L h (a :: b :: c :: d :: l)) : News h₀ L h (b :: a :: c :: d :: l) := fun p hp => N p (by grind)
theorem al4 {h₀ h : Heap} {L : Addr} {a b c d : Addr × Obj} {l : List (Addr × Obj)} (N : News h₀ L h (a :: b :: c :: d :: l)) : News h₀ L h (c :: d :: a :: b :: l) := fun p hp => N p (by grind)
theorem al5 {h₀ h : Heap} {L : Addr} {a b c d : Addr × Obj} {l : List (Addr × Obj)} (N : News h₀ L h (a :: b :: c :: d :: l)) : News h₀ L h (c :: d :: a :: l) := fun p hp => N p (by grind)
theorem al6 {h₀ h : Heap} {L : Addr} {a b c : Addr × Obj} {l : List (Addr × Obj)} (N : News h₀ L h (a :: b :: c :: l)) : News h₀ L h (b :: c :: a :: l) := fun p hp => N p (by grind)
theorem al7 {h₀ h : Heap} {L : Addr} {a b c d e f : Addr × Obj} {l K : List (Addr × Obj)} (N : News h₀ L h (a :: b :: c :: d :: e :: f :: (K ++ l))) : News h₀ L h (d :: a :: c :: e :: f :: l) := fun p hp => N p (by grind)
theorem al8 {h₀ h : Heap} {L : Addr} {a b c d e : Addr × Obj} {l : List (Addr × Obj)} (N : News h₀ L h (a :: b :: c :: d :: e :: l)) : News h₀ L h (c :: a :: d :: e :: b :: l) := fun p hp => N p (by grind)
theorem al9 {h₀ h : Heap} {L : Addr} {a b c : Addr × Obj} {l : List (Addr × Obj)} (N : News h₀ L h (a :: b :: c :: l)) : News h₀ L h (b :: c :: a :: l) := fun p hp => N p (by grind)
theorem bd_big {T : TL} (h : Bd 4 12 T) : Bd 10000 10000 T := ⟨by have := h.1; omega, fun x hx => by have := h.2 x hx; omega⟩
theorem ns_cd {h : Heap} {C : Addr} {m : Str → Option Value} {o : Obj} (hn : h.Ns C m) (ho : h.get? C = some o) : ¬ IsCd o := by
  obtain ⟨o', es, ep, e, hd, _⟩ := hn
  rw [ho] at e
  cases e
  rintro ⟨vs, q, t, h1, _⟩
  rw [hd] at h1; cases h1
section
variable {w : World} {dp un : Nat} {fr : List Env} {gd : Option (List Code)} {s : Shared} {E : Value → Shared → Prop} {loose : List Str} {mean : ExcName → Option Value} {mg mb : Str → Option Value} {B b₀ h₀ : Heap} {L : Addr} {m : Str → Option Value} {ps : Array Value} {G : List (Addr × Obj)} {Qf : Flow → Shared → Prop}
theorem st_alone {LS : Addr} {lvs : List Value} {cl : Nat} {xss Ts : List TL} (gx : Gx w loose mean mg mb B b₀ fr L h₀ s.heap m ps G) (XB : (hd.heap_39 w.params).In B) (TB : Top topProg loose mean mg mb B) (hA : dp + 200 < recursionLimit) (hU : un + 200 < cLine)
  (hLS : (LS, PySem.W.listOf (List.toArray lvs) cl) ∈ G) (hv : TLs (InG G) lvs xss) (hok : ∀ xs ∈ xss, WOk xs) (hn : xss.length ≤ 3) (hpt : Paired PatT xss Ts)
  (m1 : m "lists" = some (.ref LS))
  (next : ∀ h tk m' h₁ ps' G' g d AL avs ca, Gx w loose mean mg mb B b₀ fr L h₁ h m' ps' G' → (∀ p ∈ G, p ∈ G') → GensOk s.gens g → (∀ z : Str, z ≠ "alone" → m' z = m z) → m' "alone" = some (.ref AL) → (AL, PySem.W.listOf (List.toArray avs) ca) ∈ G' → TLs (InG G') avs Ts →
    wpAny (model PySem.Challenge.rw_ev0005_01.row.prog w) ((Ar dp un (some fr) gd).deeper (lawEnv L)) (execs (lawA.1.drop 7) (lawEnv L)) Qf E { s with heap := h, toks := tk, gens := g, drawn := d }) :
  wpAny (model PySem.Challenge.rw_ev0005_01.row.prog w) ((Ar dp un (some fr) gd).deeper (lawEnv L)) (execs (lawA.1.drop 6) (lawEnv L)) Qf E s := by
  obtain ⟨W₀, GF, X, T, F, N, hne, tab⟩ := gx
  have hlen0 : lvs.length = xss.length := hv.length
  have hdp : (Ar dp un (some fr) gd).depth = dp := rfl
  revert X; k_fill; intro X
  show wpAny _ _ (execs (_ :: lawA.1.drop 7) _) _ _ _
  dsimp only [lawEnv, lawS]
  walk_at "M steps"
  walk_at "M go"
  with_reducible refine' assignCompJ (L := L) ?c0 ?c1 ?c2 ?c3 ?c4 ?c5 ?_ ?c7
  (case c0 => exact rfl); (case c1 => exact rfl); (case c2 => exact rfl); (case c3 => decide +kernel); (case c4 => exact rfl); (case c5 => decide +kernel); (case c7 => intro _; rfl)
  walk_at "M steps"
  walk_at "M go"
  refine iterL F N (isL_news N (.tail _ hLS)) fun I h₈ F8 N8 lI hk8 => ?_
  refine ⟨I, h₀, _, _, rfl, F8, N8, fun D C oL h tk F4 N4 hns hk4 lD hLD hDC => ?_⟩
  have lI2 : @LT.lt Nat _ 145 I := lI _ (.head _)
  have lIG : ∀ p ∈ G, p.1 < I := fun p hp => lI _ (.tail _ hp)
  have lD0 : @LT.lt Nat _ I D := lD _ (.head _)
  have hLD' : @LT.lt Nat _ L D := hLD
  have hDC' : @LT.lt Nat _ D C := hDC
  have hIL : @Ne Nat I L := (N8 _ (.head _)).2.1
  have hTL : @Ne Nat 145 L := (N8 _ (.tail _ (.head _))).2.1
  have hGL : ∀ p ∈ G, p.1 ≠ L := fun p hp => (N8 p (.tail _ (.tail _ hp))).2.1
  clear F8 N8
  dsimp only
  refine ⟨xss.length, fun i s' => ∃ h tk mC vals cv G' h₁ ps' g d oL, s' = { s with heap := h, toks := tk, gens := g, drawn := d } ∧ Kw fr [] b₀ h₁ ∧ Fl B fr h₁ ∧ (hd.heap_39 w.params).In h₁ ∧ Top topProg loose mean mg mb h₁ ∧ h₁.objs.size ≤ L ∧ Fr h₁ C h mC ∧
      News h₁ C h ((I, itObj LS i) :: (D, PySem.W.listOf (List.toArray vals) cv) :: (L, oL) :: (145, tabObj ps') :: G') ∧
    h.Ns L m ∧ (∀ p ∈ G', p.1 ≠ I ∧ p.1 ≠ D ∧ p.1 ≠ L ∧ p.1 ≠ C ∧ p.1 ≠ 145) ∧ TabG G' h₁ ps' ∧ (∀ p ∈ G, p ∈ G') ∧ GensOk s.gens g ∧ TLs (InG G') vals (Ts.take i),
    ⟨h, _, _, [], 0, G, h₀, ps, _, _, oL, rfl, W₀, GF, X, T, F.above, F4, mv2 N4, hns, ?_, tab, fun _ h => h, .refl, .nil⟩, wpAny_pyIter_listiter ⟨_, N4.get (.tail _ (.tail _ (.head _))), rfl, rfl⟩ ⟨rfl, rfl⟩, ?_, ?_⟩
  · exact fun p hp => ⟨Nat.ne_of_lt (lIG p hp), Nat.ne_of_lt (Nat.lt_trans (lIG p hp) lD0), hGL p hp, Nat.ne_of_lt (Nat.lt_trans (Nat.lt_trans (lIG p hp) lD0) hDC), hne p hp⟩
  · clear X T W₀ GF F4 N4 hns F N tab
    rintro i s₃ hlt ⟨h, tk, mC, vals, cv, G', h₁, ps', g, d, oL, rfl, W1, GF1, X1, T1, hab, F, N, hns, hG', tab1, hsub, hg, hvals⟩
    have hltT : i < Ts.length := by rw [← hpt.length]; exact hlt
    have hvl : vals.length = (Ts.take i).length := hvals.length
    rw [List.length_take] at hvl
    obtain ⟨rv, hrv, us, ⟨ra, rc, rfl, hra⟩, hus⟩ := pairedAt hv (List.getElem?_eq_getElem hlt)
    have hxi := hok _ (List.getElem_mem hlt)
    obtain ⟨xi', exi, hpi⟩ := pairedAt hpt (List.getElem?_eq_getElem hltT)
    rw [List.getElem?_eq_getElem hlt] at exi
    obtain rfl := Option.some.inj exi
    have hTi : Ts.take (i + 1) = Ts.take i ++ [Ts[i]] := List.take_succ_eq_append_getElem hltT
    generalize Ts[i] = Ti at *
    generalize xss[i] = xi at *
    refine nextL F N ?_ (isL_news N (.tail _ (.tail _ (.tail _ (.tail _ (hsub _ hLS)))))) (by simpa using hrv) fun h₄ F4 N4 hk4 => ⟨_, rfl, ?_⟩
    · simp only [List.forall_mem_cons]
      exact ⟨neN (by (try dsimp only); omega), neN (by (try dsimp only); omega), neN (by (try dsimp only); omega), fun p hp => (hG' p hp).1⟩
    have hns4 := nsAt hns (N _ (.tail _ (.tail _ (.head _)))).1 (N4 _ (.tail _ (.tail _ (.head _)))).1
    clear F N hns
    refine assignX F4 N4 (by decide +kernel) rfl fun h₅ tk₅ F5 N5 hk5 => ?_
    have hns5 := nsAt hns4 (N4 _ (.tail _ (.tail _ (.head _)))).1 (N5 _ (.tail _ (.tail _ (.head _)))).1
    clear F4 N4 hns4
    walk_at "M steps"
    walk_at "M go"
    refine ⟨by k_in, ?_⟩
    refine words_n F5 N5 X1 T1 (show dp + 1 + 3 < recursionLimit by omega) fun h₆ tk₆ x dx t3 t4 t5 t6 t7 F6 N6 l6 l7 => ?_
    have hns6 := nsAt hns5 (N5 _ (.tail _ (.tail _ (.head _)))).1 (N6 _ (.tail _ (.tail _ (.tail _ (.tail _ (.head _)))))).1
    clear F5 N5 hns5
    walk_at "M steps"
    walk_at "M go"
    dsimp only
    rw [lit_0] at N6
    simp only [List.forall_mem_cons] at l6
    obtain ⟨x1, x2, x3, x4⟩ : @LT.lt Nat _ I dx ∧ @LT.lt Nat _ D dx ∧ @LT.lt Nat _ L dx ∧ @LT.lt Nat _ 145 dx := ⟨l6.1, l6.2.1, l6.2.2.1, l6.2.2.2.1⟩
    have x5 : @LT.lt Nat _ dx x := l7
    obtain ⟨oC, esC, epC, hoC, rC⟩ := id F6.ns
    have hcC := ns_cd F6.ns hoC
    obtain ⟨F7, N7⟩ := viewOut F6 (al1 N6) hns6 hab (by
      simp only [List.forall_mem_cons]
      exact ⟨neN (by (try dsimp only); omega), neN (by (try dsimp only); omega), hIL, neN (by (try dsimp only); omega), hTL, fun p hp => (hG' p hp).2.2.1⟩) hoC
    have hmC := F6.ns
    clear F6 N6 hns6
    refine get_in (env := envOfC "law" lawS.1 L 240 (.ref 239)) (W := (C, oC) :: (I, itObj LS (i + 1)) :: (D, PySem.W.listOf (List.toArray vals) cv) :: G') (p := []) (q := []) (by rfl) (by rfl) GF1 XB TB W1 F7 (al2 N7) (tab1.more fun _ h => .tail _ (.tail _ (.tail _ h)))
      (by simp only [List.forall_mem_cons]; exact ⟨neN (by (try dsimp only); omega), neN (by (try dsimp only); omega), neN (by (try dsimp only); omega), fun p hp => (hG' p hp).2.2.2.2⟩) (.tail _ (.tail _ (.tail _ (hsub _ hra)))) hus hxi.2.1 hxi.1
      (by have := hxi.msr; omega) (by have := hxi.2.2.1; omega) (by simp) (by simp) (show dp + 1 + 150 < recursionLimit by omega) fun h' tk' t8 ps2 g2 d2 h₂ KT W2 GF2 X2 T2 F8 k1 N8 tab2 hg2 => ?_
    obtain ⟨N9, hG2, tab3⟩ := getEnd (own := [(C, oC), (I, itObj LS (i + 1)), (D, PySem.W.listOf (List.toArray vals) cv)]) N8 k1 (by simp only [List.forall_mem_cons]; exact ⟨⟨hcC, neN (by (try dsimp only); omega)⟩, ⟨cd_it, neN (by (try dsimp only); omega)⟩, ⟨cd_list, neN (by (try dsimp only); omega)⟩, fun _ h => nomatch h⟩)
      (fun p hp => ⟨(hG' p hp).2.2.2.2, by simp only [List.forall_mem_cons]; exact ⟨(hG' p hp).2.2.2.1, (hG' p hp).1, (hG' p hp).2.1, fun _ h => nomatch h⟩⟩) tab2
    obtain ⟨oL2, _, _, hoL2, _⟩ := id F8.ns
    have hKL : ∀ p ∈ KT ++ G', p.1 ≠ L := fun p hp => (N9 p (.tail _ (.tail _ (.tail _ (.tail _ hp))))).2.1
    obtain ⟨FA, NA⟩ := viewIn F8 (al5 N9) (nsAt hmC hoC (N9 _ (.tail _ (.head _))).1) (Nat.lt_trans hLD hDC) (by
      simp only [List.forall_mem_cons]
      exact ⟨neN (by (try dsimp only); omega), neN (by (try dsimp only); omega), neN (by (try dsimp only); omega), fun p hp => (hG2 p hp).2 _ (.head _)⟩) hoL2
    have hnsA := F8.ns
    have hab2 := F8.above
    have NB := al6 NA
    clear F7 N7 N8 N9 NA F8 tab2 X1 T1 W1 GF1 tab1 hmC rC hab
    rw [List.nil_append, List.append_nil]
    walk_at "M steps"
    walk_at "M go"
    refine ⟨by k_in, ?_⟩
    refine read_in (own := [(I, itObj LS (i + 1)), (D, PySem.W.listOf (List.toArray vals) cv), (L, oL2), (145, tabObj ps2)]) (G := KT ++ G') FA NB X2 T2 (show dp + 1 + 70 < recursionLimit by omega) hpi.rg (by have := hxi.len; omega) fun h9 tk9 D9 RS t9 Gr Tss F9 N9 hap hD9 hrows hmean hk9 => ?_
    have hns9 := nsAt hnsA (NB _ (.tail _ (.tail _ (.head _)))).1 (N9 _ (.tail _ (.tail _ (.tail _ (.head _))))).1
    simp only [List.cons_append, List.nil_append] at N9 hap
    clear FA NB hnsA
    walk_at "M steps"
    walk_at "M go"
    refine tupFst (N9 _ (.head _)).1 ?_ (by with_unfolding_all rfl)
    walk_at "M steps"
    walk_at "M go"
    refine ⟨by k_in, ?_⟩
    refine texts_in (Gr := Gr) F9 N9 X2 T2 (show dp + 1 + 130 < recursionLimit by omega) hrows (fun p hp => .tail _ (.tail _ (.tail _ (.tail _ (.tail _ (List.mem_append_left _ hp)))))) hmean (bd_big (hpi.bd hxi)) fun h6 tk6 D6 vs6 c6 F6 N6 hne6 hvs6 hk6 => ?_
    have hns6 := nsAt hns9 (N9 _ (.tail _ (.tail _ (.tail _ (.head _))))).1 (N6 _ (.tail _ (.tail _ (.tail _ (.tail _ (.head _)))))).1
    clear F9 N9 hns9
    simp only [List.forall_mem_cons] at hne6
    obtain ⟨-, e1, e2, e3, e4, e5⟩ := hne6
    walk_at "M steps"
    walk_at "M go"
    refine append_head (rest := (D6, PySem.W.listOf (List.toArray vs6) c6) :: (I, itObj LS (i + 1)) :: (L, oL2) :: (145, tabObj ps2) :: (KT ++ G')) F6 (al7 N6) ?_ (fun h7 F7 N7 => ?_) (hsz := fitL (vs := vals) (by omega))
    · simp only [List.forall_mem_cons]
      exact ⟨e2.symm, neN (by (try dsimp only); omega), neN (by (try dsimp only); omega), neN (by (try dsimp only); omega), fun p hp => (hG2 p hp).2 _ (.tail _ (.tail _ (.head _)))⟩
    have hns7 := nsAt hns6 (N6 _ (.tail _ (.tail _ (.tail _ (.tail _ (.head _)))))).1 (N7 _ (.tail _ (.tail _ (.tail _ (.head _))))).1
    clear F6 N6 hns6
    dsimp only
    refine ⟨_, _, _, vals ++ [.ref D6], _, (D6, PySem.W.listOf (List.toArray vs6) c6) :: (KT ++ G'), h₂, ps2, _, _, oL2, rfl, W2, GF2, X2, T2, hab2, F7, by rw [pushL]; exact al8 N7, hns7, ?_, tab3.more fun _ h => .tail _ h, fun p hp => .tail _ (List.mem_append_right _ (hsub p hp)), hg.trans hg2, ?_⟩
    · refine List.forall_mem_cons.mpr ⟨⟨e1.symm, e2.symm, e3.symm, ?_, e4.symm⟩, fun p hp => ⟨(hG2 p hp).2 _ (.tail _ (.head _)), (hG2 p hp).2 _ (.tail _ (.tail _ (.head _))), hKL p hp, (hG2 p hp).2 _ (.head _), (hG2 p hp).1⟩⟩
      exact (N7 _ (.tail _ (.head _))).2.1
    · rw [hTi]
      exact (hvals.mono fun _ _ h => .tail _ (List.mem_append_right _ h)).snoc ⟨_, ⟨_, _, rfl, .head _⟩, hvs6⟩
  · rintro s₃ ⟨h, tk, mC, vals, cv, G', h₁, ps', g, d, oL, rfl, W1, GF1, X1, T1, hab, F, N, hns, hG', tab1, hsub, hg, hvals⟩
    refine nextL_end rfl F N ?_ (isL_news N (.tail _ (.tail _ (.tail _ (.tail _ (hsub _ hLS)))))) (by simp; omega) fun h₄ F4 N4 hk4 => ⟨rfl, ?_⟩
    · simp only [List.forall_mem_cons]
      exact ⟨neN (by (try dsimp only); omega), neN (by (try dsimp only); omega), neN (by (try dsimp only); omega), fun p hp => (hG' p hp).1⟩
    have hns4 := nsAt hns (N _ (.tail _ (.tail _ (.head _)))).1 (N4 _ (.tail _ (.head _))).1
    clear F N hns
    rw [hpt.length, List.take_length] at hvals
    refine compStore (news := (145, tabObj ps') :: (D, PySem.W.listOf (List.toArray vals) cv) :: G') (L := L) (m := m) ?e1 F4 (al9 N4) hns4 hab ?_ ?e2 ?e3 fun h₃ tk₃ hC3 hk3 => ⟨_, hC3, fun h₅ hs5 => ?_⟩
    (case e1 => exact rfl); (case e2 => exact rfl); (case e3 => exact rfl)
    · simp only [List.forall_mem_cons]
      exact ⟨hTL, neN (by (try dsimp only); omega), fun p hp => (hG' p hp).2.2.1⟩
    obtain ⟨F5, N5⟩ := hk3 h₅ hs5
    exact next h₅ _ _ h₁ ps' ((D, PySem.W.listOf (List.toArray vals) cv) :: G') g d D vals cv ⟨W1, GF1, X1, T1, F5, N5, List.forall_mem_cons.mpr ⟨neN (by (try dsimp only); omega), fun p hp => (hG' p hp).2.2.2.2⟩, tab1.more fun _ h => .tail _ h⟩ (fun p hp => .tail _ (hsub p hp)) hg (fun z hz => if_neg hz) (if_pos rfl) (.head _) (hvals.mono fun _ _ h => .tail _ h)
end
end Mine
theorem Mine.off66 : True := by w_top off; trivial
-- P33g_check
namespace Mine
local macro_rules | `(tactic| walk_at "pyIter ref") => `(tactic| refine Mine.stop ?_)
local macro_rules | `(tactic| walk_at "exec If") => `(tactic| ((fail_if_success (have : Mine.NoStop := by assumption)); refine Mine.stop ?_))
local macro_rules | `(tactic| walk_at "M if") => `(tactic| ((try (with_reducible refine Mine.go ?_)); (have ns : Mine.NoStop := ⟨⟩); walk1; clear ns; walk_at "M steps"; walk_at "M go"))
local macro_rules | `(tactic| walk_at "ite") => `(tactic| refine Mine.stop ?_)
local macro_rules | `(tactic| walk_at "compareOp NotEq ref ref") => `(tactic| refine Mine.stop ?_)
local macro_rules | `(tactic| walk_at "compareOp In") => `(tactic| refine Mine.stop ?_)
section
variable {w : World} {dp un : Nat} {fr : List Env} {gd : Option (List Code)} {s : Shared} {E : Value → Shared → Prop} {loose : List Str} {mean : ExcName → Option Value} {mg mb : Str → Option Value} {B b₀ h₀ : Heap} {L : Addr} {m : Str → Option Value} {ps : Array Value} {G : List (Addr × Obj)} {Qf : Flow → Shared → Prop}
theorem st_check {LS AL : Addr} {lvs avs : List Value} {cl ca : Nat} {xss Ts : List TL} (gx : Gx w loose mean mg mb B b₀ fr L h₀ s.heap m ps G) (hA : dp + 200 < recursionLimit) (hU : un + 200 < cLine)
  (hE : PassesOwn (model PySem.Challenge.rw_ev0005_01.row.prog w) ((Ar dp un (some fr) gd).deeper (lawEnv L)) (lawEnv L) E)
  (hLS : (LS, PySem.W.listOf (List.toArray lvs) cl) ∈ G) (hv : TLs (InG G) lvs xss) (hok : ∀ xs ∈ xss, WOk xs) (hn : xss.length ≤ 3) (hpt : Paired PatT xss Ts)
  (hAL : (AL, PySem.W.listOf (List.toArray avs) ca) ∈ G) (ha : TLs (InG G) avs Ts) (m1 : m "lists" = some (.ref LS)) (m2 : m "alone" = some (.ref AL))
  (next : ∀ h tk m', Fr h₀ L h m' → News h₀ L h ((145, tabObj ps) :: G) → (∀ z : Str, z ≠ "at" → m' z = m z) →
    wpAny (model PySem.Challenge.rw_ev0005_01.row.prog w) ((Ar dp un (some fr) gd).deeper (lawEnv L)) (execs (lawA.1.drop 8) (lawEnv L)) Qf E { s with heap := h, toks := tk }) :
  wpAny (model PySem.Challenge.rw_ev0005_01.row.prog w) ((Ar dp un (some fr) gd).deeper (lawEnv L)) (execs (lawA.1.drop 7) (lawEnv L)) Qf E s := by
  obtain ⟨W₀, GF, X, T, F, N, hne, tab⟩ := gx
  have hlen0 : lvs.length = xss.length := hv.length
  have hdp : (Ar dp un (some fr) gd).depth = dp := rfl
  have hl0 : s.heap.IsList LS lvs.toArray := isL_news N (.tail _ hLS)
  revert X; k_fill; intro X
  show wpAny _ _ (execs (_ :: lawA.1.drop 8) _) _ _ _
  dsimp only [lawEnv, lawS] at hE ⊢
  walk_at "M steps"
  walk_at "M go"
  refine forJ ?_ ?hs ?ht ?hE
  (case hs => intro _; rfl)
  (case ht => intro _ _; rfl)
  (case hE => exact hE)
  walk_at "M steps"
  walk_at "M go"
  (with_reducible rename Fr _ _ _ _ => F1); (with_reducible rename News _ _ _ _ => N1); rename IsRange _ _ _ _ _ _ _ _ => hR
  rw [hlen0] at hR
  refine iterR F1 N1 hR (by omega) fun I h₈ F8 N8 lI hk8 => ?_
  clear F1 N1
  have hI145 : @LT.lt Nat _ 145 I := lI _ (.head _)
  have hIG : ∀ p ∈ G, p.1 ≠ I := fun p hp => Nat.ne_of_lt (lI _ (.tail _ hp))
  refine ⟨I, xss.length, fun i s' => ∃ h tk m', s' = { s with heap := h, toks := tk } ∧ Fr h₀ L h m' ∧ News h₀ L h ((I, riObj i ((xss.length : Int) - i)) :: (145, tabObj ps) :: G) ∧ ∀ z : Str, z ≠ "at" → m' z = m z, rfl, ⟨h₈, _, m, rfl, F8, by simpa using N8, fun _ _ => rfl⟩, ?_, ?_⟩
  · clear F8 N8 hl0
    rintro i s₃ hi ⟨h, tk, m', rfl, F, N, b1⟩
    have hiT : i < Ts.length := by rw [← hpt.length]; exact hi
    obtain ⟨rv, hrv, us, ⟨ra, rc, rfl, hra⟩, hus⟩ := pairedAt hv (List.getElem?_eq_getElem hi)
    obtain ⟨tv, htv, ts, ⟨ta, tc, rfl, hta⟩, hts⟩ := pairedAt ha (List.getElem?_eq_getElem hiT)
    have hxi := hok _ (List.getElem_mem hi)
    obtain ⟨xi', exi, hpi⟩ := pairedAt hpt (List.getElem?_eq_getElem hiT)
    rw [List.getElem?_eq_getElem hi] at exi
    obtain rfl := Option.some.inj exi
    generalize Ts[i] = Ti at *
    generalize xss[i] = xi at *
    have m1' : m' "lists" = some (.ref LS) := (b1 _ (by decide)).trans m1
    have m2' : m' "alone" = some (.ref AL) := (b1 _ (by decide)).trans m2
    refine nextR F N (List.forall_mem_cons.mpr ⟨Nat.ne_of_lt hI145, hIG⟩) (by omega) fun h₉ t9 tk9 F9 N9 hk9 => ⟨_, rfl, ?_⟩
    clear F N
    walk_at "M steps"
    walk_at "M go"
    walk_at "M if"
    (with_reducible rename Fr _ _ _ _ => FA); (with_reducible rename News _ _ _ _ => NA)
    have hiN : ((i : Nat) : Int).toNat = i := rfl
    refine atL (vs := avs) (isL_news NA (.tail _ (.tail _ hAL))) (by omega) (by omega) (by rw [hiN]; exact htv) ?_ (by with_unfolding_all rfl)
    walk_at "M steps"
    walk_at "M go"
    refine noneIn (isL_news NA (.tail _ (.tail _ hta))) hts ?_
    walk_at "M steps"
    walk_at "M go"
    rw [if_neg (by decide)]
    walk_at "M steps"
    walk_at "M go"
    refine atL (vs := avs) (isL_news NA (.tail _ (.tail _ hAL))) (by omega) (by omega) (by rw [hiN]; exact htv) ?_ (by with_unfolding_all rfl)
    walk_at "M steps"
    walk_at "M go"
    refine sortedL (isL_news NA (.tail _ (.tail _ hta))) hts (by have := hpi.2.length_eq; have := hxi.2.2.1; omega) fun h1 D1 out1 e1 hk1 hD1 ho1 hs1 => ?_
    obtain ⟨FB, NB⟩ := frK FA NA hk1
    obtain ⟨NC, hne1⟩ := newsNew FA NA hk1 hD1 ho1
    clear FA NA NB
    walk_at "M steps"
    walk_at "M go"
    refine atL (vs := lvs) (isL_news NC (.tail _ (.tail _ (.tail _ hLS)))) (by omega) (by omega) (by rw [hiN]; exact hrv) ?_ (by with_unfolding_all rfl)
    walk_at "M steps"
    walk_at "M go"
    refine sortedL (isL_news NC (.tail _ (.tail _ (.tail _ hra)))) hus (by have := hxi.2.2.1; omega) fun h2 D2 out2 e2 hk2 hD2 ho2 hs2 => ?_
    obtain ⟨FD, ND⟩ := frK FB NC hk2
    obtain ⟨NE, hne2⟩ := newsNew FB NC hk2 hD2 ho2
    clear FB NC ND
    walk_at "M steps"
    walk_at "M go"
    refine neTexts (isL_news NE (.tail _ (.head _))) (isL_news NE (.head _)) hs1 hs2 (show un + 3 < cLine by omega) ?_
    rw [hpi.srt, decide_eq_true rfl]
    walk_at "M steps"
    walk_at "M go"
    rw [if_neg (by decide)]
    walk_at "M steps"
    walk_at "M go"
    rw [if_neg (by decide)]
    walk_at "M steps"
    dsimp only
    rw [show (i : Int) + 1 = ((i + 1 : Nat) : Int) by omega, show (xss.length : Int) - i - 1 = (xss.length : Int) - ((i + 1 : Nat) : Int) by omega] at NE
    exact ⟨_, _, _, rfl, FD, fun p hp => NE p (.tail _ (.tail _ hp)), fun z hz => (if_neg hz).trans (b1 z hz)⟩
  · rintro s₃ ⟨h, tk, m', rfl, F, N, b1⟩
    refine nextR_end rfl F N (List.forall_mem_cons.mpr ⟨Nat.ne_of_lt hI145, hIG⟩) (by omega) fun h₄ F4 N4 hk4 => ⟨rfl, ?_⟩
    clear F N
    dsimp only
    exact next h₄ _ m' F4 N4 b1
end
end Mine
theorem Mine.off67 : True := by w_top off; trivial
-- P33h_due
namespace Mine
local macro_rules | `(tactic| walk_at "M none") => `(tactic| skip)
local macro_rules | `(tactic| walk_at "M none") => `(tactic| skip)
local macro_rules | `(tactic| walk_at "exec If") => `(tactic| ((fail_if_success (have : Mine.NoStop := by assumption)); refine Mine.stop ?_))
local macro_rules | `(tactic| walk_at "M if") => `(tactic| ((try (with_reducible refine Mine.go ?_)); (have ns : Mine.NoStop := ⟨⟩); walk1; clear ns; walk_at "M steps"; walk_at "M go"))
local macro_rules | `(tactic| walk_at "ite") => `(tactic| refine Mine.stop ?_)
local macro_rules | `(tactic| walk_at "compareOp NotEq ref ref") => `(tactic| refine Mine.stop ?_)
local macro_rules | `(tactic| walk_at "execs") => `(tactic| ((with_reducible show wpAny _ _ (execs (List.drop _ _) _) _ _ _); refine Mine.stop ?_))
section
variable {w : World} {dp un : Nat} {fr : List Env} {gd : Option (List Code)} {s : Shared} {E : Value → Shared → Prop} {loose : List Str} {mean : ExcName → Option Value} {mg mb : Str → Option Value} {B b₀ h₀ : Heap} {L : Addr} {m : Str → Option Value} {ps : Array Value} {G : List (Addr × Obj)} {Qf : Flow → Shared → Prop}
theorem st_due {AL : Addr} {avs : List Value} {ca : Nat} {xss Ts : List TL} {t0 : Tok} (gx : Gx w loose mean mg mb B b₀ fr L h₀ s.heap m ps G) (hA : dp + 200 < recursionLimit) (hU : un + 200 < cLine)
  (hpt : Paired PatT xss Ts) (hok : ∀ xs ∈ xss, WOk xs) (hn : xss.length ≤ 3)
  (hAL : (AL, PySem.W.listOf (List.toArray avs) ca) ∈ G) (ha : TLs (InG G) avs Ts) (m1 : m "ahead" = some (.str (S (pats xss)) t0)) (m2 : m "alone" = some (.ref AL))
  (next : ∀ h tk m' G' DU dvs cd, Gx w loose mean mg mb B b₀ fr L h₀ h m' ps G' → (∀ p ∈ G, p ∈ G') → (∀ z : Str, z ≠ "due" → z ≠ "rows" → z ≠ "at" → m' z = m z) → m' "due" = some (.ref DU) → (DU, PySem.W.listOf (List.toArray dvs) cd) ∈ G' → StrsAre dvs ((prods Ts).map S) →
    wpAny (model PySem.Challenge.rw_ev0005_01.row.prog w) ((Ar dp un (some fr) gd).deeper (lawEnv L)) (execs (lawA.1.drop 11) (lawEnv L)) Qf E { s with heap := h, toks := tk }) :
  wpAny (model PySem.Challenge.rw_ev0005_01.row.prog w) ((Ar dp un (some fr) gd).deeper (lawEnv L)) (execs (lawA.1.drop 8) (lawEnv L)) Qf E s := by
  obtain ⟨W₀, GF, X, T, F, N, hne, tab⟩ := gx
  have hdp : (Ar dp un (some fr) gd).depth = dp := rfl
  have hbd : Bd 10000 10000 (prods Ts) := bd_prods3 (pairedAll hpt fun xs hx T hT => hT.bd (hok xs hx)) (by rw [← hpt.length]; exact hn)
  have hnn : ∀ U ∈ Ts, U ≠ [] := pairedAll hpt fun xs hx T hT => hT.ne
  have hpl := pats_len hok
  revert X; k_fill; intro X
  show wpAny _ _ (execs (_ :: _ :: _ :: lawA.1.drop 11) _) _ _ _
  dsimp only [lawEnv, lawS]
  walk_at "M steps"
  walk_at "M go"
  refine ⟨by k_in, ?_⟩
  refine rows_in (Gr := G) F N X T (show dp + 1 + 2 < recursionLimit by omega) (.tail _ hAL) ha (fun _ h => .tail _ h) hbd hnn fun h1 tk1 DU dvs cd F1 N1 hne1 hdvs hk1 => ?_
  clear F N
  walk_at "M steps"
  walk_at "M go"
  refine ⟨by k_in, ?_⟩
  (with_reducible rename Fr _ _ _ _ => F2); (with_reducible rename News _ _ _ _ => N2)
  refine read_in (own := [(DU, PySem.W.listOf (List.toArray dvs) cd), (145, tabObj ps)]) (G := G) F2 N2 X T (show dp + 1 + 70 < recursionLimit by omega) (pats_means hpt) (by omega) fun h3 tk3 D3 RS t3 Gr Tss F3 N3 hap hD3 hrows hmean hk3 => ?_
  simp only [List.cons_append, List.nil_append] at N3 hap
  clear F2 N2
  walk_at "M steps"
  walk_at "M go"
  (with_reducible rename Fr _ _ _ _ => F4); (with_reducible rename News _ _ _ _ => N4)
  obtain ⟨mB, F5, N5, c1, c2, c3, c4, c5⟩ : ∃ mB, Fr h₀ L _ mB ∧ News h₀ L _ ((145, tabObj ps) :: (DU, PySem.W.listOf (List.toArray dvs) cd) :: (Gr ++ G)) ∧ mB "at" = some (.int (pats xss).length t3) ∧ mB "rows" = some (.ref RS) ∧ mB "due" = some (.ref DU) ∧ mB "ahead" = some (.str (S (pats xss)) t0) ∧
      ∀ z : Str, z ≠ "due" → z ≠ "rows" → z ≠ "at" → mB z = m z := ⟨_, F4, newsSwap fun p hp => N4 p (.tail _ hp), rfl, rfl, rfl, m1, fun z z1 z2 z3 => (if_neg z3).trans ((if_neg z2).trans (if_neg z1))⟩
  clear F4 N4
  walk_at "M if"
  rw [if_neg (by simp)]
  walk_at "M steps"
  walk_at "M go"
  refine ⟨by k_in, ?_⟩
  refine texts_in (Gr := Gr) F5 N5 X T (show dp + 1 + 130 < recursionLimit by omega) hrows (fun p hp => .tail _ (.tail _ (List.mem_append_left _ hp))) hmean hbd fun h6 tk6 D6 vs6 c6 F6 N6 hne6 hvs6 hk6 => ?_
  clear F5 N5
  walk_at "M steps"
  walk_at "M go"
  refine neTexts (isL_news N6 (.head _)) (isL_news N6 (.tail _ (.tail _ (.head _)))) hvs6 hdvs (show un + 3 < cLine by omega) ?_
  rw [decide_eq_true rfl]
  walk_at "M steps"
  walk_at "M go"
  rw [if_neg (by decide)]
  walk_at "M steps"
  walk_at "M go"
  rw [if_neg (by decide)]
  walk_at "M steps"
  walk_at "M go"
  have hDU : DU ≠ 145 := (hne1 _ (.head _)).symm
  exact next h6 _ mB ((DU, PySem.W.listOf (List.toArray dvs) cd) :: (Gr ++ G)) DU dvs cd ⟨W₀, GF, X, T, F6, fun p hp => N6 p (.tail _ hp), List.forall_mem_cons.mpr ⟨hDU, fun p hp => by
    rcases List.mem_append.mp hp with hp | hp
    · exact hap p hp _ (.tail _ (.head _))
    · exact hne p hp⟩, tab.more fun _ h => .tail _ (List.mem_append_right _ h)⟩ (fun p hp => .tail _ (List.mem_append_right _ hp)) c5 c3 (.head _) hdvs
end
end Mine
theorem Mine.off68 : True := by w_top off; trivial
-- P33i_both
namespace Mine
local macro_rules | `(tactic| walk_at "M none") => `(tactic| skip)
local macro_rules | `(tactic| walk_at "M none") => `(tactic| skip)
local macro_rules | `(tactic| walk_at "exec If") => `(tactic| ((fail_if_success (have : Mine.NoStop := by assumption)); refine Mine.stop ?_))
local macro_rules | `(tactic| walk_at "M if") => `(tactic| ((try (with_reducible refine Mine.go ?_)); (have ns : Mine.NoStop := ⟨⟩); walk1; clear ns; walk_at "M steps"; walk_at "M go"))
local macro_rules | `(tactic| walk_at "ite") => `(tactic| refine Mine.stop ?_)
local macro_rules | `(tactic| walk_at "compareOp NotEq ref ref") => `(tactic| refine Mine.stop ?_)
local macro_rules | `(tactic| walk_at "execs") => `(tactic| ((with_reducible show wpAny _ _ (execs (List.drop _ _) _) _ _ _); refine Mine.stop ?_))
local macro_rules | `(tactic| walk_at "subscriptTail Name Constant ref int") => `(tactic| refine Mine.stop ?_)
theorem del2 {h₀ h : Heap} {L : Addr} {a b : Addr × Obj} {l : List (Addr × Obj)} (N : News h₀ L h (a :: b :: l)) : News h₀ L h l := fun p hp => N p (.tail _ (.tail _ hp))
section
variable {prog : Program} {w : World} {A : Around} {E : Value → Shared → Prop} {s : Shared}
/-- the last of a list -/
theorem lastL {l : Addr} {vs : List Value} {u : Tok} {v : Value} {value slice : Expr} {Q : Value → Shared → Prop} (hl : s.heap.IsList l vs.toArray) (hp : 0 < vs.length) (hz : vs.length ≤ 1000) (hx : vs[vs.length - 1]? = some v) (h : Q v s)
    (hs : subscripted slice false (.ref l) (.int (-1) u) = operate [.ref l, .int (-1) u] (getItem (.ref l) (.int (-1) u))) :
    wpAny (model prog w) A (subscriptTail value slice (.ref l) (.int (-1) u)) Q E s :=
  tail_any hl.typeIs slot_list_getitem.lookup (wpAny_getItem_list_neg hl (by decide) (by simp; omega) (by decide) (by
    have : ((-1 : Int) + (vs.toArray.size : Int)).toNat = vs.length - 1 := by simp; omega
    rw [this]; simpa using hx) h) hs
end
section
variable {w : World} {dp un : Nat} {fr : List Env} {gd : Option (List Code)} {s : Shared} {E : Value → Shared → Prop} {loose : List Str} {mean : ExcName → Option Value} {mg mb : Str → Option Value} {B b₀ h₀ : Heap} {L : Addr} {m : Str → Option Value} {ps : Array Value} {G : List (Addr × Obj)} {Qf : Flow → Shared → Prop}
theorem st_both {LS AL : Addr} {lvs avs : List Value} {cl ca : Nat} {xss Ts : List TL} (gx : Gx w loose mean mg mb B b₀ fr L h₀ s.heap m ps G) (XB : (hd.heap_39 w.params).In B) (TB : Top topProg loose mean mg mb B) (hA : dp + 200 < recursionLimit) (hU : un + 200 < cLine)
  (hpt : Paired PatT xss Ts) (hok : ∀ xs ∈ xss, WOk xs) (hn : xss.length ≤ 3) (hn0 : xss ≠ [])
  (hLS : (LS, PySem.W.listOf (List.toArray lvs) cl) ∈ G) (hv : TLs (InG G) lvs xss) (hAL : (AL, PySem.W.listOf (List.toArray avs) ca) ∈ G) (ha : TLs (InG G) avs Ts) (m1 : m "lists" = some (.ref LS)) (m2 : m "alone" = some (.ref AL))
  (next : ∀ h tk m' h₁ ps' G' g d, Gx w loose mean mg mb B b₀ fr L h₁ h m' ps' G' → (∀ p ∈ G, p ∈ G') → GensOk s.gens g → (∀ z : Str, z ≠ "both" → m' z = m z) →
    wpAny (model PySem.Challenge.rw_ev0005_01.row.prog w) ((Ar dp un (some fr) gd).deeper (lawEnv L)) (execs (lawA.1.drop 13) (lawEnv L)) Qf E { s with heap := h, toks := tk, gens := g, drawn := d }) :
  wpAny (model PySem.Challenge.rw_ev0005_01.row.prog w) ((Ar dp un (some fr) gd).deeper (lawEnv L)) (execs (lawA.1.drop 11) (lawEnv L)) Qf E s := by
  obtain ⟨W₀, GF, X, T, F, N, hne, tab⟩ := gx
  have hdp : (Ar dp un (some fr) gd).depth = dp := rfl
  have hlen0 : lvs.length = xss.length := hv.length
  have hlenT : xss.length = Ts.length := hpt.length
  have hlenA : avs.length = Ts.length := ha.length
  have hpos : 0 < xss.length := List.length_pos_iff.mpr hn0
  have hj : xss.length - 1 < xss.length := by omega
  obtain ⟨v0, hr0, us0, ⟨r0, c0, rfl, hG0⟩, hus0⟩ := pairedAt hv (List.getElem?_eq_getElem hpos)
  obtain ⟨vl, hrl, usl, ⟨rl, cl', rfl, hGl⟩, husl⟩ := pairedAt hv (List.getElem?_eq_getElem hj)
  have hx0 := hok _ (List.getElem_mem hpos)
  have hxl := hok _ (List.getElem_mem hj)
  obtain ⟨x0', ex0, hp0⟩ := pairedAt hpt (List.getElem?_eq_getElem (show 0 < Ts.length by omega))
  rw [List.getElem?_eq_getElem hpos] at ex0
  obtain rfl := Option.some.inj ex0
  obtain ⟨xl', exl, hpl⟩ := pairedAt hpt (List.getElem?_eq_getElem (show xss.length - 1 < Ts.length by omega))
  rw [List.getElem?_eq_getElem hj] at exl
  obtain rfl := Option.some.inj exl
  obtain ⟨w0, hs0, ts0, ⟨a0, d0, rfl, hA0⟩, hts0⟩ := pairedAt ha (List.getElem?_eq_getElem (show 0 < Ts.length by omega))
  obtain ⟨wl, hsl, tsl, ⟨al, dl, rfl, hAl⟩, htsl⟩ := pairedAt ha (List.getElem?_eq_getElem (show xss.length - 1 < Ts.length by omega))
  generalize xss[0] = x0 at *
  generalize xss[xss.length - 1] = xl at *
  generalize Ts[0] = T0 at *
  generalize Ts[xss.length - 1] = Tl at *
  revert X; k_fill; intro X
  show wpAny _ _ (execs (_ :: _ :: lawA.1.drop 13) _) _ _ _
  dsimp only [lawEnv, lawS]
  walk_at "M steps"
  walk_at "M go"
  refine atL (vs := lvs) (isL_news N (.tail _ hLS)) (by decide) (by decide) hr0 ?_ (by with_unfolding_all rfl)
  walk_at "M steps"
  walk_at "M go"
  refine lastL (vs := lvs) (isL_news N (.tail _ hLS)) (by omega) (by omega) (by rw [hlen0]; exact hrl) ?_ (by with_unfolding_all rfl)
  walk_at "M steps"
  walk_at "M go"
  refine ⟨by k_in, ?_⟩
  refine words_n F N X T (show dp + 1 + 3 < recursionLimit by omega) fun h1 tk1 x1 d1 t1 t2 t3 t4 t5 F1 N1 l1 l2 => ?_
  clear F N
  walk_at "M steps"
  walk_at "M go"
  dsimp only
  rw [lit_0] at N1
  refine get_in (env := envOfC "law" lawS.1 L 240 (.ref 239)) (W := G) (p := []) (q := []) (by rfl) (by rfl) GF XB TB W₀ F1 N1 tab hne hGl husl hxl.2.1 hxl.1
    (by have := hxl.msr; omega) (by have := hxl.2.2.1; omega) (by simp) (by simp) (show dp + 1 + 150 < recursionLimit by omega) fun h2 tk2 t6 ps2 g2 dr2 hh2 KT2 W2 GF2 X2 T2 F2 k2 N2 tab2 hg2 => ?_
  have hne2 : ∀ p ∈ KT2 ++ G, p.1 ≠ 145 := fun p hp => by
    rcases List.mem_append.mp hp with hp | hp
    · exact (k2 p hp).2
    · exact hne p hp
  have hs2 : ∀ p ∈ G, p ∈ KT2 ++ G := fun p hp => List.mem_append_right _ hp
  have N3 := del2 N2
  clear F1 N1 N2 X T W₀ GF tab
  generalize KT2 ++ G = G2 at *
  rw [List.nil_append, List.append_nil]
  walk_at "M steps"
  walk_at "M go"
  refine atL (vs := lvs) (isL_news N3 (.tail _ (hs2 _ hLS))) (by decide) (by decide) hr0 ?_ (by with_unfolding_all rfl)
  walk_at "M steps"
  walk_at "M go"
  refine ⟨by k_in, ?_⟩
  refine words_n F2 N3 X2 T2 (show dp + 1 + 3 < recursionLimit by omega) fun h3 tk3 x3 d3 t1 t2 t3 t4 t5 F3 N4 l3 l4 => ?_
  clear F2 N3
  walk_at "M steps"
  walk_at "M go"
  dsimp only
  rw [lit_0] at N4
  refine get_in (env := envOfC "law" lawS.1 L 240 (.ref 239)) (W := G2) (p := []) (q := []) (by rfl) (by rfl) GF2 XB TB W2 F3 N4 tab2 hne2 (hs2 _ hG0) hus0 hx0.2.1 hx0.1
    (by have := hx0.msr; omega) (by have := hx0.2.2.1; omega) (by simp) (by simp) (show dp + 1 + 150 < recursionLimit by omega) fun h4 tk4 t7 ps4 g4 dr4 hh4 KT4 W4 GF4 X4 T4 F4 k4 N5 tab4 hg4 => ?_
  have hne4 : ∀ p ∈ KT4 ++ G2, p.1 ≠ 145 := fun p hp => by
    rcases List.mem_append.mp hp with hp | hp
    · exact (k4 p hp).2
    · exact hne2 p hp
  have hs4 : ∀ p ∈ G, p ∈ KT4 ++ G2 := fun p hp => List.mem_append_right _ (hs2 p hp)
  have N6 := del2 N5
  have hg5 : GensOk s.gens g4 := hg2.trans hg4
  clear F3 N4 N5 X2 T2 W2 GF2 tab2 k2 k4 hne2 hs2 hg2 hg4
  generalize KT4 ++ G2 = G4 at *
  rw [List.nil_append, List.append_nil]
  walk_at "M steps"
  walk_at "M go"
  refine ⟨by k_in, ?_⟩
  refine words_ps F4 N6 X4 T4 (show dp + 1 + 3 < recursionLimit by omega) fun h5 tk5 x5 d5 t1 t2 t3 t4 t5 F5 N7 l5 l6 => ?_
  clear F4 N6
  walk_at "M steps"
  walk_at "M go"
  dsimp only
  have hl1 := hx0.len
  have hl2 := hxl.len
  refine get_in (env := envOfC "law" lawS.1 L 240 (.ref 239)) (W := G4) (p := pat xl) (q := pat x0) (by rfl) (by rfl) GF4 XB TB W4 F5 N7 tab4 hne4 (hs4 _ hG0) hus0 hx0.2.1 hx0.1
    (by have := hx0.msr; omega) (by have := hx0.2.2.1; omega) (by omega) (by omega) (show dp + 1 + 150 < recursionLimit by omega) fun h6 tk6 t8 ps6 g6 dr6 hh6 KT6 W6 GF6 X6 T6 F6 k6 N8 tab6 hg6 => ?_
  have hne6 : ∀ p ∈ KT6 ++ G4, p.1 ≠ 145 := fun p hp => by
    rcases List.mem_append.mp hp with hp | hp
    · exact (k6 p hp).2
    · exact hne4 p hp
  have hs6 : ∀ p ∈ G, p ∈ KT6 ++ G4 := fun p hp => List.mem_append_right _ (hs4 p hp)
  have N9 := del2 N8
  have hg7 : GensOk s.gens g6 := hg5.trans hg6
  clear F5 N7 N8 X4 T4 W4 GF4 tab4 k6 hne4 hs4 hg5 hg6
  generalize KT6 ++ G4 = G6 at *
  have hboth : pat xl ++ pat x0 ++ pat x0 = pats [xl, x0, x0] := by simp [pats]
  have hpair : Paired PatT [xl, x0, x0] [Tl, T0, T0] := .cons hpl (.cons hp0 (.cons hp0 .nil))
  have hblen : (pats [xl, x0, x0]).length ≤ 500000 := by rw [← hboth]; simp only [List.length_append]; omega
  rw [hboth]
  walk_at "M steps"
  walk_at "M go"
  (with_reducible rename Fr _ _ _ _ => FA); (with_reducible rename News _ _ _ _ => NA)
  have hbd : Bd 10000 10000 (prods [Tl, T0, T0]) := bd_prods3 (by
    simp only [List.forall_mem_cons]
    exact ⟨hpl.bd hxl, hp0.bd hx0, hp0.bd hx0, fun _ h => nomatch h⟩) (by simp)
  have hnn : ∀ U ∈ [Tl, T0, T0], U ≠ [] := by
    simp only [List.forall_mem_cons]
    exact ⟨hpl.ne, hp0.ne, hp0.ne, fun _ h => nomatch h⟩
  obtain ⟨mB, FB, c1, c2, c3⟩ : ∃ mB, Fr hh6 L _ mB ∧ mB "both" = some (.str (S (pats [xl, x0, x0])) t8) ∧ mB "alone" = some (.ref AL) ∧ ∀ z : Str, z ≠ "both" → mB z = m z := ⟨_, FA, rfl, m2, fun z hz => if_neg hz⟩
  clear FA
  walk_at "M if"
  refine ⟨by k_in, ?_⟩
  refine read_in (own := [(145, tabObj ps6)]) (G := G6) FB NA X6 T6 (show dp + 1 + 70 < recursionLimit by omega) (pats_means hpair) hblen fun h7 tk7 D7 RS t9 Gr Tss F7 N7 hap hD7 hrows hmean hk7 => ?_
  simp only [List.cons_append, List.nil_append] at N7 hap
  clear FB NA
  walk_at "M steps"
  walk_at "M go"
  refine tupFst (N7 _ (.head _)).1 ?_ (by with_unfolding_all rfl)
  walk_at "M steps"
  walk_at "M go"
  refine ⟨by k_in, ?_⟩
  refine texts_in (Gr := Gr) F7 N7 X6 T6 (show dp + 1 + 130 < recursionLimit by omega) hrows (fun p hp => .tail _ (.tail _ (List.mem_append_left _ hp))) hmean hbd fun h8 tk8 D8 vs8 c8 F8 N8 hne8 hvs8 hk8 => ?_
  clear F7 N7
  walk_at "M steps"
  walk_at "M go"
  refine lastL (vs := avs) (isL_news N8 (.tail _ (.tail _ (.tail _ (List.mem_append_right _ (hs6 _ hAL)))))) (by omega) (by omega) (by rw [hlenA, ← hlenT]; exact hsl) ?_ (by with_unfolding_all rfl)
  walk_at "M steps"
  walk_at "M go"
  refine atL (vs := avs) (isL_news N8 (.tail _ (.tail _ (.tail _ (List.mem_append_right _ (hs6 _ hAL)))))) (by decide) (by decide) hs0 ?_ (by with_unfolding_all rfl)
  walk_at "M steps"
  walk_at "M go"
  refine atL (vs := avs) (isL_news N8 (.tail _ (.tail _ (.tail _ (List.mem_append_right _ (hs6 _ hAL)))))) (by decide) (by decide) hs0 ?_ (by with_unfolding_all rfl)
  walk_at "M steps"
  walk_at "M go"
  refine ⟨by k_in, ?_⟩
  (with_reducible rename Fr _ _ _ _ => F9); (with_reducible rename News _ _ _ _ => N9)
  refine rows_in (vs0 := [.ref al, .ref a0, .ref a0]) (Us := [Tl, T0, T0]) (Gr := G6) F9 N9 X6 T6 (show dp + 1 + 2 < recursionLimit by omega) (.head _) (.cons ⟨_, ⟨_, _, rfl, hs6 _ hAl⟩, htsl⟩ (.cons ⟨_, ⟨_, _, rfl, hs6 _ hA0⟩, hts0⟩ (.cons ⟨_, ⟨_, _, rfl, hs6 _ hA0⟩, hts0⟩ .nil)))
    (fun p hp => .tail _ (.tail _ (.tail _ (.tail _ (List.mem_append_right _ hp))))) hbd hnn fun hA tkA DA vsA cA FA NC hneA hvsA hkA => ?_
  clear F9 N9
  walk_at "M steps"
  walk_at "M go"
  refine neTexts (isL_news NC (.tail _ (.tail _ (.head _)))) (isL_news NC (.head _)) hvs8 hvsA (show un + 3 < cLine by omega) ?_
  rw [decide_eq_true rfl]
  walk_at "M steps"
  walk_at "M go"
  rw [if_neg (by decide)]
  walk_at "M steps"
  walk_at "M go"
  exact next hA _ mB hh6 ps6 G6 g6 dr6 ⟨W6, GF6, X6, T6, FA, fun p hp => NC p (by
    rcases List.mem_cons.mp hp with rfl | hp
    · exact .tail _ (.tail _ (.tail _ (.tail _ (.head _))))
    · exact .tail _ (.tail _ (.tail _ (.tail _ (.tail _ (List.mem_append_right _ hp)))))), hne6, tab6⟩ hs6 hg7 c3
end
end Mine
theorem Mine.off69 : True := by w_top off; trivial
-- P33j_last
namespace Mine
local macro_rules | `(tactic| walk_at "ite") => `(tactic| refine Mine.stop ?_)
local macro_rules | `(tactic| walk_at "compareOp Eq ref ref") => `(tactic| refine Mine.stop ?_)
section
open PySem.SeqAt
variable {prog : Program} {w : World} {A : Around} {E : Value → Shared → Prop} {s : Shared}
/-- two lists of lists of the same texts are the same -/
theorem eqTTs {a b : Addr} {vs ws : List Value} {Us : List TL} {P : Lk} {Q : Value → Shared → Prop} (hP : ∀ a o, P a o → s.heap.get? a = some o) (ha : s.heap.IsList a vs.toArray) (hb : s.heap.IsList b ws.toArray) (hv : TLs P vs Us) (hw : TLs P ws Us)
    (hu : A.units < cLine) (hu1 : A.in1.units < cLine) (h : Q (.bool true) s) : wpAny (model prog w) A (compareOp .Eq (.ref a) (.ref b)) Q E s := by
  have l1 : vs.length = Us.length := hv.length
  have l2 : ws.length = Us.length := hw.length
  refine eq_listAt (e := fun _ => true) ha hb (by simp [l1, l2]) hu (fun j h1 h2 => ?_) ?_
  · have h1' : j < vs.length := by simpa using h1
    have h2' : j < ws.length := by simpa using h2
    obtain ⟨v, hv1, us, ⟨ra, rc, e1, hra⟩, hus⟩ := pairedAt hv (List.getElem?_eq_getElem (show j < Us.length by omega))
    obtain ⟨v2, hv2, us2, ⟨rb, rc2, e2, hrb⟩, hus2⟩ := pairedAt hw (List.getElem?_eq_getElem (show j < Us.length by omega))
    rw [List.getElem?_eq_getElem h1'] at hv1
    rw [List.getElem?_eq_getElem h2'] at hv2
    have f1 : vs.toArray[j] = .ref ra := by rw [← e1, ← Option.some.inj hv1]; simp
    have f2 : ws.toArray[j] = .ref rb := by rw [← e2, ← Option.some.inj hv2]; simp
    rw [f1, f2]
    by_cases hab : ra = rb
    · subst hab; exact EqAt.same _
    · have := rcTexts (A := A.in1) (a := ra) (b := rb) ⟨_, hP _ _ hra, rfl, rc, rfl⟩ ⟨_, hP _ _ hrb, rfl, rc2, rfl⟩ hus hus2 hu1
      rw [decide_eq_true rfl] at this
      exact EqAt.of_refs hab this
  · have : (List.range vs.toArray.size).all (fun _ => true) = true := by simp
    rw [this]
    exact h
end
section
variable {w : World} {dp un : Nat} {fr : List Env} {gd : Option (List Code)} {s : Shared} {E : Value → Shared → Prop} {loose : List Str} {mean : ExcName → Option Value} {mg mb : Str → Option Value} {B b₀ h₀ : Heap} {L : Addr} {m : Str → Option Value} {ps : Array Value} {G : List (Addr × Obj)} {Qf : Flow → Shared → Prop}
theorem st_last {LS KP DU : Addr} {lvs kvs dvs : List Value} {cl ck cd : Nat} {xss Ts : List TL} {t0 : Tok} (gx : Gx w loose mean mg mb B b₀ fr L h₀ s.heap m ps G) (hA : dp + 200 < recursionLimit) (hU : un + 200 < cLine)
  (hpt : Paired PatT xss Ts) (hok : ∀ xs ∈ xss, WOk xs) (hn : xss.length ≤ 3)
  (hLS : (LS, PySem.W.listOf (List.toArray lvs) cl) ∈ G) (hv : TLs (InG G) lvs xss) (hKP : (KP, PySem.W.listOf (List.toArray kvs) ck) ∈ G) (hk : TLs (InG G) kvs xss)
  (hDU : (DU, PySem.W.listOf (List.toArray dvs) cd) ∈ G) (hdvs : StrsAre dvs ((prods Ts).map S))
  (m1 : m "behind" = some (.str (S (pats xss)) t0)) (m2 : m "due" = some (.ref DU)) (m3 : m "lists" = some (.ref LS)) (m4 : m "kept" = some (.ref KP))
  (fin : ∀ h tk m', Fr h₀ L h m' → News h₀ L h [(145, tabObj ps)] → Qf (.ret (.bool true)) { s with heap := h, toks := tk }) :
  wpAny (model PySem.Challenge.rw_ev0005_01.row.prog w) ((Ar dp un (some fr) gd).deeper (lawEnv L)) (execs (lawA.1.drop 13) (lawEnv L)) Qf E s := by
  obtain ⟨W₀, GF, X, T, F, N, hne, tab⟩ := gx
  have hdp : (Ar dp un (some fr) gd).depth = dp := rfl
  have hbd : Bd 10000 10000 (prods Ts) := bd_prods3 (pairedAll hpt fun xs hx T hT => hT.bd (hok xs hx)) (by rw [← hpt.length]; exact hn)
  have hpl := pats_len hok
  revert X; k_fill; intro X
  show wpAny _ _ (execs (_ :: _ :: lawA.1.drop 15) _) _ _ _
  dsimp only [lawEnv, lawS]
  walk_at "M steps"
  walk_at "M go"
  refine ⟨by k_in, ?_⟩
  refine read_in (own := [(145, tabObj ps)]) (G := G) F N X T (show dp + 1 + 70 < recursionLimit by omega) (pats_means hpt) (by omega) fun h3 tk3 D3 RS t3 Gr Tss F3 N3 hap hD3 hrows hmean hk3 => ?_
  simp only [List.cons_append, List.nil_append] at N3 hap
  clear F N
  walk_at "M steps"
  walk_at "M go"
  (with_reducible rename Fr _ _ _ _ => F4); (with_reducible rename News _ _ _ _ => N4)
  rw [if_pos (by simp)]
  walk_at "M steps"
  walk_at "M go"
  refine ⟨by k_in, ?_⟩
  refine texts_in (Gr := Gr) F4 N4 X T (show dp + 1 + 130 < recursionLimit by omega) hrows (fun p hp => .tail _ (.tail _ (List.mem_append_left _ hp))) hmean hbd fun h6 tk6 D6 vs6 c6 F6 N6 hne6 hvs6 hk6 => ?_
  clear F4 N4
  walk_at "M steps"
  walk_at "M go"
  refine eqTexts (isL_news N6 (.head _)) (isL_news N6 (.tail _ (.tail _ (.tail _ (List.mem_append_right _ hDU))))) hvs6 hdvs (show un + 3 < cLine by omega) ?_
  rw [decide_eq_true rfl]
  walk_at "M steps"
  walk_at "M go"

  rw [if_pos (by decide)]
  walk_at "M steps"
  walk_at "M go"

  refine eqTTs (P := InG G) (fun a o h => (N6 _ (.tail _ (.tail _ (.tail _ (List.mem_append_right _ h))))).1) (isL_news N6 (.tail _ (.tail _ (.tail _ (List.mem_append_right _ hLS))))) (isL_news N6 (.tail _ (.tail _ (.tail _ (List.mem_append_right _ hKP))))) hv hk (show un + 3 < cLine by omega) (show un + 3 + 1 < cLine by omega) ?_
  walk_at "M steps"
  walk_at "M go"

  exact fin h6 _ _ F6 fun p hp => by
    rw [List.mem_singleton.mp hp]
    exact N6 _ (.tail _ (.tail _ (.head _)))
end
end Mine
theorem Mine.off70 : True := by w_top off; trivial
-- P34_law
namespace Mine
local macro_rules | `(tactic| walk_at "execs") => `(tactic| ((with_reducible show wpAny _ _ (execs (List.drop _ _) _) _ _ _); refine Mine.stop ?_))
section
variable {w : World} {dp un : Nat} {fr : List Env} {gd : Option (List Code)} {s : Shared} {Q E : Value → Shared → Prop} {loose : List Str} {mean : ExcName → Option Value} {mg mb : Str → Option Value}
theorem law_c {B : Heap} {l : Addr} {vs0 : List Value} {ns : List Int} (G : Fl B fr s.heap) (X : (hd.heap_39 w.params).In B) (T : Top topProg loose mean mg mb B) (hA : dp + 200 < recursionLimit) (hU : un + 200 < cLine)
  (hP : B.get? 145 = none ∧ 145 ∉ fa fr) (hT : s.heap.get? 145 = some (tabObj #[])) (hl : B.IsList l vs0.toArray) (hi : IntsAre vs0 ns) (hlen : ns.length ≤ 63)
  (ret : ∀ h' tk' ps' g' d', Kw fr [145] s.heap h' → h'.get? 145 = some (tabObj ps') → GensOk s.gens g' → Q (.bool true) { s with heap := h', toks := tk', gens := g', drawn := d' }) :
  wpAny (model PySem.Challenge.rw_ev0005_01.row.prog w) (Ar dp un (some fr) gd) (call (.ref 240) [.ref l]) Q E s := by
  revert X; k_fill; intro X
  have hN : ∀ q ∈ [((145 : Addr), tabObj #[])], s.heap.get? q.1 = some q.2 ∧ B.get? q.1 = none := List.forall_mem_singleton.mpr ⟨hT, hP.1⟩
  have h145 : @LT.lt Nat _ 145 s.heap.objs.size := Heap.lt_size hT
  have G0 : Fl B fr (But s [(145, tabObj #[])]) := G.but (List.forall_mem_singleton.mpr hP)
  have hdp : (Ar dp un (some fr) gd).depth = dp := rfl
  have hNf : ∀ q ∈ [((145 : Addr), tabObj #[])], q.1 ∉ fa fr := List.forall_mem_singleton.mpr hP.2
  refine' enterC [(145, tabObj #[])] G.kp hN ?k1 ?k2 ?k6 ?k7 ?k8 ?k9 ?kB ?kD ?_ ?c2 ?c3 ?c4
  walk_at "M enterC"
  intro h₁ tk₁ cells XB TB F N Y
  k_cells Y
  (try simp only [List.cons_append, List.nil_append] at N)
  have hl1 : (But s [(145, tabObj #[])]).IsList l vs0.toArray := hl.at fun o e => (but_base G.kp fun q hq => (hN q hq).2) _ _ e
  show wpAny _ _ (execs (_ :: lawA.1.drop 1) _) _ _ _
  walk_at "M steps"
  walk_at "M go"
  refine ⟨by k_in, ?_⟩
  refine state_c (XB.keeps F.keep) (TB.keeps F.keep) (show dp + 1 + 2 < recursionLimit by omega) (isL_base F hl1) hi hlen fun h2 tk2 ST nA ws ms c c2 t hk2 hST hnA hne hSTo hnAo hms hmb hm3 hm100 => ?_
  obtain ⟨F2, N2⟩ := frK F N hk2
  obtain ⟨N3, hne3⟩ := newsNew F N hk2 hST hSTo
  obtain ⟨N4, hne4⟩ := newsNew F N hk2 hnA hnAo
  have N5 : News (But s [(145, tabObj #[])]) s.heap.objs.size h2 [(ST, liObj #[.ref nA, .int (0 : Nat) t] c), (nA, PySem.W.listOf (List.toArray ws) c2), _, (145, tabObj #[])] := fun p hp => by
    rcases List.mem_cons.mp hp with rfl | hp
    · exact N3 _ (.head _)
    · exact N4 p hp
  have hSTn : ∀ q ∈ [(nA, PySem.W.listOf (List.toArray ws) c2), _, (145, tabObj #[])], q.1 ≠ ST := List.forall_mem_cons.mpr ⟨hne.symm, hne3⟩
  simp only [List.forall_mem_cons] at hne3
  have q2 := hne3.1
  clear F N N2 N3 N4
  walk_at "M steps"
  walk_at "M go"
  (with_reducible rename Fr _ _ _ _ => F6); (with_reducible rename News _ _ _ _ => N6); rename _ = Data.cell _ => hcv
  have hE : PassesOwn (model PySem.Challenge.rw_ev0005_01.row.prog w) ((Ar dp un (some fr) gd).deeper (lawEnv s.heap.objs.size)) (lawEnv s.heap.objs.size) (fun e s' => wpAny (model PySem.Challenge.rw_ev0005_01.row.prog w) ((Ar dp un (some fr) gd).deeper (lawEnv s.heap.objs.size)) (leaving (lawEnv s.heap.objs.size) e) (fun _ s'' => E e s'') (fun e' s'' => E e' s'') s') := by passes_own
  refine st_lists (st := ST) (nA := nA) F6 XB TB hA hU N6 hcv (List.forall_mem_cons.mpr ⟨hSTn _ (.head _), List.forall_mem_cons.mpr ⟨q2, List.forall_mem_singleton.mpr (hSTn _ (.tail _ (.tail _ (.head _))))⟩⟩) hms hmb ⟨hm3, hm100⟩ fun h3 tk3 m3 LS lvs cl GW xss F3 N3 hG3 hLS3 hv hok hne0 hn3 ml3 => ?_
  refine st_kept F3 XB TB hA hU N3 hG3 hLS3 hv hok hn3 ml3 fun h4 tk4 m4 KP kvs ck K F4 N4 hne4 hk4 ml4 mk4 => ?_
  obtain ⟨Ts, hpt⟩ := pairedMake (F := PatT) fun xs hxs => (hok xs hxs).pat
  have gx4 : Gx w loose mean mg mb B (But s [(145, tabObj #[])]) fr s.heap.objs.size (But s [(145, tabObj #[])]) h4 m4 #[] ((LS, PySem.W.listOf (List.toArray lvs) cl) :: (KP, PySem.W.listOf (List.toArray kvs) ck) :: (K ++ GW)) := ⟨.refl, G0, XB, TB, F4, N4, hne4, .none⟩
  have hv4 := hv.mono (P' := InG ((LS, PySem.W.listOf (List.toArray lvs) cl) :: (KP, PySem.W.listOf (List.toArray kvs) ck) :: (K ++ GW))) fun _ _ h => .tail _ (.tail _ (List.mem_append_right _ h))
  have hk5 := hk4.mono (P' := InG ((LS, PySem.W.listOf (List.toArray lvs) cl) :: (KP, PySem.W.listOf (List.toArray kvs) ck) :: (K ++ GW))) fun _ _ h => .tail _ (.tail _ (List.mem_append_left _ h))
  have hLS4 : (LS, PySem.W.listOf (List.toArray lvs) cl) ∈ ((LS, PySem.W.listOf (List.toArray lvs) cl) :: (KP, PySem.W.listOf (List.toArray kvs) ck) :: (K ++ GW)) := .head _
  have hKP4 : (KP, PySem.W.listOf (List.toArray kvs) ck) ∈ ((LS, PySem.W.listOf (List.toArray lvs) cl) :: (KP, PySem.W.listOf (List.toArray kvs) ck) :: (K ++ GW)) := .tail _ (.head _)
  clear F4 N4 hne4 hk4 hv F3 N3 F6 N6
  generalize (LS, PySem.W.listOf (List.toArray lvs) cl) :: (KP, PySem.W.listOf (List.toArray kvs) ck) :: (K ++ GW) = G4 at *
  refine st_ahead gx4 X T hA hU hE hLS4 hv4 hok hn3 ml4 fun h5 tk5 m5 b5 ps5 G5 g5 d5 t5 t6 gx5 s5 hg5 e5 ma5 mb5 => ?_
  refine st_behind gx5 X T hA hU hE (s5 _ hLS4) (hv4.mono fun _ _ h => s5 _ h) hok hn3 ((e5 _ (by decide) (by decide) (by decide)).trans ml4) mb5 fun h6 tk6 m6 b6 ps6 G6 g6 d6 t7 gx6 s6 hg6 e6 mb6 => ?_
  have k6 : ∀ p ∈ G4, p ∈ G6 := fun p hp => s6 _ (s5 _ hp)
  have ml6 : m6 "lists" = some (.ref LS) := (e6 _ (by decide) (by decide) (by decide) (by decide)).trans ((e5 _ (by decide) (by decide) (by decide)).trans ml4)
  have mk6 : m6 "kept" = some (.ref KP) := (e6 _ (by decide) (by decide) (by decide) (by decide)).trans ((e5 _ (by decide) (by decide) (by decide)).trans mk4)
  have ma6 : m6 "ahead" = some (.str (S (pats xss)) t5) := (e6 _ (by decide) (by decide) (by decide) (by decide)).trans ma5
  refine st_alone gx6 X T hA hU (k6 _ hLS4) (hv4.mono fun _ _ h => k6 _ h) hok hn3 hpt ml6 fun h7 tk7 m7 b7 ps7 G7 g7 d7 AL avs ca gx7 s7 hg7 e7 mal7 hAL7 hav7 => ?_
  have k7 : ∀ p ∈ G4, p ∈ G7 := fun p hp => s7 _ (k6 _ hp)
  refine st_check gx7 hA hU hE (k7 _ hLS4) (hv4.mono fun _ _ h => k7 _ h) hok hn3 hpt hAL7 hav7 ((e7 _ (by decide)).trans ml6) mal7 fun h8 tk8 m8 F8 N8 e8 => ?_
  have gx8 : Gx w loose mean mg mb B (But s [(145, tabObj #[])]) fr s.heap.objs.size b7 h8 m8 ps7 G7 := ⟨gx7.kw, gx7.fl, gx7.inn, gx7.top, F8, N8, gx7.ne, gx7.tab⟩
  refine st_due gx8 hA hU hpt hok hn3 hAL7 hav7 ((e8 _ (by decide)).trans ((e7 _ (by decide)).trans ma6)) ((e8 _ (by decide)).trans mal7) fun h9 tk9 m9 G9 DU dvs cd gx9 s9 e9 mdu9 hDU9 hdvs => ?_
  have ml9 : m9 "lists" = some (.ref LS) := (e9 _ (by decide) (by decide) (by decide)).trans ((e8 _ (by decide)).trans ((e7 _ (by decide)).trans ml6))
  have mk9 : m9 "kept" = some (.ref KP) := (e9 _ (by decide) (by decide) (by decide)).trans ((e8 _ (by decide)).trans ((e7 _ (by decide)).trans mk6))
  have mb9 : m9 "behind" = some (.str (S (pats xss)) t7) := (e9 _ (by decide) (by decide) (by decide)).trans ((e8 _ (by decide)).trans ((e7 _ (by decide)).trans mb6))
  have mal9 : m9 "alone" = some (.ref AL) := (e9 _ (by decide) (by decide) (by decide)).trans ((e8 _ (by decide)).trans mal7)
  have k9 : ∀ p ∈ G4, p ∈ G9 := fun p hp => s9 _ (k7 _ hp)
  refine st_both gx9 X T hA hU hpt hok hn3 hne0 (k9 _ hLS4) (hv4.mono fun _ _ h => k9 _ h) (s9 _ hAL7) (hav7.mono fun _ _ h => s9 _ h) ml9 mal9 fun hA1 tkA mA bA psA GA gA dA gxA sA hgA eA => ?_
  have kA : ∀ p ∈ G4, p ∈ GA := fun p hp => sA _ (k9 _ hp)
  refine st_last gxA hA hU hpt hok hn3 (kA _ hLS4) (hv4.mono fun _ _ h => kA _ h) (kA _ hKP4) (hk5.mono fun _ _ h => kA _ h) (sA _ hDU9) hdvs ((eA _ (by decide)).trans mb9) ((eA _ (by decide)).trans mdu9) ((eA _ (by decide)).trans ml9) ((eA _ (by decide)).trans mk9) fun hB tkB mB FB NB => ?_
  exact ret hB tkB psA gA dA (Kw.fin gxA.kw FB.keep hNf) (NB _ (.head _)).1 (((hg5.trans hg6).trans hg7).trans hgA)
end
end Mine
end
theorem Mine.off71 : True := by w_top off; trivial
-- P40_entry
namespace Mine
theorem walked : PySem.Challenge.rw_ev0005_01.Holds := hd (by
  k_fill
  intro w s₀ s₁ mg mb G Y fa o pm cd doc dV kV ho hd hcd hD hmg hg args vals as hpre hlay hrd hwl hlo
  have KX := km_in_of Y
  km_tabs Y
  have X := (Ground.X G).1
  have V := (Ground.X G).2
  refine Ground.open G ?_
  intro T B D TE TW
  km_lay T hmg ho hd cd
  clear hd
  wrow_args hpre hlay hrd hwl hlo
  have hfa : fa = 240 := by
    have e1 := mg_of (n := "law") (v := .ref 240) KX T.g (by kernel_rfl)
    have e2 : mg "law" = some (.ref fa) := hmg
    rw [e1] at e2
    exact (Value.ref.inj (Option.some.inj e2)).symm
  subst hfa
  clear hmg ho hcd hD
  rename Heap.IsList _ _ _ => hl; rename IntsAre _ _ => hi
  have hst := hT8 145 (.head _)
  have hgh := ghost_list hT9 hl
  refine law_c (B := ghostOf s₁.heap [(147, 145)]) (fr := []) (gd := some []) (dp := 301) (un := 4) ⟨fun b o e => of_hideAll _ e, trivial⟩ (ghost_K hT9 KX (by kernel_rfl)) (ghost_top hT9 T) (by decide) (by decide)
    ⟨hideAll_none _ (.head _), fun q => nomatch q⟩ hst hgh hi ?_ fun h' tk' ps' g' d' WK hP gens => ?_
  · omega
  · refine ⟨.inl ⟨_, .bool true, [], rfl, fun _ => rfl, ReadsW.bool true, ?_, fun _ => ⟨List.nodup_nil, fun _ hm => nomatch hm⟩⟩, ⟨fun b o e => ?_, fun b o e => ?_⟩, rfl, ?_⟩
    · first | rfl | wrow_post
    · by_cases hb : b = 145
      · subst hb
        rw [hst] at e
        cases e
        exact .inr (.inl ⟨((hT9 _ (.head _)).1.tab hst).isCodeTable, rfl, #[], ps', rfl, by rw [Array.empty_append]; exact hP⟩)
      · exact .inl (WK.keep b o (fun q => nomatch q) (fun q => hb (List.mem_singleton.mp q)) e)
    · by_cases hb : b = 145
      · subst hb; exact ⟨_, hP⟩
      · exact ⟨o, WK.keep b o (fun q => nomatch q) (fun q => hb (List.mem_singleton.mp q)) e⟩
    · exact gens.bare (hg ▸ AllBare.empty))
end Mine
theorem PySem.Challenge.cw_ev0005_01_holds : PySem.Challenge.rw_ev0005_01.Holds := by
  exact Mine.walked
