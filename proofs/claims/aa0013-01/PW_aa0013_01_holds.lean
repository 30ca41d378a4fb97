import PyProof.Rows.All
import Wide.All
import OpenK.AllK
import Wide.FinOn
import PySem.Challenge.RW_aa0013_01
set_option Elab.async false
set_option linter.all false
set_option compiler.extract_closed false
section
open PySem PySem.W PyProof.Rows
namespace Mine
set_option maxRecDepth 100000
set_option maxHeartbeats 0
noncomputable abbrev prog0 : Program := PySem.Challenge.rw_aa0013_01.row.prog
/-- the top's statements that the head pins: law alone -/
noncomputable def view : Program := { prog0 with main := { prog0.main with body := prog0.main.body.drop 51 } }
noncomputable def loose : List Str := ["_wall", "lt", "le", "eq", "ne", "ge", "gt", "truth", "add", "and_", "floordiv", "inv", "lshift", "mod", "mul", "neg", "or_", "rshift", "sub", "xor", "contains", "countOf", "indexOf", "bytes_types", "_bytes_from_decode_data", "Error", "_ascii_buffer", "_buffer", "_truth", "_B64", "_b64_value", "a2b_base64", "b2a_base64", "b64encode", "b64decode", "_law_row", "_law_signed", "_law_parts", "_law_bits", "_law_due", "_law_told", "_law_number", "_law_held", "_law_signs", "_law_strewn", "_law_run"].map Str.ofString
theorem left_rfl {p q : Program} {ls : List Str} {Xt : Shared → Bool} {α : Type} {Yf : Shared → α} {Ya : World → α} {N : Nat} {g0 : Bool} (h : ∀ w : World, (openEnds treeTable p w N).map (fun s => (openSeen q ls (importedModules p.main.body) Xt g0 s, Yf s)) = some (openGood q ls, Ya w)) : LeftO p q ls Xt Yf Ya N g0 := h
theorem law_said : OpenLaw.wellSaid PySem.Challenge.rw_aa0013_01 = true := by
  unfold OpenLaw.wellSaid OpenRow.wellSaid OpenRow.partSaid looksOpen
  repeat' with_reducible refine look_both ?_ ?_
  all_goals decide +kernel
theorem law_on (h : PySem.Challenge.rw_aa0013_01.row.wellSaid = true → PySem.Challenge.rw_aa0013_01.row.Holds) : PySem.Challenge.rw_aa0013_01.Holds := holds_law law_said h
noncomputable def top (H : Hook) (said : PySem.Challenge.rw_aa0013_01.row.wellSaid = true) (hl : LeftO prog0 view loose (fun s => xlAt view [] s && recOk (RowW.records PySem.Challenge.rw_aa0013_01.row.toRowW) s) H.obs H.val 3316) :=
  holds_open (r := PySem.Challenge.rw_aa0013_01.row) (XP := XL view []) (YP := H.says) hl H.of H.keeps (fun s e => xl_of s (Bool.and_eq_true_iff.mp e).1) XL.keeps (by rfl) (by rfl) (by rfl) (fun s e => recFacts_of (Bool.and_eq_true_iff.mp e).2) (by rfl) said (by decide +kernel) ⟨rfl, rfl, rfl, rfl, rfl, by decide +kernel⟩
end Mine
local macro_rules | `(tactic| w_on) => `(tactic| skip)
local macro_rules | `(tactic| o_law) => `(tactic| (refine Mine.law_on ?_; intro said))
local macro_rules | `(tactic| o_head $H) => do
  let hw := Lean.mkIdent `hw
  `(tactic| (refine Mine.top $H (by assumption) ?hl ?$hw ?hc; (case hl => (refine Mine.left_rfl fun w => ?_); kernel_rfl)))
set_option maxRecDepth 100000
set_option maxHeartbeats 0
namespace Mine
open_top hd for PySem.Challenge.rw_aa0013_01
end Mine
end
-- Base
section
open PySem PySem.W PySem.Calls PyProof.Rows
set_option maxRecDepth 100000
namespace Mine
/-- the program as it stands in the goal -/
noncomputable abbrev pr : Program := PySem.Challenge.rw_aa0013_01.row.prog
noncomputable def Keep (h h' : Heap) : Prop := ∀ b o, h.get? b = some o → h'.get? b = some o
theorem Keep.refl (h : Heap) : Keep h h := fun _ _ e => e
theorem Keep.trans {h h' h'' : Heap} (a : Keep h h') (b : Keep h' h'') : Keep h h'' := fun x o e => b x o (a x o e)
/-- a state from which the text's defs may be called -/
structure CanB (w : World) (loose : List Str) (mean : ExcName → Option Value) (mg mb : Str → Option Value) (base : Heap) (env : Env) (outer : List Env) (A : Around) (h : Heap) : Prop where
  ex : ∃ (A₀ : Around) (h₀ : Heap) (L : Addr) (m : Str → Option Value),
    Below A₀ base outer h₀ ∧ Fr h₀ L h m ∧ (hd.heap_1 w.params).In h₀ ∧ Top view loose mean mg mb h₀ ∧ A.frames = some (env :: outer) ∧ env.frame = some L ∧ env.scope.kind = .function
section
variable {w : World} {loose : List Str} {mean : ExcName → Option Value} {mg mb : Str → Option Value} {base : Heap} {env : Env} {outer : List Env} {A : Around} {h h' : Heap}
theorem CanB.keeps (C : CanB w loose mean mg mb base env outer A h) (k : Keep h h') : CanB w loose mean mg mb base env outer A h' := by
  obtain ⟨A₀, h₀, L, m, B, F, X, T, a, b, c⟩ := C.ex
  exact ⟨A₀, h₀, L, m, B, ⟨F.ns.keeps k, fun x o e => k _ _ (F.keep x o e), F.above⟩, X, T, a, b, c⟩
end
/-- what a call hands back: nothing that stood is touched -/
noncomputable def Out (s : Shared) (R : Value → Heap → Prop) (v : Value) (s' : Shared) : Prop :=
  ∃ h' tk', s' = { s with heap := h', toks := tk' } ∧ Keep s.heap h' ∧ R v h'
noncomputable def NoE : Value → Shared → Prop := fun _ _ => False
section
variable {w : World} {A : Around} {s : Shared} {loose : List Str} {mean : ExcName → Option Value} {mg mb : Str → Option Value} {base : Heap} {env : Env} {outer : List Env}
  {name qual : Str} {params : Arguments} {body : List Stmt} {scope : Scope} {dV kV doc pm cdv ct oc : Value} {an od : Option Addr} {osl : Array (Option Value)} {f : Addr} {args : List Value} {kw : List (Str × Value)} {binds : List (Str × Value)}
  {Q E : Value → Shared → Prop}
theorem enter (C : CanB w loose mean mg mb base env outer A s.heap) (ho : (hd.heap_1 w.params).lookup f = some ⟨oc, od, .func (fnOf name qual params body scope dV kV doc pm an cdv ct), osl⟩ := by k_is)
    (hcd : codeIn (hd.heap_1 w.params) cdv qual = true := by k_is) (hroom : A.depth < recursionLimit := by assumption)
    (hbind : (hd.heap_1 w.params).In s.heap → BindsTo s (fnOf name qual params body scope dV kV doc pm an cdv ct) ⟨args, kw⟩ binds := by intro XB; first | exact BindsTo.of_eq rfl | exact binds_K XB rfl (by k_is) rfl rfl rfl) (hloc : ∀ y ∈ binds, scope.names.lookup y.1 = some .local := by exact locs rfl)
    (h : ∀ L' h₁, A.frames = some (env :: outer) → Fr s.heap L' h₁ (fun y => binds.reverse.lookup y) → News s.heap L' h₁ [] → Below A base (env :: outer) s.heap → (hd.heap_1 w.params).In s.heap → Top view loose mean mg mb s.heap →
      wpAny (model pr w) (A.deeper (envOf qual scope L' f cdv)) (execs body (envOf qual scope L' f cdv))
        (fun fl s' => Q (match fl with | .ret v => v | _ => .none) s')
        (fun e s' => wpAny (model pr w) (A.deeper (envOf qual scope L' f cdv)) (leaving (envOf qual scope L' f cdv) e) (fun _ s'' => E e s'') (fun e' s'' => E e' s'') s')
        { s with heap := h₁, toks := s.toks + binds.length })
    (hco : scope.isCoroutine = false := by rfl) (hgen : scope.isGenerator = false := by rfl) (hk : scope.kind = .function := by rfl)
    (hcell : ∀ x ∈ scope.names, x.2 ≠ .cell := by decide) : wpAny (model pr w) A (call (.ref f) args kw) Q E s := by
  obtain ⟨A₀, h₀, L, m, B, F, X, T, hA, hf, hke⟩ := C.ex
  have Xs := X.keeps F.keep
  have B₁ := pushX B F hf hke
  refine wpAny_call (codeAny_call_def (fd := fnOf name qual params body scope dV kV doc pm an cdv ct) (body := body) (binds := binds) hroom (Xs _ _ ho) rfl (T.nolimit.keeps F.keep) (codeRec_of Xs hcd) rfl (hbind Xs) hcell hloc (fun h₁ hns hk₁ => ?_) hco hgen hk)
  exact h s.heap.objs.size h₁ hA ⟨hns, hk₁, Nat.le_refl _⟩ News.nil ⟨hA, B₁.stays, B₁.frames⟩ Xs (T.keeps F.keep)
end
/-- the results -/
noncomputable def RInt (x : Int) : Value → Heap → Prop := fun v _ => ∃ t, v = .int x t
noncomputable def RBool (b : Bool) : Value → Heap → Prop := fun v _ => v = .bool b
noncomputable def RList (g : Heap) (ns : List Int) : Value → Heap → Prop := fun v h => ∃ l vs n, v = .ref l ∧ h.get? l = some (listOf (List.toArray vs) n) ∧ IntsAre vs ns ∧ g.get? l = none
section
variable {w : World} {s s₁ : Shared} {L : Addr} {h' : Heap} {m : Str → Option Value} {news : List (Addr × Obj)}
theorem out_list {l : Addr} {vs : List Value} {n : Nat} {ns : List Int} {tk : Nat} (F : Fr s.heap L h' m) (N : News s.heap L h' news) (hm : (l, listOf vs.toArray n) ∈ news) (hi : IntsAre vs ns) :
    Out s (RList s.heap ns) (.ref l) { s with heap := h', toks := tk } :=
  ⟨h', tk, rfl, F.keep, l, vs, n, rfl, (N _ hm).1, hi, (N _ hm).2.2⟩
theorem out_int {x : Int} {t : Tok} {tk : Nat} (F : Fr s.heap L h' m) : Out s (RInt x) (.int x t) { s with heap := h', toks := tk } := ⟨h', tk, rfl, F.keep, t, rfl⟩
theorem out_bool {x : Bool} {tk : Nat} (F : Fr s.heap L h' m) : Out s (RBool x) (.bool x) { s with heap := h', toks := tk } := ⟨h', tk, rfl, F.keep, rfl⟩
end
section
variable {A : Around} {e : Env} {n k : Nat}
theorem room_d (h : A.depth + n < recursionLimit := by assumption) (hk : k + 1 ≤ n := by decide) : (A.deeper e).depth + k < recursionLimit := by rw [depth_deeper]; (first | lia | omega)
theorem room_d0 (h : A.depth + n < recursionLimit := by assumption) (hk : 1 ≤ n := by decide) : (A.deeper e).depth < recursionLimit := by rw [depth_deeper]; (first | lia | omega)
theorem room_u (h : A.units + n < cLine := by assumption) (hk : k + 3 ≤ n := by decide) : (A.deeper e).units + k < cLine := by rw [units_deeper]; (first | lia | omega)
end
end Mine
end
-- Loops
section
open PySem PySem.W PySem.Calls PyProof.Rows PyProof.V PySem.Spec
set_option maxRecDepth 100000
namespace Mine
/-- a frame's names, some of them seen -/
noncomputable def over : List (Str × Value) → (Str → Option Value) → Str → Option Value
  | [], m => m
  | p :: r, m => fun z => if z = p.1 then some p.2 else over r m z
noncomputable def Sees (m : Str → Option Value) (ps : List (Str × Value)) : Prop := ∀ p ∈ ps, m p.1 = some p.2
theorem over_eq {m : Str → Option Value} : ∀ {ps : List (Str × Value)}, Sees m ps → over ps m = m
  | [], _ => rfl
  | p :: r, h => by
    funext z
    show (if z = p.1 then some p.2 else over r m z) = m z
    by_cases e : z = p.1
    · rw [if_pos e, e]; exact (h p (.head _)).symm
    · rw [if_neg e, over_eq (ps := r) fun q hq => h q (.tail _ hq)]
theorem fr_over {h₀ h : Heap} {L : Addr} {x : Str} {v : Value} {m : Str → Option Value} {ps : List (Str × Value)} (hs : Sees m ps) (F : Fr h₀ L h (fun y => if y = x then some v else m y)) :
    Fr h₀ L h (fun y => if y = x then some v else over ps m y) := by rw [over_eq hs]; exact F
theorem fr_overD {h₀ h : Heap} {L : Addr} {m : Str → Option Value} {ps : List (Str × Value)} (hs : Sees m ps) (F : Fr h₀ L h m) : Fr h₀ L h (over ps m) := by rw [over_eq hs]; exact F
theorem sees_nil {m : Str → Option Value} : Sees m [] := fun _ h => nomatch h
theorem sees_cons {m : Str → Option Value} {x : Str} {v : Value} {ps : List (Str × Value)} (h : m x = some v) (r : Sees m ps) : Sees m ((x, v) :: ps) := fun p hp => by
  rcases List.mem_cons.mp hp with rfl | hp
  · exact h
  · exact r p hp
theorem inv_end1 {h₀ : Heap} {L l : Addr} {J : (Str → Option Value) → List (Addr × Obj) → Prop} {m' : Str → Option Value} {own : List (Addr × Obj)} {s₁ : Shared} {h' : Heap} {tk : Nat} {o : Obj} (F : Fr h₀ L h' m') (N : News h₀ L h' ((l, o) :: own)) (hj : J m' [(l, o)]) :
    InvEndN h₀ L J own [l] s₁ { s₁ with heap := h', toks := tk } :=
  InvEndN.intro F N hj rfl (fun p hp => by rw [List.mem_singleton.mp hp]; exact .head _) (fun p hp => .tail _ hp)
section
variable {prog : Program} {w : World} {A : Around} {E : Value → Shared → Prop} {s : Shared} {env : Env} {h₀ : Heap} {x : Str} {body : List Stmt} {Q : Flow → Shared → Prop}
/-- a fold over ints: the turn knows how far the fold has come -/
theorem loop_fold {σ : Type} {I : Addr} {fp wr : List Addr} {n : Nat} {P : Nat → Value → Prop} {St : Nat → Heap → Prop} {m₀ : Str → Option Value} {news : List (Addr × Obj)} {ks : List Int}
    (R : σ → (Str → Option Value) → List (Addr × Obj) → Prop) (g : σ → Int → σ) (a₀ : σ)
    (W : Walks prog w A I fp wr n P St) (hks : ItemsAre n P ks) (hLf : env.locals ∉ fp) (hwr : ∀ b ∈ wr, h₀.get? b = none) (hnw : ∀ p ∈ news, p.1 ∉ wr) (hfp : ∀ q ∈ news, q.1 ∉ fp) (hst : St 0 s.heap) (F : Fr h₀ env.locals s.heap m₀) (N : News h₀ env.locals s.heap news) (hr : R a₀ m₀ news)
    (turn : ∀ i k t a m₁ nx h tk own, ks[i]? = some k → a = (ks.take i).foldl g a₀ → OwnOff own (news.map (·.1)) → R a m₁ nx → Fr h₀ env.locals h (fun y => if y = x then some (.int k t) else m₁ y) → News h₀ env.locals h (nx ++ own) →
      wpAny (model prog w) A (execs body env) (InvPostN h₀ env.locals (R (g a k)) own (news.map (·.1)) { s with heap := h, toks := tk } Q) E { s with heap := h, toks := tk })
    (done : ∀ m₁ nx h tk, R (ks.foldl g a₀) m₁ nx → Fr h₀ env.locals h m₁ → News h₀ env.locals h nx → Q .next { s with heap := h, toks := tk }) :
    LoopAtV prog w A h₀ env x body Q E (.ref I) s := by
  refine loop_invN (fun i m nx => R ((ks.take i).foldl g a₀) m nx) W hLf hwr hnw hfp hst F N (by simpa using hr) ?_ ?_
  · intro i v m₁ news₁ h tk own hin hP _ hsep hR F₁ N₁
    obtain ⟨k, t, hk, rfl⟩ := hks.2 i v hin hP
    have hs : (ks.take (i + 1)).foldl g a₀ = g ((ks.take i).foldl g a₀) k := by
      rw [List.take_add_one, hk]; simp
    rw [hs]
    exact turn i k t _ m₁ news₁ h tk own hk rfl hsep hR F₁ N₁
  · intro m₁ nx h tk hR F₁ N₁
    rw [← hks.1, List.take_length] at hR
    exact done m₁ nx h tk hR F₁ N₁
/-- for x in reversed(l), l a list that stood before -/
theorem iter_rev {σ : Type} {l D : Addr} {vs : List Value} {ns : List Int} {m₀ : Str → Option Value} {news : List (Addr × Obj)} (R : σ → (Str → Option Value) → List (Addr × Obj) → Prop) (g : σ → Int → σ) (c₀ : σ)
    (hh : A.handled = none) (hl : h₀.IsList l vs.toArray) (hi : IntsAre vs ns) (F : Fr h₀ env.locals s.heap m₀) (N : News h₀ env.locals s.heap ((D, revObj l ((vs.length : Int) - 1)) :: news)) (hne : ∀ p ∈ news, p.1 ≠ D) (hR : R c₀ m₀ news)
    (turn : ∀ i k t a m₁ nx h tk own, ns.reverse[i]? = some k → a = (ns.reverse.take i).foldl g c₀ → OwnOff own (news.map (·.1)) → R a m₁ nx → Fr h₀ env.locals h (fun y => if y = x then some (.int k t) else m₁ y) → News h₀ env.locals h (nx ++ own) →
      wpAny (model prog w) A (execs body env) (InvPostN h₀ env.locals (R (g a k)) own (news.map (·.1)) { s with heap := h, toks := tk } Q) E { s with heap := h, toks := tk })
    (done : ∀ m₁ nx h tk, R (ns.reverse.foldl g c₀) m₁ nx → Fr h₀ env.locals h m₁ → News h₀ env.locals h nx → Q .next { s with heap := h, toks := tk }) :
    wpAny (model prog w) A (pyIter (.ref D)) (fun it s₂ => LoopAtV prog w A h₀ env x body Q E it s₂) E s := by
  have hIx := N _ (List.mem_cons_self ..)
  have hls : s.heap.IsList l vs.toArray := hl.at fun o e => F.keep l o e
  obtain ⟨ol, hol, _⟩ := id hl
  have hlD : l ≠ D := fun e => by have := hIx.2.2; rw [← e, hol] at this; cases this
  have hit : s.heap.IsRevIter D l ((vs.length : Int) - 1) := ⟨_, hIx.1, rfl, rfl⟩
  refine wpAny_pyIter_revIter hit ?_
  have W := Walks.listRev (prog := prog) (w := w) hh D l hlD vs.toArray
  have hlen : vs.toArray.size = vs.length := by simp
  rw [hlen] at W
  refine loop_fold (ks := ns.reverse) R g c₀ W ⟨by rw [List.length_reverse, hi.length], ?_⟩ ?_ ?_ ?_ ?_ ⟨Nat.zero_le _, by simpa using hit, hls⟩ F (fun p hp => N p (List.mem_cons_of_mem _ hp)) hR turn done
  · intro i v hlt hv
    have hv' : vs.reverse[i]? = some v := by
      rw [List.getElem?_reverse hlt]
      simpa using hv
    have hr := hi.reverse
    have hlt' : i < ns.reverse.length := by rw [List.length_reverse, ← hi.length]; exact hlt
    obtain ⟨t, ht⟩ := hr.get i ns.reverse[i] (List.getElem?_eq_getElem hlt')
    refine ⟨ns.reverse[i], t, List.getElem?_eq_getElem hlt', ?_⟩
    rw [ht] at hv'
    exact (Option.some.inj hv').symm
  · intro hm
    rcases List.mem_cons.mp hm with e | hm
    · exact hIx.2.1 e.symm
    · exact absurd (Nat.lt_of_lt_of_le (Heap.lt_size hol) F.above) ((List.mem_singleton.mp hm) ▸ Nat.lt_irrefl _)
  · intro b hb
    rw [List.mem_singleton.mp hb]
    exact hIx.2.2
  · intro p hp hI
    exact hne p hp (List.mem_singleton.mp hI)
  · intro q hq hI
    rcases List.mem_cons.mp hI with e | e
    · exact hne q hq e
    · have h3 := (N q (List.mem_cons_of_mem _ hq)).2.2
      rw [List.mem_singleton.mp e, hol] at h3
      cases h3
end
end Mine
end
local macro_rules | `(tactic| k_call_by "m_room" $C $b) => `(tactic| (first | assumption | exact Mine.room_d | exact Mine.room_d0 | exact Mine.room_u | omega | (dsimp only [PySem.Around.deeper, PySem.Around.mark, PySem.Around.in1, PySem.W.ktrTop] at *; (try simp only [PySem.recursionLimit, PySem.cLine] at *); omega)))
local macro_rules | `(tactic| k_call_by "m_simp" $C $b) => `(tactic| ((simp only [List.length_cons, List.length_nil, List.reverse_cons, List.reverse_nil, List.nil_append, List.cons_append] at $C ⊢)))
local macro_rules | `(tactic| k_call_by "m_enter" $C $b) => `(tactic| (refine' Mine.enter (binds := $b) $C (h := ?hbody); intro _ _ _ F' _ _ _ _; k_call_by "m_simp" F' x))
-- Use
section
open PySem PySem.W PySem.Calls PyProof.Rows
set_option linter.all false
set_option maxRecDepth 100000
namespace Mine
noncomputable def Stop (P : Prop) : Prop := P
theorem stop {P : Prop} (h : Stop P) : P := h
theorem Stop.go {P : Prop} (h : P) : Stop P := h
section
variable {M : Model} {A : Around} {E : Value → Shared → Prop} {Q : Value → Shared → Prop} {s : Shared} {args : List Value} {kws : List (Str × Value)}
theorem at_ref (n : Addr) (h : wpAny M A (call (Value.ref n) args kws) Q E s) : wpAny M A (call (Value.ref n) args kws) Q E s := h
theorem stop_ref (n : Addr) (h : Stop (wpAny M A (call (Value.ref n) args kws) Q E s)) : wpAny M A (call (Value.ref n) args kws) Q E s := h
theorem stop_call_type {x : String} {l : Addr} (h : Stop (wpAny M A (call (Value.type x) [Value.ref l] kws) Q E s)) : wpAny M A (call (Value.type x) [Value.ref l] kws) Q E s := h
theorem stop_sub_ref {a b} {l : Addr} {i : Int} {t : Tok} (h : Stop (wpAny M A (subscriptTail a b (Value.ref l) (Value.int i t)) Q E s)) : wpAny M A (subscriptTail a b (Value.ref l) (Value.int i t)) Q E s := h
theorem stop_sub_bytes {a b c u} {i : Int} {t : Tok} (h : Stop (wpAny M A (subscriptTail a b (Value.bytes c u) (Value.int i t)) Q E s)) : wpAny M A (subscriptTail a b (Value.bytes c u) (Value.int i t)) Q E s := h
theorem stop_set {l : Addr} {i : Int} {t : Tok} {v} {Q : _ → Shared → Prop} (h : Stop (wpAny M A (setItem (Value.ref l) (Value.int i t) v) Q E s)) : wpAny M A (setItem (Value.ref l) (Value.int i t) v) Q E s := h
theorem stop_b64 {p a b c} (h : Stop (wpAny M A (subscriptTail (Expr.Name (Str.ofString "_B64") p) a b c) Q E s)) : wpAny M A (subscriptTail (Expr.Name (Str.ofString "_B64") p) a b c) Q E s := h
theorem at_type_int {x : String} {i : Int} {t : Tok} (h : wpAny M A (call (Value.type x) [Value.int i t] kws) Q E s) : wpAny M A (call (Value.type x) [Value.int i t] kws) Q E s := h
theorem at_sub_bytes {a b c u} {i : Int} {t : Tok} (h : wpAny M A (subscriptTail a b (Value.bytes c u) (Value.int i t)) Q E s) : wpAny M A (subscriptTail a b (Value.bytes c u) (Value.int i t)) Q E s := h
theorem at_meth {l : Addr} {pl : Sem Bool} {Q : Value × List Value → Shared → Prop} (x : String) (h : wpAny M A (getMethod (Value.ref l) (Str.ofString x) pl) Q E s) : wpAny M A (getMethod (Value.ref l) (Str.ofString x) pl) Q E s := h
theorem at_kw {p1 p2 p3 : Pos} {u : Addr} {first : List Value} {e : Expr} {r : List Expr} {k : Keyword} {ks : List Keyword} {e1 e2 : Env} (h : wpAny M A (callWith p1 (Value.ref u) first (backTo p2 (starEach (e :: r) e1)) (backToKw p3 (keywordEach (k :: ks) e2))) Q E s) :
    wpAny M A (callWith p1 (Value.ref u) first (backTo p2 (starEach (e :: r) e1)) (backToKw p3 (keywordEach (k :: ks) e2))) Q E s := h
theorem type_bytes {prog : Program} {w : World} {b : Array UInt8} {t : Tok} (h : Q (.type "bytes") s) : wpAny (model prog w) A (call (.type "type") [.bytes b t]) Q E s := call_type_of (Tx := "bytes") rfl (by decide +kernel) h
theorem stop_for {a b c d e r env} {Q : Flow → Shared → Prop} (h : Stop (wpAny M A (execs (PySem.Stmt.For a b c d e :: r) env) Q E s)) : wpAny M A (execs (PySem.Stmt.For a b c d e :: r) env) Q E s := h
end
section
variable {w : World} {loose : List Str} {mean : ExcName → Option Value} {mg mb : Str → Option Value} {base g : Heap} {env : Env} {outer : List Env} {A A₀ : Around} {s : Shared} {L : Addr} {m : Str → Option Value} {news : List (Addr × Obj)}
theorem can_of (B : Below A₀ base outer g := by assumption) (F : Fr g L s.heap m := by assumption) (X : (hd.heap_1 w.params).In g := by assumption) (T : Top view loose mean mg mb g := by assumption) (hA : A.frames = some (env :: outer) := by rfl) (hf : env.frame = some L := by rfl) (hk : env.scope.kind = .function := by rfl) :
    CanB w loose mean mg mb base env outer A s.heap := ⟨A₀, g, L, m, B, F, X, T, hA, hf, hk⟩
theorem Fr.keepK {h h' : Heap} (F : Fr g L h m) (k : Keep h h') : Fr g L h' m := ⟨F.ns.keeps k, fun x o e => k _ _ (F.keep x o e), F.above⟩
theorem News.keepK {h h' : Heap} (N : News g L h news) (k : Keep h h') : News g L h' news := fun p hp => ⟨k _ _ (N p hp).1, (N p hp).2⟩
noncomputable def AllNe (l : Addr) : List (Addr × Obj) → Prop
  | [] => True
  | p :: r => @Ne Nat p.1 l ∧ AllNe l r
theorem allNe_of {l : Addr} : ∀ {news : List (Addr × Obj)}, (∀ p ∈ news, p.1 ≠ l) → AllNe l news
  | [], _ => trivial
  | _ :: _, h => ⟨h _ (.head _), allNe_of fun q hq => h q (.tail _ hq)⟩
variable {t : Sem Value} {E : Value → Shared → Prop} {Q : Value → Shared → Prop}
theorem use_int {x : Int} (F : Fr g L s.heap m) (N : News g L s.heap news) (c : wpAny (model pr w) A t (Out s (RInt x)) NoE s)
    (k : ∀ tk h' tk', Fr g L h' m → News g L h' news → Q (.int x tk) { s with heap := h', toks := tk' }) : wpAny (model pr w) A t Q E s := by
  refine wpAny_mono c (fun v s' o => ?_) fun _ _ e => e.elim
  obtain ⟨h', tk', rfl, hk, tk, rfl⟩ := o
  exact k tk h' tk' (Fr.keepK F hk) (News.keepK N hk)
theorem use_bool {x : Bool} (F : Fr g L s.heap m) (N : News g L s.heap news) (c : wpAny (model pr w) A t (Out s (RBool x)) NoE s)
    (k : ∀ h' tk', Fr g L h' m → News g L h' news → Q (.bool x) { s with heap := h', toks := tk' }) : wpAny (model pr w) A t Q E s := by
  refine wpAny_mono c (fun v s' o => ?_) fun _ _ e => e.elim
  obtain ⟨h', tk', rfl, hk, rfl⟩ := o
  exact k h' tk' (Fr.keepK F hk) (News.keepK N hk)
theorem use_list {ns : List Int} (F : Fr g L s.heap m) (N : News g L s.heap news) (c : wpAny (model pr w) A t (Out s (RList s.heap ns)) NoE s)
    (k : ∀ l vs n h' tk', IntsAre vs ns → Fr g L h' m → News g L h' ((l, listOf (List.toArray vs) n) :: news) → AllNe l news → Q (.ref l) { s with heap := h', toks := tk' }) : wpAny (model pr w) A t Q E s := by
  refine wpAny_mono c (fun v s' o => ?_) fun _ _ e => e.elim
  obtain ⟨h', tk', rfl, hk, l, vs, n, rfl, hl, hi, hf⟩ := o
  refine k l vs n h' tk' hi (Fr.keepK F hk) ?_ (allNe_of fun p hp e => ?_)
  · intro p hp
    rcases List.mem_cons.mp hp with rfl | hp
    · refine ⟨hl, fun e => ?_, ?_⟩
      · obtain ⟨oL, es, ep, hL, r⟩ := F.ns
        have e' : l = L := e
        rw [e', hL] at hf; cases hf
      · cases q : g.get? l with
        | none => rfl
        | some o => have := F.keep l o q; rw [hf] at this; cases this
    · exact News.keepK N hk p hp
  · have := (N p hp).1
    rw [e, hf] at this; cases this
/-- bytes handed back -/
noncomputable def RBytes (ks : List Int) : Value → Heap → Prop := fun v _ => ∃ b t, v = .bytes b t ∧ KBw.bInts b = ks
theorem use_bytes {ks : List Int} (F : Fr g L s.heap m) (N : News g L s.heap news) (c : wpAny (model pr w) A t (Out s (RBytes ks)) NoE s)
    (k : ∀ b tk h' tk', KBw.bInts b = ks → Fr g L h' m → News g L h' news → Q (.bytes b tk) { s with heap := h', toks := tk' }) : wpAny (model pr w) A t Q E s := by
  refine wpAny_mono c (fun v s' o => ?_) fun _ _ e => e.elim
  obtain ⟨h', tk', rfl, hk, b, tk, rfl, hb⟩ := o
  exact k b tk h' tk' hb (Fr.keepK F hk) (News.keepK N hk)
/-- the very value handed back -/
noncomputable def RVal (x : Value) : Value → Heap → Prop := fun v _ => v = x
theorem use_val {x : Value} (F : Fr g L s.heap m) (N : News g L s.heap news) (c : wpAny (model pr w) A t (Out s (RVal x)) NoE s)
    (k : ∀ h' tk', Fr g L h' m → News g L h' news → Q x { s with heap := h', toks := tk' }) : wpAny (model pr w) A t Q E s := by
  refine wpAny_mono c (fun v s' o => ?_) fun _ _ e => e.elim
  obtain ⟨h', tk', rfl, hk, rfl⟩ := o
  exact k h' tk' (Fr.keepK F hk) (News.keepK N hk)
end
section
variable {s : Shared} {L : Addr} {h' : Heap} {m : Str → Option Value} {news : List (Addr × Obj)}
theorem out_intE {x y : Int} {t : Tok} {tk : Nat} (F : Fr s.heap L h' m) (e : y = x) : Out s (RInt x) (.int y t) { s with heap := h', toks := tk } := e ▸ ⟨h', tk, rfl, F.keep, t, rfl⟩
theorem out_boolE {x y : Bool} {tk : Nat} (F : Fr s.heap L h' m) (e : y = x) : Out s (RBool x) (.bool y) { s with heap := h', toks := tk } := e ▸ ⟨h', tk, rfl, F.keep, rfl⟩
theorem out_val {x : Value} {tk : Nat} (F : Fr s.heap L h' m) : Out s (RVal x) x { s with heap := h', toks := tk } := ⟨h', tk, rfl, F.keep, rfl⟩
theorem out_bytes {ks : List Int} {b : Array UInt8} {t : Tok} {tk : Nat} (F : Fr s.heap L h' m) (e : KBw.bInts b = ks) : Out s (RBytes ks) (.bytes b t) { s with heap := h', toks := tk } := ⟨h', tk, rfl, F.keep, b, t, rfl, e⟩
end
section
variable {prog : Program} {w : World} {A : Around} {E : Value → Shared → Prop} {s : Shared} {Q : Value → Shared → Prop}
/-- x is y, two small ints that came from two rows of the tokens -/
theorem is_small {M : Model} {p q : Int} {t u : Tok} (ht : t ≠ 0 := by assumption) (hu : u ≠ 0 := by assumption) (hne : t ≠ u := by assumption) (hp0 : -5 ≤ p := by first | lia | omega) (hp1 : p ≤ 256 := by first | lia | omega) (h : Q (.bool (p == q)) s) : wpAny M A (compareOp .Is (.int p t) (.int q u)) Q E s := by
  show wpAny M A (isSame (.int p t) (.int q u) >>= fun b => pure (.bool b)) Q E s
  have hz : (t == 0 || u == 0) = false := by simp [ht, hu]
  have htu : (t == u) = false := by simp [hne]
  refine wpAny_bind ?_
  unfold isSame
  dsimp only
  cases hpq : (p == q) with
  | true =>
    have hs : (true && smallInt p) = true := by simp [smallInt, hp0, hp1]
    rw [hpq] at h
    rw [if_pos hs]
    unfold isSame.cachedInt
    rw [hz, if_neg Bool.false_ne_true]
    exact wpAny_bind (wpAny_rule (wpAny_pure (wpAny_pure h)))
  | false =>
    rw [hpq] at h
    rw [if_neg (by simp)]
    unfold isSame.created
    rw [hz, if_neg Bool.false_ne_true, htu]
    exact wpAny_pure (wpAny_pure h)
end
end Mine
end
local macro_rules | `(tactic| k_call_by "m_four" $C $b) => `(tactic| ((case F => k_asm); (case N => k_asm); (case C => exact Mine.can_of); (case hr => k_call_by "m_room" x x)))
local macro_rules | `(tactic| k_call_by "m_use" $C $b) => `(tactic| (refine' $C (by k_asm) (by k_asm) ($b (by exact Mine.can_of) (by k_call_by "m_room" x x)) ?_; intros; (try k_sweep)))
-- Bytes
section
open PySem PySem.W PySem.Calls PyProof.Rows PyProof.V PySem.Spec
set_option linter.all false
set_option maxRecDepth 100000
namespace Mine
/-- an exception that was raised in the context of no other -/
noncomputable def NoCtx (h : Heap) (e : Addr) : Prop := ∃ o vs, h.get? e = some o ∧ o.data = .fields vs ∧ vs[2]? = some .none
theorem NoCtx.at {h h' : Heap} {e : Addr} (x : NoCtx h e) (k : ∀ o, h.get? e = some o → h'.get? e = some o) : NoCtx h' e := let ⟨o, vs, a, r⟩ := x; ⟨o, vs, k o a, r⟩
/-- nothing is being handled, or such an exception is -/
noncomputable def HdOk (A : Around) (h : Heap) : Prop := A.handled = none ∨ ∃ e, A.handled = some (.ref e) ∧ NoCtx h e
theorem HdOk.keeps {A : Around} {h h' : Heap} (x : HdOk A h) (k : Keep h h') : HdOk A h' := x.imp id fun ⟨e, a, b⟩ => ⟨e, a, b.at fun o => k e o⟩
theorem entry_unchain : entryFor table "proto.unchain" = some Builtin.«proto.unchain» := entryFor_of_tree (by kernel_rfl)
theorem push_size (h : Heap) (o : Obj) : (h.push o).objs.size = h.objs.size + 1 := by cases h; simp [Heap.push]
section
variable {prog : Program} {w : World} {A : Around} {E : Value → Shared → Prop} {s : Shared}
theorem raise_hd {α : Type} {e x : Addr} {oe : Obj} {vs : Array Value} {Q : α → Shared → Prop} (hh : A.handled = some (.ref x)) (hx : NoCtx s.heap x) (he : s.heap.get? e = some oe) (hd : oe.data = .fields vs) (hz : 2 < vs.size) (hne : x ≠ e)
    (h : E (.ref e) { s with heap := s.heap.update e (Obj.mapFields (·.setIfInBounds 2 (.ref x))) }) : wpAny (model prog w) A (raiseNew (.ref e) : Sem α) Q E s := by
  obtain ⟨o, ws, ho, hod, h2⟩ := hx
  unfold raiseNew
  refine wpAny_bind (wpAny_handled ?_)
  rw [hh]
  dsimp only
  rw [if_pos (show (Value.ref x != Value.ref e) = true from by simpa using hne)]
  refine wpAny_bind (wpAny_holding (wpAny_runValue (codeAny_builtin entry_unchain ?_)))
  show wpAny _ _ (field (.ref x) 2 >>= fun c => _) _ _ s
  refine wpAny_bind (wpAny_field ho hod h2 ?_)
  rw [if_pos (by decide)]
  refine wpAny_bind (wpAny_pure (wpAny_pure ?_))
  refine wpAny_bind ?_
  unfold updateField
  refine wpAny_bind (wpAny_load he ?_)
  rw [hd]
  dsimp only
  rw [if_pos hz]
  exact wpAny_update he (wpAny_throw h)
open KBw in
theorem next_end_hd {it : Addr} {i : Nat} {b : Array UInt8} {t : Tok} {Q : Option Value → Shared → Prop} (hh : A.handled = none ∨ ∃ e, A.handled = some (.ref e) ∧ e ≠ it ∧ NoCtx s.heap e) (hit : IsBytesIter s.heap it b t i) (hx : b[i]? = none)
    (hQ : ∀ h', Heap.ExtBut it s.heap h' → Q none { s with heap := h' }) : wpAny (model prog w) A (pyNext (.ref it)) Q E s := by
  rcases hh with hh | ⟨e, hh, hne, hc⟩
  · exact next_end hh hit hx hQ
  obtain ⟨o, ho, hcl, hd⟩ := id hit
  unfold pyNext
  refine wpAny_bind (wpAny_attempt (wpAny_callSpecial?_slot (name := PySem.Str.ofString "__next__") (iter_typeIs hit) slot_next
    (wpAny_call_entry slot_next (iter_typeIs hit) entry_next ?_ (args_next _))))
  show wpAny _ _ (field (.ref it) 0 >>= _) _ _ s
  refine wpAny_bind (wpAny_field ho hd (x := .bytes b t) rfl ?_)
  rw [if_neg (show ¬ ((Value.bytes b t == Value.none) = true) from Bool.false_ne_true)]
  refine wpAny_bind (wpAny_field ho hd (x := .int i 0) rfl ?_)
  refine wpAny_bind (wpAny_of_eq (a := b) rfl ?_)
  simp only [Int.toNat_natCast, hx]
  refine wpAny_bind (wpAny_rule (wpAny_bind (wpAny_setField ho hd (by simp) ?_)))
  refine wpAny_bind (m := newExc (.type "StopIteration") []) ?_
  simp only [newExc, newTuple]
  refine wpAny_bind (wpAny_newObj_type ?_ (by size_fits))
  refine wpAny_bind (m := firstArgMember _ _) (wpAny_of_eq (a := Value.none) (by first | rfl | (simp only [firstArgMember]; rfl)) ?_)
  refine wpAny_newObj_type ?_ (by size_fits)
  have hlt := Heap.lt_size hc.choose_spec.choose_spec.1
  refine raise_hd (x := e) (A := A.in1) hh (hc.at fun o q => ?_) (Heap.get?_push_size _ rfl) rfl (by simp [ownMembersOf]) ?_ ?_
  · exact Heap.get?_push_of_some _ (Heap.get?_push_of_some _ ((Heap.get?_update_ne _ _ _ _ hne).trans q))
  · refine Nat.ne_of_lt (Nat.lt_trans hlt ?_)
    show _ < (Heap.push _ _).objs.size
    rw [push_size, Heap.size_update]
    exact Nat.lt_succ_self _
  refine wpAny_bind (wpAny_isInstance (T := "StopIteration") (b := true) ⟨_, Heap.get?_update_self _ (Heap.get?_push_size _ rfl) (Obj.isFreed_of_fields (Obj.data_mapFields rfl _)), Obj.cls_mapFields _ _⟩ isSubtype_stop ?_)
  refine wpAny_pure (hQ _ fun a oa hai hao => ?_)
  have h1 : ∀ o', ((s.heap.update it (Obj.mapFields (·.setIfInBounds 0 .none))).push o').get? a = some oa := fun o' => ((Heap.SameBut.update s.heap it (Obj.mapFields (·.setIfInBounds 0 .none))).extBut.push o') a oa hai hao
  refine (Heap.get?_update_ne _ _ _ _ (Nat.ne_of_lt (Nat.lt_trans (Heap.lt_size hao) ?_))).trans (Heap.get?_push_of_some _ (h1 _))
  show _ < (Heap.push _ _).objs.size
  rw [push_size, Heap.size_update]
  exact Nat.lt_succ_self _
end
open KBw in
theorem walksH {prog : Program} {w : World} {A : Around} {e : Addr} (hh : A.handled = some (.ref e)) (I : Addr) (hne : e ≠ I) (b : Array UInt8) (t : Tok) :
    Walks prog w A I [I, e] [I] b.size (fun i v => ∃ c u, b[i]? = some c ∧ v = .int (c.toNat : Int) u) (fun i h => IsBytesIter h I b t i ∧ NoCtx h e) where
  sub := fun b hb => by simp at hb; simp [hb]
  frame := fun _ _ _ st hk => ⟨let ⟨o, ho, r⟩ := st.1; ⟨o, hk I (by simp) o ho, r⟩, st.2.at fun o q => hk e (by simp) o q⟩
  item := fun i s Q E hi st hQ => by
    refine next_item st.1 (c := b[i]) (by simp [hi]) fun h' hit' hs' => ?_
    exact hQ _ h' (s.toks + 1) ⟨_, _, by simp [hi], rfl⟩ ⟨hit', st.2.at fun o q => (hs'.2 e hne).trans q⟩ fun b o hb q => hs'.extBut b o (fun h => hb (by simp [h])) q
  done := fun s Q E st hQ => next_end_hd (.inr ⟨e, hh, hne, st.2⟩) st.1 (by simp) fun h' he' => hQ h' s.toks fun b o hb q => he' b o (fun h => hb (by simp [h])) q
  self := fun _ _ _ _ st hQ => pyIter_self st.1 hQ
section
variable {prog : Program} {w : World} {A : Around} {E : Value → Shared → Prop} {s : Shared} {env : Env} {h₀ : Heap} {x : Str} {body : List Stmt} {Q : Flow → Shared → Prop}
open KBw in
theorem iter_bytesF {σ : Type} {b : Array UInt8} {tb : Tok} {ks : List Int} {m₀ : Str → Option Value} {news : List (Addr × Obj)} (R : σ → (Str → Option Value) → List (Addr × Obj) → Prop) (g : σ → Int → σ) (c₀ : σ)
    (hk : bInts b = ks) (hh : HdOk A h₀) (F : Fr h₀ env.locals s.heap m₀) (N : News h₀ env.locals s.heap news) (hR : R c₀ m₀ news)
    (turn : ∀ i k t a m₁ nx h tk own, ks[i]? = some k → a = (ks.take i).foldl g c₀ → 0 ≤ k → k < 256 → OwnOff own (news.map (·.1)) → R a m₁ nx → Fr h₀ env.locals h (fun y => if y = x then some (.int k t) else m₁ y) → News h₀ env.locals h (nx ++ own) →
      wpAny (model prog w) A (execs body env) (InvPostN h₀ env.locals (R (g a k)) own (news.map (·.1)) { s with heap := h, toks := tk } Q) E { s with heap := h, toks := tk })
    (done : ∀ m₁ nx h tk, R (ks.foldl g c₀) m₁ nx → Fr h₀ env.locals h m₁ → News h₀ env.locals h nx → Q .next { s with heap := h, toks := tk }) :
    wpAny (model prog w) A (pyIter (.bytes b tb)) (fun it s₂ => LoopAtV prog w A h₀ env x body Q E it s₂) E s := by
  subst hk
  refine pyIter_bytes ?_
  have hP : ∀ (i : Nat) (v : Value), i < b.size → (∃ c u, b[i]? = some c ∧ v = Value.int (c.toNat : Int) u) → ∃ k t, (bInts b)[i]? = some k ∧ v = Value.int k t := by
    rintro i v _ ⟨c, u, hc, rfl⟩
    exact ⟨_, u, ints_get hc, rfl⟩
  have hlt : ∀ p ∈ news, p.1 < s.heap.objs.size := fun p hp => Heap.lt_size (N p hp).1
  have hFs := F.ns.lt
  rcases hh with hh | ⟨e, hh, hc⟩
  · refine loop_fold (ks := bInts b) R g c₀ (walks hh s.heap.objs.size b tb) ⟨ints_length b, hP⟩ ?_ ?_ ?_ ?_ ⟨_, Heap.get?_push_size _ rfl, rfl, rfl⟩ (F.push _) (fun p hp => ⟨Heap.get?_push_of_some _ (N p hp).1, (N p hp).2⟩) hR ?_ done
    · intro hm; exact absurd hFs ((List.mem_singleton.mp hm) ▸ Nat.lt_irrefl _)
    · intro b' hb; rw [List.mem_singleton.mp hb]; exact next_is_new F
    · intro p hp hI; exact absurd (hlt p hp) ((List.mem_singleton.mp hI) ▸ Nat.lt_irrefl _)
    · intro p hp hI; exact absurd (hlt p hp) ((List.mem_singleton.mp hI) ▸ Nat.lt_irrefl _)
    · intro i k t a m₁ nx h tk own hk ha
      have hb := ints_in (b := b) (List.mem_of_getElem? hk)
      exact turn i k t a m₁ nx h tk own hk ha hb.1 hb.2
  · obtain ⟨oe, ve, hoe, _⟩ := id hc
    have hle := Heap.lt_size hoe
    have hes : s.heap.get? e = some oe := F.keep e oe hoe
    have hne : e ≠ s.heap.objs.size := Nat.ne_of_lt (Heap.lt_size hes)
    refine loop_fold (ks := bInts b) R g c₀ (walksH hh s.heap.objs.size hne b tb) ⟨ints_length b, hP⟩ ?_ ?_ ?_ ?_ ⟨⟨_, Heap.get?_push_size _ rfl, rfl, rfl⟩, hc.at fun o q => Heap.get?_push_of_some _ (F.keep e o q)⟩ (F.push _) (fun p hp => ⟨Heap.get?_push_of_some _ (N p hp).1, (N p hp).2⟩) hR ?_ done
    · intro hm
      rcases List.mem_cons.mp hm with q | hm
      · exact absurd hFs (q ▸ Nat.lt_irrefl _)
      · exact absurd (Nat.lt_of_lt_of_le hle F.above) ((List.mem_singleton.mp hm) ▸ Nat.lt_irrefl _)
    · intro b' hb; rw [List.mem_singleton.mp hb]; exact next_is_new F
    · intro p hp hI; exact absurd (hlt p hp) ((List.mem_singleton.mp hI) ▸ Nat.lt_irrefl _)
    · intro p hp hI
      rcases List.mem_cons.mp hI with q | hI
      · exact absurd (hlt p hp) (q ▸ Nat.lt_irrefl _)
      · have := (N p hp).2.2
        rw [List.mem_singleton.mp hI, hoe] at this; cases this
    · intro i k t a m₁ nx h tk own hk ha
      have hb := ints_in (b := b) (List.mem_of_getElem? hk)
      exact turn i k t a m₁ nx h tk own hk ha hb.1 hb.2
end
end Mine
end
-- Safe
section
open PySem PySem.W PySem.Calls PyProof.Rows
open Sem (wp)
set_option linter.all false
set_option maxRecDepth 100000
namespace Mine
/-- a write that leaves a record's third field as it is, where it is none -/
noncomputable def OkF (f : Obj → Obj) : Prop := ∀ o vs, o.data = .fields vs → vs[2]? = some .none → ∃ ws, (f o).data = .fields ws ∧ ws[2]? = some .none
/-- a tree whose own writes are such, and that calls nothing -/
noncomputable def Safe {α : Type} : Sem α → Prop
  | .pure _ => True
  | .raise _ => True
  | .unsupported _ => True
  | .finish _ => True
  | .rule _ k => Safe (k ())
  | .at _ k => Safe (k ())
  | .load _ _ k => ∀ o, Safe (k o)
  | .update _ _ f k => OkF f ∧ Safe (k ())
  | .loadIfAlive _ k => ∀ o, Safe (k o)
  | .point _ k => Safe (k ())
  | .register _ _ => True
  | .alloc _ k => ∀ a, Safe (k a)
  | .fresh k => ∀ t, Safe (k t)
  | .ask k => ∀ x, Safe (k x)
  | .choose _ _ k => ∀ n, Safe (k n)
  | .os _ _ k => ∀ r, Safe (k r)
  | .call .. => False
  | .handled _ k => ∀ x, Safe (k x)
  | .genState _ k => ∀ x, Safe (k x)
  | .newGen _ k => ∀ x, Safe (k x)
  | .resume .. => False
  | .yield .. => True
  | .stack k => ∀ x, Safe (k x)
  | .fork .. => True
  | .thread k => ∀ x, Safe (k x)
  | .await .. => True
theorem NoCtx.push {h : Heap} {e : Addr} (x : NoCtx h e) (o : Obj) : NoCtx (h.push o) e := x.at fun _ q => Heap.get?_push_of_some _ q
theorem NoCtx.update {h : Heap} {e : Addr} (x : NoCtx h e) (a : Addr) {f : Obj → Obj} (hf : OkF f) : NoCtx (h.update a f) e := by
  obtain ⟨o, vs, ho, hd, h2⟩ := x
  by_cases hae : a = e
  · subst hae
    obtain ⟨ws, hw, hw2⟩ := hf o vs hd h2
    exact ⟨_, ws, Heap.get?_update_self f ho (Obj.isFreed_of_fields hw), hw, hw2⟩
  · exact ⟨o, vs, (Heap.get?_update_ne _ _ _ _ (Ne.symm hae)).trans ho, hd, h2⟩
theorem wp_safe {M : Model} {Γ : Ctx} {e : Addr} {α : Type} : ∀ (t : Sem α) {Q : α → Pos → Shared → Prop} {E : Value → Pos → Shared → Prop} {p : Pos} {s : Shared}, Safe t → NoCtx s.heap e → wp M Γ t Q E p s →
    wp M Γ t (fun a p s => Q a p s ∧ NoCtx s.heap e) (fun x p s => E x p s ∧ NoCtx s.heap e) p s := by
  intro t
  induction t with
  | pure a => intro Q E p s _ hn h; rw [wp] at h ⊢; exact ⟨h, hn⟩
  | raise a => intro Q E p s _ hn h; rw [wp] at h ⊢; exact ⟨h, hn⟩
  | unsupported a => intro Q E p s _ hn h; rw [wp] at h; exact h.elim
  | finish a => intro Q E p s _ hn h; rw [wp] at h; exact h.elim
  | rule t k ih => intro Q E p s hs hn h; rw [wp] at h ⊢; exact ih () hs hn h
  | «at» t k ih => intro Q E p s hs hn h; rw [wp] at h ⊢; exact ih () hs hn h
  | load a q k ih => intro Q E p s hs hn h; rw [wp] at h ⊢; obtain ⟨o, ho, h⟩ := h; exact ⟨o, ho, ih o (hs o) hn h⟩
  | update a q f k ih => intro Q E p s hs hn h; rw [wp] at h ⊢; exact ⟨h.1, ih () hs.2 (hn.update a hs.1) h.2⟩
  | loadIfAlive a k ih => intro Q E p s hs hn h; rw [wp] at h ⊢; exact ih _ (hs _) hn h
  | point a k ih => intro Q E p s hs hn h; rw [wp] at h ⊢; exact ih () hs hn h
  | register a k ih => intro Q E p s hs hn h; rw [wp] at h; exact h.elim
  | alloc o k ih => intro Q E p s hs hn h; rw [wp] at h ⊢; exact ih _ (hs _) (hn.push o) h
  | fresh k ih => intro Q E p s hs hn h; rw [wp] at h ⊢; exact ih _ (hs _) hn h
  | ask k ih => intro Q E p s hs hn h; rw [wp] at h ⊢; exact ih _ (hs _) hn h
  | choose a b k ih => intro Q E p s hs hn h; rw [wp] at h ⊢; exact ⟨h.1, ih _ (hs _) hn h.2⟩
  | os a b k ih => intro Q E p s hs hn h; rw [wp] at h ⊢; exact ih _ (hs _) hn h
  | call a b c d k ih => intro Q E p s hs hn h; exact hs.elim
  | handled o k ih => intro Q E p s hs hn h; rw [wp] at h ⊢; exact ih _ (hs _) hn h
  | genState a k ih => intro Q E p s hs hn h; rw [wp] at h ⊢; obtain ⟨o, ho, h⟩ := h; exact ⟨o, ho, ih _ (hs _) hn h⟩
  | newGen a k ih => intro Q E p s hs hn h; rw [wp] at h ⊢; exact ih _ (hs _) hn h
  | resume a b c k ih => intro Q E p s hs hn h; exact hs.elim
  | yield a b c k ih => intro Q E p s hs hn h; rw [wp] at h; exact h.elim
  | stack k ih => intro Q E p s hs hn h; rw [wp] at h ⊢; exact ih _ (hs _) hn h
  | fork a k ih => intro Q E p s hs hn h; rw [wp] at h; exact h.elim
  | thread k ih => intro Q E p s hs hn h; rw [wp] at h ⊢; exact ih _ (hs _) hn h
  | await a b c d k ih => intro Q E p s hs hn h; rw [wp] at h; exact h.elim
theorem wpAny_safe {M : Model} {A : Around} {e : Addr} {α : Type} {t : Sem α} {Q : α → Shared → Prop} {E : Value → Shared → Prop} {s : Shared} (hs : Safe t) (hn : NoCtx s.heap e) (h : wpAny M A t Q E s) :
    wpAny M A t (fun a s' => Q a s' ∧ NoCtx s'.heap e) (fun x s' => E x s' ∧ NoCtx s'.heap e) s := fun Γ p hΓ => wp_safe t hs hn (h Γ p hΓ)
theorem safe_bind {α β : Type} : ∀ {m : Sem α} {f : α → Sem β}, Safe m → (∀ a, Safe (f a)) → Safe (m >>= f) := by
  intro m f hm hf
  show Safe (Sem.bind m f)
  induction m with
  | pure a => exact hf a
  | raise a => trivial
  | unsupported a => trivial
  | finish a => trivial
  | rule t k ih => exact ih () hm
  | «at» t k ih => exact ih () hm
  | load a q k ih => exact fun o => ih o (hm o)
  | update a q f' k ih => exact ⟨hm.1, ih () hm.2⟩
  | loadIfAlive a k ih => exact fun o => ih o (hm o)
  | point a k ih => exact ih () hm
  | register a k ih => trivial
  | alloc o k ih => exact fun a => ih a (hm a)
  | fresh k ih => exact fun a => ih a (hm a)
  | ask k ih => exact fun a => ih a (hm a)
  | choose a b k ih => exact fun a => ih a (hm a)
  | os a b k ih => exact fun a => ih a (hm a)
  | call a b c d k ih => exact hm.elim
  | handled o k ih => exact fun a => ih a (hm a)
  | genState a k ih => exact fun a => ih a (hm a)
  | newGen a k ih => exact fun a => ih a (hm a)
  | resume a b c k ih => exact hm.elim
  | yield a b c k ih => trivial
  | stack k ih => exact fun a => ih a (hm a)
  | fork a k ih => trivial
  | thread k ih => exact fun a => ih a (hm a)
  | await a b c d k ih => trivial
theorem safe_pure {α : Type} {a : α} : Safe (pure a : Sem α) := trivial
theorem safe_ite {α : Type} {c : Prop} [Decidable c] {a b : Sem α} (ha : Safe a) (hb : Safe b) : Safe (if c then a else b) := by split <;> assumption
theorem safe_fieldsOf (v : Value) : Safe (fieldsOf v) := by
  unfold fieldsOf
  split
  · exact fun o => by
      show Safe (match o.data with | .fields vs => pure vs | _ => unsupported "internal:no-fields")
      split <;> trivial
  · trivial
theorem safe_field (v : Value) (i : Nat) : Safe (field v i) := by
  unfold field
  refine safe_bind (safe_fieldsOf v) fun vs => ?_
  split <;> trivial
theorem okF_set {i : Nat} {x : Value} (hi : i ≠ 2) : OkF (Obj.mapFields (·.setIfInBounds i x)) := fun o vs hd h2 =>
  ⟨_, Obj.data_mapFields hd _, by rw [Array.getElem?_setIfInBounds_ne hi]; exact h2⟩
theorem safe_setField (v : Value) {i : Nat} (x : Value) (hi : i ≠ 2) : Safe (setField v i x) := by
  unfold setField
  split
  · unfold updateField
    exact fun o => by
      show Safe (match o.data with | .fields vs => if i < vs.size then update _ (Obj.mapFields (·.setIfInBounds i x)) else unsupported "internal:no-such-field" | _ => unsupported "internal:write-to-non-record")
      split
      · exact safe_ite ⟨okF_set hi, trivial⟩ trivial
      · trivial
  · trivial
theorem safe_setFlight (v : Value) (f : Option Addr) : Safe (setFlight v f) := by
  unfold setFlight
  refine safe_bind (safe_field v 1) fun tb => ?_
  exact safe_ite (safe_setField _ _ (by decide)) trivial
theorem safe_ready : ∀ l : List Env, Safe (readyFrames l)
  | [] => trivial
  | env :: outer => by
    unfold readyFrames
    split
    · refine fun o => ?_
      refine safe_ite trivial ?_
      refine safe_bind ?_ fun import_ => ?_
      · unfold behindIsImport
        refine safe_ite trivial (safe_ite trivial (safe_bind (safe_field _ _) fun _ => trivial))
      · refine safe_bind ?_ fun back => ?_
        · unfold keptBack
          split
          · refine safe_ite trivial ?_
            unfold underTheClaimsCaller
            exact fun _ => by first | trivial | (show Safe (pure _); trivial)
          · trivial
        · exact ⟨fun o vs hd h2 => ⟨vs, hd, h2⟩, safe_ready outer⟩
    · trivial
theorem safe_frameOf (env : Env) : Safe (PySem.frameOf env) := by
  unfold PySem.frameOf
  refine safe_bind (m := frameEnvs) (fun st => trivial) fun fs => safe_bind ?_ fun f => ?_
  · unfold frameObject
    split
    · trivial
    · exact safe_bind (safe_ready _) fun _ => trivial
  · split <;> trivial
theorem safe_entryPlace (f : Addr) (n : Bool) : Safe (entryPlaceOf f n) := by
  unfold entryPlaceOf
  refine fun st => ?_
  show Safe (match st.find? fun (c, _) => c.env?.bind (·.frame) == some f with | some (_, pos) => pure (if pos.line == 0 then [] else [rawInt pos.line, rawInt pos.endLine, rawInt pos.col, rawInt pos.endCol] ++ EntryCells.cells f n st) | none => pure [])
  split <;> trivial
theorem safe_newAsIs (d : Data) : Safe (newObjAsIs (.type "traceback") d) := fun _ => trivial
theorem safe_newEntry (a b c d e : Value) (p : List Value) : Safe (EntryCells.newEntry a b c d e p) := by
  unfold EntryCells.newEntry newFields newObj
  dsimp only
  refine safe_ite ?_ ?_
  · exact safe_bind (m := unsupported _) trivial fun _ => safe_newAsIs _
  · exact safe_newAsIs _
theorem safe_note (e : Value) (env : Env) : Safe (noteFrame e env) := by
  unfold noteFrame
  split
  · refine safe_bind (safe_field _ _) fun head => ?_
    refine safe_ite ?_ ?_
    · refine safe_bind (safe_field _ _) fun x => safe_ite trivial (safe_bind (safe_setField _ _ (by decide)) fun _ => ?_)
      exact safe_bind (safe_frameOf _) fun _ => safe_bind (safe_entryPlace _ _) fun _ => safe_bind (safe_newEntry _ _ _ _ _ _) fun _ => safe_setField _ _ (by decide)
    · exact safe_bind (safe_frameOf _) fun _ => safe_bind (safe_entryPlace _ _) fun _ => safe_bind (safe_newEntry _ _ _ _ _ _) fun _ => safe_setField _ _ (by decide)
  · trivial
theorem safe_leaving (env : Env) (e : Value) : Safe (leaving env e) := safe_bind (safe_note e env) fun _ => safe_setFlight _ _
end Mine
end
-- Exc
section
open PySem PySem.W PySem.Calls PyProof.Rows
set_option linter.all false
set_option maxRecDepth 100000
namespace Mine
/-- as CanB, for defs that raise and catch -/
structure CanS (w : World) (loose : List Str) (mean : ExcName → Option Value) (mg mb : Str → Option Value) (base : Heap) (env : Env) (outer : List Env) (A : Around) (h : Heap) : Prop where
  ex : ∃ (A₀ : Around) (h₀ : Heap) (L : Addr) (m : Str → Option Value),
    Below A₀ base outer h₀ ∧ Fr h₀ L h m ∧ (hd.heap_1 w.params).In h₀ ∧ Top view loose mean mg mb h₀ ∧ A.frames = some (env :: outer) ∧ env.frame = some L ∧ env.scope.kind = .function ∧ KtsDicts (outer.filterMap (·.frame)) h₀
  XB : (hd.heap_1 w.params).In base
  TB : Top view loose mean mg mb base
section
variable {w : World} {loose : List Str} {mean : ExcName → Option Value} {mg mb : Str → Option Value} {base g : Heap} {env : Env} {outer : List Env} {A A₀ : Around} {h h' : Heap} {s : Shared} {L : Addr} {m : Str → Option Value} {news : List (Addr × Obj)}
theorem CanS.toB (C : CanS w loose mean mg mb base env outer A h) : CanB w loose mean mg mb base env outer A h := by
  obtain ⟨A₀, h₀, L, m, B, F, X, T, a, b, c, d⟩ := C.ex
  exact ⟨A₀, h₀, L, m, B, F, X, T, a, b, c⟩
theorem canS_of (B : Below A₀ base outer g) (F : Fr g L s.heap m) (X : (hd.heap_1 w.params).In g) (T : Top view loose mean mg mb g) (D : KtsDicts (outer.filterMap (·.frame)) g) (XB : (hd.heap_1 w.params).In base) (TB : Top view loose mean mg mb base)
    (hA : A.frames = some (env :: outer) := by rfl) (hf : env.frame = some L := by rfl) (hk : env.scope.kind = .function := by rfl) :
    CanS w loose mean mg mb base env outer A s.heap := ⟨⟨A₀, g, L, m, B, F, X, T, hA, hf, hk, D⟩, XB, TB⟩
end
/-- what a call that raised and caught hands back: the frames below may have been noted -/
noncomputable def OutS (env : Env) (outer : List Env) (s : Shared) (R : Value → Heap → Prop) (v : Value) (s' : Shared) : Prop :=
  ∃ h' tk', s' = { s with heap := h', toks := tk' } ∧ (∀ b o, s.heap.get? b = some o → b ∉ (env :: outer).filterMap (·.frame) → h'.get? b = some o) ∧ s.heap.UpToSlots h' ∧ R v h'
theorem frame_mem {env : Env} {outer : List Env} {L b : Addr} (hf : env.frame = some L) (hm : b ∈ (env :: outer).filterMap (·.frame)) : b = L ∨ b ∈ outer.filterMap (·.frame) := by
  obtain ⟨e, he, hb⟩ := List.mem_filterMap.mp hm
  rcases List.mem_cons.mp he with rfl | he
  · exact .inl (Option.some.inj (hb.symm.trans hf))
  · exact .inr (List.mem_filterMap.mpr ⟨e, he, hb⟩)
section
variable {w : World} {A : Around} {s : Shared} {loose : List Str} {mean : ExcName → Option Value} {mg mb : Str → Option Value} {base : Heap} {env : Env} {outer : List Env}
  {name qual : Str} {params : Arguments} {body : List Stmt} {scope : Scope} {dV kV doc pm cdv ct oc : Value} {an od : Option Addr} {osl : Array (Option Value)} {f : Addr} {args : List Value} {kw : List (Str × Value)} {binds : List (Str × Value)}
  {Q E : Value → Shared → Prop}
theorem enterS (C : CanS w loose mean mg mb base env outer A s.heap) (ho : (hd.heap_1 w.params).lookup f = some ⟨oc, od, .func (fnOf name qual params body scope dV kV doc pm an cdv ct), osl⟩ := by k_is)
    (hcd : codeIn (hd.heap_1 w.params) cdv qual = true := by k_is) (hroom : A.depth < recursionLimit := by assumption)
    (hbind : (hd.heap_1 w.params).In s.heap → BindsTo s (fnOf name qual params body scope dV kV doc pm an cdv ct) ⟨args, kw⟩ binds := by intro XB; first | exact BindsTo.of_eq rfl | exact binds_K XB rfl (by k_is) rfl rfl rfl) (hloc : ∀ y ∈ binds, scope.names.lookup y.1 = some .local := by exact locs rfl)
    (h : ∀ L' h₁, A.frames = some (env :: outer) → Fr s.heap L' h₁ (fun y => binds.reverse.lookup y) → News s.heap L' h₁ [] → Below A base (env :: outer) s.heap → (hd.heap_1 w.params).In s.heap → Top view loose mean mg mb s.heap →
      KtsDicts ((env :: outer).filterMap (·.frame)) s.heap → (hd.heap_1 w.params).In base → Top view loose mean mg mb base →
      wpAny (model pr w) (A.deeper (envOf qual scope L' f cdv)) (execs body (envOf qual scope L' f cdv))
        (fun fl s' => Q (match fl with | .ret v => v | _ => .none) s')
        (fun e s' => wpAny (model pr w) (A.deeper (envOf qual scope L' f cdv)) (leaving (envOf qual scope L' f cdv) e) (fun _ s'' => E e s'') (fun e' s'' => E e' s'') s')
        { s with heap := h₁, toks := s.toks + binds.length })
    (hco : scope.isCoroutine = false := by rfl) (hgen : scope.isGenerator = false := by rfl) (hk : scope.kind = .function := by rfl)
    (hcell : ∀ x ∈ scope.names, x.2 ≠ .cell := by decide) : wpAny (model pr w) A (call (.ref f) args kw) Q E s := by
  refine enter C.toB ho hcd hroom hbind hloc (fun L' h₁ a b c d e f' => h L' h₁ a b c d e f' ?_ C.XB C.TB) hco hgen hk hcell
  obtain ⟨A₀, h₀, L, m, B, F, X, T, hA, hf, hke, D⟩ := C.ex
  intro b hb
  rcases frame_mem hf hb with rfl | hb
  · obtain ⟨oL, es, ep, hL, hd, _⟩ := F.ns
    exact ⟨oL, es, ep, hL, hd⟩
  · obtain ⟨o, es, n, ho, hd⟩ := D b hb
    exact ⟨o, es, n, F.keep b o ho, hd⟩
end
section
variable {s : Shared} {L : Addr} {g' h' : Heap} {m : Str → Option Value} {news : List (Addr × Obj)} {env : Env} {outer : List Env}
theorem outS {R : Value → Heap → Prop} {v : Value} {tk : Nat} (T : KtsTurn ((env :: outer).filterMap (·.frame)) s.heap g') (F : Fr g' L h' m) (hR : R v h') : OutS env outer s R v { s with heap := h', toks := tk } :=
  ⟨h', tk, rfl, fun b o e nm => F.keep b o (T.other b o e nm), fun b o e hd => by
    obtain ⟨sl, hs⟩ := T.up e
    exact ⟨sl, F.keep _ _ hs⟩, hR⟩
theorem outS_of {R : Value → Heap → Prop} {v : Value} {s' : Shared} (h : Out s R v s') : OutS env outer s R v s' := by
  obtain ⟨h', tk', rfl, k, r⟩ := h
  exact ⟨h', tk', rfl, fun b o e _ => k b o e, fun b o e _ => ⟨o.slots, k b o e⟩, r⟩
end
section
variable {w : World} {loose : List Str} {mean : ExcName → Option Value} {mg mb : Str → Option Value} {base g : Heap} {outer : List Env} {A A₀ : Around} {s : Shared} {L a : Addr} {m : Str → Option Value} {news : List (Addr × Obj)} {name : Str} {scope : Scope} {cd : Value}
  {t : Sem Value} {E : Value → Shared → Prop} {Q : Value → Shared → Prop}
/-- a new ground under the caller -/
theorem use_S {R : Value → Heap → Prop} (K : Below A₀ base outer g) (F : Fr g L s.heap m) (N : News g L s.heap news) (XB : (hd.heap_1 w.params).In base) (TB : Top view loose mean mg mb base) (D : KtsDicts (outer.filterMap (·.frame)) g)
    (c : wpAny (model pr w) A t (OutS (envOf name scope L a cd) outer s R) E s)
    (k : ∀ g' v h' tk', KtsTurn (outer.filterMap (·.frame)) g g' → Below A₀ base outer g' → (hd.heap_1 w.params).In g' → Top view loose mean mg mb g' → KtsDicts (outer.filterMap (·.frame)) g' → Fr g' L h' m → News g' L h' news → R v h' → Q v { s with heap := h', toks := tk' }) : wpAny (model pr w) A t Q E s := by
  refine wpAny_mono c (fun v s' o => ?_) fun _ _ e => e
  obtain ⟨h', tk', rfl, hk, hs, r⟩ := o
  have hb : ∀ b o, g.get? b = some o → b ∉ outer.filterMap (·.frame) → b ∉ (envOf name scope L a cd :: outer).filterMap (·.frame) := fun b o e nm hm => by
    rcases kts_mem hm with z | z
    · rw [z, kts_self F] at e; cases e
    · exact nm z
  obtain ⟨g', T, F', K'⟩ := kts_ground (h₅ := h') (B := hideAll s.heap ((envOf name scope L a cd :: outer).filterMap (·.frame))) (name := name) (scope := scope) (a := a) (cd := cd) K F
    (fun b o e nm => hideAll_get _ e nm)
    (fun b o e => by
      by_cases hm : b ∈ (envOf name scope L a cd :: outer).filterMap (·.frame)
      · rw [hideAll_none _ hm] at e; cases e
      · exact hk b o (of_hideAll _ e) hm) hs
  refine k g' v h' tk' T K' (XB.keeps K'.stays) (TB.keeps K'.stays) (D.turn T) F' (fun p hp => ⟨?_, (N p hp).2.1, T.none_ _ (N p hp).2.2⟩) r
  refine hk _ _ (N p hp).1 fun hm => ?_
  rcases kts_mem hm with z | z
  · exact (N p hp).2.1 z
  · obtain ⟨_, o, ho, _⟩ := K.frames.mem z
    rw [(N p hp).2.2] at ho; cases ho
end
end Mine
end
local macro_rules | `(tactic| k_call_by "m_enterS" $C $b) => `(tactic| (refine' Mine.enterS (binds := $b) $C (h := ?hbody); intro _ _ _ F' _ _ _ _ _ _ _; k_call_by "m_simp" F' x))
-- T2
section
open PySem PySem.W PySem.Calls PyProof.Rows
set_option maxRecDepth 100000
namespace Mine
inductive Res where
  | num (x : Int)
  | word (x : Str)
noncomputable def RRes (r : Res) : Value → Heap → Prop := fun v _ => match r with
  | .num x => ∃ t, v = .int x t
  | .word x => ∃ t, v = .str x t
noncomputable def toldF (k n m p : Int) : Res :=
  let sh := p.fmod 54 - 3
  let dv := p.fmod 40 - 20
  if k = 0 then .num (n + m) else if k = 1 then .num (n - m) else if k = 2 then .num (n * m)
  else if k = 3 then .num (Builtin.bitAnd n m) else if k = 4 then .num (Builtin.bitOr n m) else if k = 5 then .num (Builtin.bitXor n m)
  else if k = 6 then .num (Builtin.bitNot n) else if k = 7 then .num (-n)
  else if k = 8 then (if sh < 0 then .word (Str.ofString "shift") else .num (n * 2 ^ sh.toNat))
  else if k = 9 then (if sh < 0 then .word (Str.ofString "shift") else .num (n.fdiv (2 ^ sh.toNat)))
  else if k = 10 then (if dv = 0 then .word (Str.ofString "nought") else .num (n.fdiv dv))
  else if k = 11 then (if dv = 0 then .word (Str.ofString "nought") else .num (n.fmod dv))
  else .num ((p - 4000) ^ 3 * 997)
section
variable {n m p : Int} {t : Tok} {h : Heap}
theorem rnum {r : Res} {x : Int} (e : r = .num x) : RRes r (.int x t) h := by rw [e]; exact ⟨t, rfl⟩
theorem told8w (x : p.fmod 54 - 3 < 0) : RRes (toldF 8 n m p) (.str (Str.ofString "shift") t) h := by
  have e : toldF 8 n m p = .word (Str.ofString "shift") := if_pos x
  rw [e]; exact ⟨t, rfl⟩
theorem told8n (x : 0 ≤ p.fmod 54 - 3) : RRes (toldF 8 n m p) (.int (n * 2 ^ (p.fmod 54 - 3).toNat) t) h := by
  have e : toldF 8 n m p = .num (n * 2 ^ (p.fmod 54 - 3).toNat) := if_neg (Int.not_lt.mpr x)
  rw [e]; exact ⟨t, rfl⟩
theorem told9w (x : p.fmod 54 - 3 < 0) : RRes (toldF 9 n m p) (.str (Str.ofString "shift") t) h := by
  have e : toldF 9 n m p = .word (Str.ofString "shift") := if_pos x
  rw [e]; exact ⟨t, rfl⟩
theorem told9n (x : 0 ≤ p.fmod 54 - 3) : RRes (toldF 9 n m p) (.int (n.fdiv (2 ^ (p.fmod 54 - 3).toNat)) t) h := by
  have e : toldF 9 n m p = .num (n.fdiv (2 ^ (p.fmod 54 - 3).toNat)) := if_neg (Int.not_lt.mpr x)
  rw [e]; exact ⟨t, rfl⟩
theorem told10w (x : p.fmod 40 - 20 = 0) : RRes (toldF 10 n m p) (.str (Str.ofString "nought") t) h := by
  have e : toldF 10 n m p = .word (Str.ofString "nought") := if_pos x
  rw [e]; exact ⟨t, rfl⟩
theorem told10n (x : ¬ p.fmod 40 - 20 = 0) : RRes (toldF 10 n m p) (.int (n.fdiv (p.fmod 40 - 20)) t) h := by
  have e : toldF 10 n m p = .num (n.fdiv (p.fmod 40 - 20)) := if_neg x
  rw [e]; exact ⟨t, rfl⟩
theorem told11w (x : p.fmod 40 - 20 = 0) : RRes (toldF 11 n m p) (.str (Str.ofString "nought") t) h := by
  have e : toldF 11 n m p = .word (Str.ofString "nought") := if_pos x
  rw [e]; exact ⟨t, rfl⟩
theorem told11n (x : ¬ p.fmod 40 - 20 = 0) : RRes (toldF 11 n m p) (.int (n.fmod (p.fmod 40 - 20)) t) h := by
  have e : toldF 11 n m p = .num (n.fmod (p.fmod 40 - 20)) := if_neg x
  rw [e]; exact ⟨t, rfl⟩
end
set_option linter.all false
local macro_rules | `(tactic| k_room) => `(tactic| k_call_by "m_room" x x)
local macro_rules | `(tactic| walk_at "binaryOp FloorDiv int int") => `(tactic| (refine floordiv_int_or rfl (fun _ _ _ _ _ => ?_) (fun _ => ?_) (fun _ => Or.inl (PyProof.noPylong_small (by assumption)))))
set_option maxHeartbeats 8000000 in
theorem told_tells {w : World} {loose mean mg mb base env outer} {A : Around} {s : Shared} (C : CanS w loose mean mg mb base env outer A s.heap) (hr : A.depth + 10 < recursionLimit) (hu : A.units + 100 < cLine) (hh : A.handled = none)
   {k n m p : Int} {t t1 t2 t3 : Tok} (hk : 0 ≤ k) (hk2 : k < 13) (hn : -140737488355328 ≤ n) (hn2 : n < 140737488355328) (hm : -140737488355328 ≤ m) (hm2 : m < 140737488355328) (hp : 0 ≤ p) (hp2 : p < 10000) :
   wpAny (model pr w) A (call (.ref 294) [.int k t, .int n t1, .int m t2, .int p t3] ) (OutS env outer s (RRes (toldF k n m p))) NoE s := by
  obtain ⟨hd0, dp, fr, gd, un⟩ := A
  obtain rfl : hd0 = none := hh
  have hr0 : dp < recursionLimit := by simp only at hr; (first | lia | omega)
  have hnb : n.natAbs < 2 ^ 64 := by (first | lia | omega)
  have hsl : p.fmod 54 - 3 ≤ 1000000 := by have := Int.fmod_lt_of_pos p (b := 54) (by decide); (first | lia | omega)
  have hdv : (p.fmod 40 - 20).natAbs < 1073741824 := by have := Int.fmod_lt_of_pos p (b := 40) (by decide); have := Int.fmod_nonneg_of_pos p (b := 40) (by decide); (first | lia | omega)
  k_call_by "m_enterS" C [(Str.ofString "kind", Value.int k t), (Str.ofString "n", Value.int n t1), (Str.ofString "m", Value.int m t2), (Str.ofString "p", Value.int p t3)]
  obtain rfl : fr = some (env :: outer) := by assumption
  k_fold
  
  k_steps
  all_goals (try (first
    | (refine outS_of ?_; refine ⟨_, _, rfl, Fr.keep (by assumption), ?_⟩)
    | refine outS (by assumption) (by assumption) ?_))
  all_goals (try (simp only [decide_eq_true_eq, decide_eq_false_iff_not, beq_iff_eq, beq_eq_false_iff_ne, ne_eq] at *))
  all_goals (first | (rename k = _ => hkk) | (have hkk : k = 12 := (by (first | lia | omega))))
  all_goals (show RRes (toldF k n m p) _ _)
  all_goals rw [hkk]
  all_goals (first | exact rnum rfl | exact rnum (by rfl) | exact told8n (by (first | lia | omega)) | exact told9n (by (first | lia | omega)) | exact told8w (by (first | lia | omega)) | exact told9w (by (first | lia | omega)) | exact told10n (by assumption) | exact told10w (by assumption) | exact told11n (by assumption) | exact told11w (by assumption))
end Mine
end
-- T1
section
open PySem PySem.W PySem.Calls PyProof.Rows
set_option maxRecDepth 100000
namespace Mine
noncomputable def rowG (c : List Int × Int) (v : Int) : List Int × Int := (c.1 ++ [Int.fmod (v + c.2) 64], Int.fdiv (v + c.2) 64)
noncomputable def rowF (ns : List Int) : List Int := (ns.reverse.foldl rowG ([], 0)).1.reverse
theorem rowG_len (ks : List Int) : ∀ c, (ks.foldl rowG c).1.length = c.1.length + ks.length := by
  induction ks with
  | nil => intro c; rfl
  | cons k r ih => intro c; rw [List.foldl_cons, ih, List.length_cons]; simp only [rowG, List.length_append, List.length_cons, List.length_nil]; (first | lia | omega)
theorem row_us {ks : List Int} {i : Nat} {k : Int} {a : List Int × Int} {us : List Value} (hk : ks[i]? = some k) (ha : a = (ks.take i).foldl rowG ([], 0)) (hu : IntsAre us a.1) (hl : ks.length ≤ 8) : us.length ≤ 8 := by
  rw [hu.length, ha, rowG_len, List.length_take]
  simp only [List.length_nil]
  (first | lia | omega)
set_option maxHeartbeats 8000000 in
theorem row_tells {w : World} {loose mean mg mb base env outer} {A : Around} {s : Shared} (C : CanB w loose mean mg mb base env outer A s.heap) (hr : A.depth < recursionLimit) (hu : A.units + 30 < cLine) (hh : A.handled = none)
   {l : Addr} {vs : List Value} {ns : List Int} (hl : s.heap.IsList l vs.toArray) (hi : IntsAre vs ns) (hlen : ns.length = 8) :
   wpAny (model pr w) A (call (.ref 263) [.ref l]) (Out s (RList s.heap (rowF ns))) NoE s := by
  obtain ⟨hd0, dp, fr, gd, un⟩ := A
  obtain rfl : hd0 = none := hh
  k_call_by "m_enter" C [(Str.ofString "values", Value.ref l)]
  obtain rfl : fr = some (env :: outer) := by assumption
  k_fold
  k_steps
  rename_i lr h1 _ h2 h3 D h4 F1 N1 lt1
  have hMk := kstMark
  refine iter_rev (fun (c : List Int × Int) m nx => ∃ tc us n, Sees m [(Str.ofString "carry", .int c.2 tc), (Str.ofString "row", .ref lr)] ∧ nx = [(lr, listOf (List.toArray us) n)] ∧ IntsAre us c.1 ∧ True) rowG ([], 0) rfl hl hi F1 N1 ?_ ?_ ?_ ?_
  · intro p hp
    rw [List.mem_singleton.mp hp]; exact Nat.ne_of_lt lt1
  · exact ⟨_, [], 0, sees_cons rfl (sees_cons rfl sees_nil), rfl, .nil, trivial⟩
  · rintro i k t ⟨row, c⟩ m₁ nx h5 tk5 own hk hac hoff ⟨tc, us, n, hs, rfl, hus, hul⟩ F5 N5
    have hul : us.length ≤ 8 := row_us hk hac hus (by rw [List.length_reverse]; exact Nat.le_of_eq hlen)
    replace F5 := fr_over hs F5
    simp only [over, List.map_cons, List.map_nil] at F5 hoff
    clear F1 N1
    show wpAny _ _ _ _ _ _
    k_fold
    k_steps
    rename Fr _ _ _ _ => F6
    rename News _ _ _ _ => N6
    simp only [List.push_toArray] at N6
    refine' InvEndN.intro (nx := [_]) F6 N6 ?hj ?ha ?hn ?ho
    case hn => intro p hp; rw [List.mem_singleton.mp hp]; exact .head _
    case ho => intro p hp; exact .tail _ hp
    case ha => rfl
    refine ⟨_, _, _, sees_cons rfl (sees_cons rfl sees_nil), rfl, hus.append (.cons _ _ .nil), ?_⟩
    trivial
  · rintro m₁ nx h5 tk5 ⟨tc, us, n, hs, rfl, hus, hul⟩ F5 N5
    have hul : us.length ≤ 8 := by rw [hus.length, rowG_len, List.length_reverse, hlen]; exact Nat.le_refl _
    replace F5 := fr_overD hs F5
    simp only [over] at F5
    clear F1 N1
    k_steps
    exact out_list (by assumption) (by assumption) (by k_mem) (by assumption)
end Mine
end
-- Loops2
section
open PySem PySem.W PySem.Calls PyProof.Rows PyProof.V PySem.Spec
set_option linter.all false
set_option maxRecDepth 100000
namespace Mine
section
variable {prog : Program} {w : World} {A : Around} {E : Value → Shared → Prop} {s : Shared} {env : Env} {h₀ : Heap} {x : Str} {body : List Stmt} {Q : Flow → Shared → Prop}
/-- for x in l, l a new list that nothing else needs -/
theorem iter_listF {σ : Type} {D : Addr} {vs : List Value} {z : Nat} {ns : List Int} {m₀ : Str → Option Value} {news : List (Addr × Obj)} (R : σ → (Str → Option Value) → List (Addr × Obj) → Prop) (g : σ → Int → σ) (c₀ : σ)
    (hh : A.handled = none) (hi : IntsAre vs ns) (F : Fr h₀ env.locals s.heap m₀) (N : News h₀ env.locals s.heap ((D, PySem.W.listOf (List.toArray vs) z) :: news)) (hne : ∀ p ∈ news, p.1 ≠ D) (hR : R c₀ m₀ news)
    (turn : ∀ i k t a m₁ nx h tk own, ns[i]? = some k → a = (ns.take i).foldl g c₀ → OwnOff own (news.map (·.1)) → R a m₁ nx → Fr h₀ env.locals h (fun y => if y = x then some (.int k t) else m₁ y) → News h₀ env.locals h (nx ++ own) →
      wpAny (model prog w) A (execs body env) (InvPostN h₀ env.locals (R (g a k)) own (news.map (·.1)) { s with heap := h, toks := tk } Q) E { s with heap := h, toks := tk })
    (done : ∀ m₁ nx h tk, R (ns.foldl g c₀) m₁ nx → Fr h₀ env.locals h m₁ → News h₀ env.locals h nx → Q .next { s with heap := h, toks := tk }) :
    wpAny (model prog w) A (pyIter (.ref D)) (fun it s₂ => LoopAtV prog w A h₀ env x body Q E it s₂) E s := by
  have hD := N _ (List.mem_cons_self ..)
  have hl : s.heap.IsList D vs.toArray := ⟨_, hD.1, rfl, _, rfl⟩
  refine wpAny_pyIter_list hl ?_
  have hlt : D < s.heap.objs.size := Heap.lt_size hD.1
  have W := Walks.list (prog := prog) (w := w) hh s.heap.objs.size D (Nat.ne_of_lt hlt) vs.toArray
  have hlen : vs.toArray.size = vs.length := by simp
  rw [hlen] at W
  have hnl : ∀ p ∈ news, p.1 < s.heap.objs.size := fun p hp => Heap.lt_size (N p (List.mem_cons_of_mem _ hp)).1
  refine loop_fold (ks := ns) R g c₀ W ⟨hi.length.symm, ?_⟩ ?_ ?_ ?_ ?_ ⟨⟨_, Heap.get?_push_size _ rfl, rfl, rfl⟩, hl.push _⟩ (F.push _) (fun p hp => ⟨Heap.get?_push_of_some _ (N p (List.mem_cons_of_mem _ hp)).1, (N p (List.mem_cons_of_mem _ hp)).2⟩) hR ?_ done
  · intro i v hltv hv
    have hv' : vs[i]? = some v := by simpa using hv
    obtain ⟨k, t, rfl, hk⟩ := IntsAre.at hi i v hv'
    exact ⟨k, t, hk, rfl⟩
  · intro hm
    rcases List.mem_cons.mp hm with e | hm
    · exact absurd F.ns.lt (e ▸ Nat.lt_irrefl _)
    · exact hD.2.1 (List.mem_singleton.mp hm).symm
  · intro b hb
    rw [List.mem_singleton.mp hb]
    exact next_is_new F
  · intro p hp hI
    exact absurd (hnl p hp) ((List.mem_singleton.mp hI) ▸ Nat.lt_irrefl _)
  · intro q hq hI
    rcases List.mem_cons.mp hI with e | e
    · exact absurd (hnl q hq) (e ▸ Nat.lt_irrefl _)
    · exact hne q hq (List.mem_singleton.mp e)
  · exact turn
end
end Mine
end
-- M1
section
open PySem PySem.W PyProof.Rows
set_option linter.all false
namespace Mine
theorem bitOr_and (x y : Int) : Builtin.bitOr x y = x + y - Builtin.bitAnd x y := by
  have h := bitXor_and x y
  unfold Builtin.bitXor at h
  lia
theorem and_low : ∀ (m : Nat) (a k : Int), 0 ≤ k → k < 2 ^ m → Builtin.bitAnd (a * 2 ^ m) k = 0
  | 0, a, k, h0, h1 => by
    have : k = 0 := by simp at h1; lia
    subst this
    rw [bitAnd_comm]
    have := bitAnd_range (a * 2 ^ 0) (y := 0) (Int.le_refl 0)
    rw [bitAnd_comm] at this
    lia
  | m + 1, a, k, h0, h1 => by
    rw [kbt_halves]
    have e1 : a * 2 ^ (m + 1) / 2 = a * 2 ^ m := by rw [Int.pow_succ, ← Int.mul_assoc]; omega
    have e2 : a * 2 ^ (m + 1) % 2 = 0 := by rw [Int.pow_succ, ← Int.mul_assoc]; lia
    have h2 : k / 2 < 2 ^ m := by rw [Int.pow_succ] at h1; lia
    rw [e1, and_low m a (k / 2) (by lia) h2, e2]
    simp
theorem or_low {m : Nat} {a k : Int} (h0 : 0 ≤ k) (h1 : k < 2 ^ m) : Builtin.bitOr (a * 2 ^ m) k = a * 2 ^ m + k := by rw [bitOr_and, and_low m a k h0 h1]; lia
theorem fdiv_pos {a b : Int} (h : 0 < b) : a.fdiv b = a / b := Int.fdiv_eq_ediv_of_nonneg _ (Int.le_of_lt h)
theorem fmod_pos {a b : Int} (h : 0 < b) : a.fmod b = a % b := Int.fmod_eq_emod_of_nonneg _ (Int.le_of_lt h)
/-- the 16 low bits with one byte more -/
theorem b2a_char {lc k : Int} (h0 : 0 ≤ k) (h1 : k < 256) : Builtin.bitAnd (Builtin.bitOr (lc * 2 ^ Int.toNat 8) k) 65535 = (lc * 256 + k) % 65536 := by
  have e : Builtin.bitOr (lc * 2 ^ 8) k = lc * 2 ^ 8 + k := or_low h0 (by simpa using h1)
  show Builtin.bitAnd (Builtin.bitOr (lc * 2 ^ 8) k) 65535 = _
  rw [e, bitAnd_m16]
  rfl
theorem b2a_idx {lc k x : Int} {n : Nat} (h0 : 0 ≤ k) (h1 : k < 256) (hx : x = (lc * 256 + k) % 65536 / 2 ^ n % 64) : Builtin.bitAnd ((Builtin.bitAnd (Builtin.bitOr (lc * 2 ^ Int.toNat 8) k) 65535).fdiv (2 ^ n)) 63 = x := by
  rw [b2a_char h0 h1, bitAnd_m6, fdiv_pos (Int.pow_pos (by decide)), hx]
noncomputable def B64 : List UInt8 := [65, 66, 67, 68, 69, 70, 71, 72, 73, 74, 75, 76, 77, 78, 79, 80, 81, 82, 83, 84, 85, 86, 87, 88, 89, 90, 97, 98, 99, 100, 101, 102, 103, 104, 105, 106, 107, 108, 109, 110, 111, 112, 113, 114, 115, 116, 117, 118, 119, 120, 121, 122, 48, 49, 50, 51, 52, 53, 54, 55, 56, 57, 43, 47]
noncomputable def b64c (j : Int) : Int := ((B64.getD j.toNat 0).toNat : Int)
/-- one byte more -/
noncomputable def b2aG (c : List Int × Int × Int) (k : Int) : List Int × Int × Int :=
  let lc := (c.2.2 * 256 + k) % 65536
  if c.2.1 = 0 then (c.1 ++ [b64c (lc / 4 % 64)], 2, lc) else if c.2.1 = 2 then (c.1 ++ [b64c (lc / 16 % 64)], 4, lc) else (c.1 ++ [b64c (lc / 64 % 64), b64c (lc / 1 % 64)], 0, lc)
theorem b2aG_len : ∀ (ks : List Int) (c), (ks.foldl b2aG c).1.length ≤ c.1.length + 2 * ks.length := by
  intro ks
  induction ks with
  | nil => intro c; simp
  | cons k r ih =>
    intro c
    rw [List.foldl_cons]
    refine Nat.le_trans (ih _) ?_
    rw [List.length_cons]
    unfold b2aG
    dsimp only
    split
    · simp only [List.length_append, List.length_cons, List.length_nil]; lia
    · split
      · simp only [List.length_append, List.length_cons, List.length_nil]; lia
      · simp only [List.length_append, List.length_cons, List.length_nil]; lia
theorem b2aG_inv : ∀ (ks : List Int) (c), (c.2.1 = 0 ∨ c.2.1 = 2 ∨ c.2.1 = 4) ∧ 0 ≤ c.2.2 ∧ c.2.2 < 65536 → ((ks.foldl b2aG c).2.1 = 0 ∨ (ks.foldl b2aG c).2.1 = 2 ∨ (ks.foldl b2aG c).2.1 = 4) ∧ 0 ≤ (ks.foldl b2aG c).2.2 ∧ (ks.foldl b2aG c).2.2 < 65536 := by
  intro ks
  induction ks with
  | nil => intro c h; exact h
  | cons k r ih =>
    intro c h
    rw [List.foldl_cons]
    refine ih _ ?_
    have h1 : 0 ≤ (c.2.2 * 256 + k) % 65536 := Int.emod_nonneg _ (by decide)
    have h2 : (c.2.2 * 256 + k) % 65536 < 65536 := Int.emod_lt_of_pos _ (by decide)
    unfold b2aG
    dsimp only
    split
    · exact ⟨.inr (.inl rfl), h1, h2⟩
    · split
      · exact ⟨.inr (.inr rfl), h1, h2⟩
      · exact ⟨.inl rfl, h1, h2⟩
theorem len_cons {α : Type} : ∀ {l : List α} {n : Nat}, l.length = n + 1 → ∃ a t, l = a :: t ∧ t.length = n
  | a :: t, _, h => ⟨a, t, rfl, Nat.succ.inj h⟩
theorem six {ks : List Int} (h : ks.length = 6) : ∃ a b c d e f, ks = [a, b, c, d, e, f] := by
  obtain ⟨a, k0, e0, h0⟩ := len_cons h
  obtain ⟨b, k1, e1, h1⟩ := len_cons h0
  obtain ⟨c, k2, e2, h2⟩ := len_cons h1
  obtain ⟨d, k3, e3, h3⟩ := len_cons h2
  obtain ⟨e, k4, e4, h4⟩ := len_cons h3
  obtain ⟨f, k5, e5, h5⟩ := len_cons h4
  have z := List.length_eq_zero_iff.mp h5
  subst z e5 e4 e3 e2 e1 e0
  exact ⟨a, b, c, d, e, f, rfl⟩
theorem b2aG_end {ks : List Int} (h : ks.length = 6) : (ks.foldl b2aG ([], 0, 0)).2.1 = 0 := by
  obtain ⟨a, b, c, d, e, f, rfl⟩ := six h
  simp [b2aG]
theorem b64c_in (j : Int) : 0 ≤ b64c j ∧ b64c j < 256 := by
  unfold b64c
  have := (B64.getD j.toNat 0).toNat_lt
  lia
theorem b2aG_in : ∀ (ks : List Int) (c : List Int × Int × Int), (∀ n ∈ c.1, 0 ≤ n ∧ n < 256) → ∀ n ∈ (ks.foldl b2aG c).1, 0 ≤ n ∧ n < 256 := by
  intro ks
  induction ks with
  | nil => intro c h; exact h
  | cons k r ih =>
    intro c h
    rw [List.foldl_cons]
    refine ih _ ?_
    intro n hn
    unfold b2aG at hn
    dsimp only at hn
    split at hn
    · rcases List.mem_append.mp hn with hn | hn
      · exact h n hn
      · rw [List.mem_singleton.mp hn]; exact b64c_in _
    · split at hn
      · rcases List.mem_append.mp hn with hn | hn
        · exact h n hn
        · rw [List.mem_singleton.mp hn]; exact b64c_in _
      · rcases List.mem_append.mp hn with hn | hn
        · exact h n hn
        · rcases List.mem_cons.mp hn with rfl | hn
          · exact b64c_in _
          · rw [List.mem_singleton.mp hn]; exact b64c_in _
/-- what b2a_base64 makes of six bytes -/
noncomputable def b2aF (ks : List Int) : List Int := (ks.foldl b2aG ([], 0, 0)).1
/-- what translate makes of a sign -/
noncomputable def trI (p q x y c : Int) : Int := if c = q then y else if c = p then x else c
end Mine
end
-- M2
section
open PySem PySem.W PyProof.Rows
set_option linter.all false
namespace Mine
noncomputable def b64v (c : Int) : Int := if 65 ≤ c ∧ c ≤ 90 then c - 65 else if 97 ≤ c ∧ c ≤ 122 then c - 71 else if 48 ≤ c ∧ c ≤ 57 then c + 4 else if c = 43 then 62 else if c = 47 then 63 else 64
theorem b64v_in (c : Int) : 0 ≤ b64v c ∧ b64v c ≤ 64 := by unfold b64v; (repeat' split) <;> lia
/-- one sign more: out, quad_pos, leftchar, i -/
noncomputable def a2bG (c : List Int × Int × Int × Int) (k : Int) : List Int × Int × Int × Int :=
  if 64 ≤ b64v k then (c.1, c.2.1, c.2.2.1, c.2.2.2 + 1)
  else if c.2.1 = 0 then (c.1, 1, b64v k, c.2.2.2 + 1)
  else if c.2.1 = 1 then (c.1 ++ [c.2.2.1 * 4 + b64v k / 16], 2, b64v k % 16, c.2.2.2 + 1)
  else if c.2.1 = 2 then (c.1 ++ [c.2.2.1 * 16 + b64v k / 4], 3, b64v k % 4, c.2.2.2 + 1)
  else (c.1 ++ [c.2.2.1 * 64 + b64v k], 0, 0, c.2.2.2 + 1)
noncomputable def a2bI (c : List Int × Int × Int × Int) : Prop :=
  (∀ n ∈ c.1, 0 ≤ n ∧ n < 256) ∧ 0 ≤ c.2.2.1 ∧ 0 ≤ c.2.2.2 ∧ (c.2.1 = 0 ∧ c.2.2.1 < 64 ∨ c.2.1 = 1 ∧ c.2.2.1 < 64 ∨ c.2.1 = 2 ∧ c.2.2.1 < 16 ∨ c.2.1 = 3 ∧ c.2.2.1 < 4)
theorem a2bG_inv (c) (k : Int) (h : a2bI c) : a2bI (a2bG c k) := by
  obtain ⟨o, q, l, i⟩ := c
  obtain ⟨h1, h2, h3, h4⟩ := h
  have hv := b64v_in k
  simp only at h1 h2 h3 h4
  unfold a2bG a2bI
  simp only
  generalize b64v k = v at *
  have app : ∀ x : Int, 0 ≤ x ∧ x < 256 → ∀ n ∈ o ++ [x], 0 ≤ n ∧ n < 256 := fun x hx n hn => by
    rcases List.mem_append.mp hn with hn | hn
    · exact h1 n hn
    · rw [List.mem_singleton.mp hn]; exact hx
  split
  · exact ⟨h1, h2, by show 0 ≤ i + 1; lia, h4⟩
  · split
    · exact ⟨h1, hv.1, by show 0 ≤ i + 1; lia, .inr (.inl ⟨rfl, by show v < 64; lia⟩)⟩
    · split
      · exact ⟨app _ (by lia), by show 0 ≤ v % 16; lia, by show 0 ≤ i + 1; lia, .inr (.inr (.inl ⟨rfl, by show v % 16 < 16; lia⟩))⟩
      · split
        · exact ⟨app _ (by lia), by show 0 ≤ v % 4; lia, by show 0 ≤ i + 1; lia, .inr (.inr (.inr ⟨rfl, by show v % 4 < 4; lia⟩))⟩
        · exact ⟨app _ (by lia), Int.le_refl 0, by show 0 ≤ i + 1; lia, .inl ⟨rfl, by show (0 : Int) < 64; decide⟩⟩
theorem a2b_fold_inv : ∀ (ks : List Int) (c), a2bI c → a2bI (ks.foldl a2bG c) := by
  intro ks
  induction ks with
  | nil => intro c h; exact h
  | cons k r ih => intro c h; exact ih _ (a2bG_inv c k h)
theorem a2bI_0 : a2bI ([], 0, 0, 0) := ⟨fun _ h => (nomatch h), Int.le_refl 0, Int.le_refl 0, .inl ⟨rfl, by show (0 : Int) < 64; decide⟩⟩
theorem a2b_len : ∀ (ks : List Int) (c), (ks.foldl a2bG c).1.length ≤ c.1.length + ks.length ∧ (ks.foldl a2bG c).2.2.2 ≤ c.2.2.2 + ks.length := by
  intro ks
  induction ks with
  | nil => intro c; simp
  | cons k r ih =>
    intro c
    rw [List.foldl_cons, List.length_cons]
    have := ih (a2bG c k)
    have h2 : (a2bG c k).1.length ≤ c.1.length + 1 ∧ (a2bG c k).2.2.2 = c.2.2.2 + 1 := by
      unfold a2bG
      (repeat' split) <;> simp
    lia
section
variable {r : List Int} {q l i k : Int}
theorem a2bG_s (h : 64 ≤ b64v k) : a2bG (r, q, l, i) k = (r, q, l, i + 1) := by unfold a2bG; rw [if_pos h]
theorem a2bG_a (h : ¬ 64 ≤ b64v k) (hq : q = 0) : a2bG (r, q, l, i) k = (r, 1, b64v k, i + 1) := by unfold a2bG; rw [if_neg h, if_pos hq]
theorem a2bG_b (h : ¬ 64 ≤ b64v k) (h0 : q ≠ 0) (hq : q = 1) : a2bG (r, q, l, i) k = (r ++ [Builtin.bitOr (l * 2 ^ Int.toNat 2) ((b64v k).fdiv (2 ^ Int.toNat 4))], 2, Builtin.bitAnd (b64v k) 15, i + 1) := by
  have hv := b64v_in k
  have e : (b64v k).fdiv (2 ^ Int.toNat 4) = b64v k / 16 := fdiv_pos (by decide)
  have e2 : Builtin.bitOr (l * 2 ^ Int.toNat 2) (b64v k / 16) = l * 4 + b64v k / 16 := or_low (m := 2) (by lia) (by simp; lia)
  unfold a2bG
  rw [if_neg h, if_neg h0, if_pos hq, e, e2, bitAnd_m4]
theorem a2bG_c (h : ¬ 64 ≤ b64v k) (h0 : q ≠ 0) (h1 : q ≠ 1) (hq : q = 2) : a2bG (r, q, l, i) k = (r ++ [Builtin.bitOr (l * 2 ^ Int.toNat 4) ((b64v k).fdiv (2 ^ Int.toNat 2))], 3, Builtin.bitAnd (b64v k) 3, i + 1) := by
  have hv := b64v_in k
  have e : (b64v k).fdiv (2 ^ Int.toNat 2) = b64v k / 4 := fdiv_pos (by decide)
  have e2 : Builtin.bitOr (l * 2 ^ Int.toNat 4) (b64v k / 4) = l * 16 + b64v k / 4 := or_low (m := 4) (by lia) (by simp; lia)
  unfold a2bG
  rw [if_neg h, if_neg h0, if_neg h1, if_pos hq, e, e2, bitAnd_m2]
theorem a2bG_d (h : ¬ 64 ≤ b64v k) (h0 : q ≠ 0) (h1 : q ≠ 1) (h2 : q ≠ 2) : a2bG (r, q, l, i) k = (r ++ [Builtin.bitOr (l * 2 ^ Int.toNat 6) (b64v k)], 0, 0, i + 1) := by
  have hv := b64v_in k
  have e2 : Builtin.bitOr (l * 2 ^ Int.toNat 6) (b64v k) = l * 64 + b64v k := or_low (m := 6) (by lia) (by simp; lia)
  unfold a2bG
  rw [if_neg h, if_neg h0, if_neg h1, if_neg h2, e2]
end
end Mine
end
-- C1
section
open PySem PySem.W PySem.Calls PyProof.Rows
set_option linter.all false
set_option maxRecDepth 100000
namespace Mine
local macro_rules | `(tactic| walk_at "call type:type") => `(tactic| with_reducible refine Mine.type_bytes ?_)
set_option maxHeartbeats 8000000
section
variable {w : World} {loose : List Str} {mean : ExcName → Option Value} {mg mb : Str → Option Value} {base : Heap} {env : Env} {outer : List Env} {A : Around} {s : Shared}
theorem b64value_tells (C : CanB w loose mean mg mb base env outer A s.heap) (hr : A.depth + 10 < recursionLimit) {c : Int} {t : Tok} :
   wpAny (model pr w) A (call (.ref 224) [.int c t]) (Out s (RInt (b64v c))) NoE s := by
  obtain ⟨hd0, dp, fr, gd, un⟩ := A
  have hr0 : dp < recursionLimit := by simp only at hr; (first | lia | omega)
  k_call_by "m_enter" C [(Str.ofString "c", Value.int c t)]
  obtain rfl : fr = some (env :: outer) := by assumption
  k_fold
  k_steps
  all_goals (refine out_intE (by assumption) ?_; (try simp only [decide_eq_true_eq, decide_eq_false_iff_not, beq_iff_eq, beq_eq_false_iff_ne, ne_eq, Bool.and_eq_true, Bool.not_eq_true, Bool.not_eq_false] at *); unfold b64v; (repeat' split) <;> (first | lia | omega))
theorem bfd_tells (C : CanB w loose mean mg mb base env outer A s.heap) (hr : A.depth + 10 < recursionLimit) {b : Array UInt8} {t : Tok} :
   wpAny (model pr w) A (call (.ref 183) [.bytes b t]) (Out s (RVal (.bytes b t))) NoE s := by
  obtain ⟨hd0, dp, fr, gd, un⟩ := A
  have hr0 : dp < recursionLimit := by simp only at hr; (first | lia | omega)
  k_call_by "m_enter" C [(Str.ofString "s", Value.bytes b t)]
  obtain rfl : fr = some (env :: outer) := by assumption
  k_fold
  k_steps
  all_goals exact out_val (by assumption)
theorem asciibuf_tells (C : CanB w loose mean mg mb base env outer A s.heap) (hr : A.depth + 10 < recursionLimit) {b : Array UInt8} {t : Tok} :
   wpAny (model pr w) A (call (.ref 203) [.bytes b t]) (Out s (RVal (.bytes b t))) NoE s := by
  obtain ⟨hd0, dp, fr, gd, un⟩ := A
  have hr0 : dp < recursionLimit := by simp only at hr; (first | lia | omega)
  k_call_by "m_enter" C [(Str.ofString "data", Value.bytes b t)]
  obtain rfl : fr = some (env :: outer) := by assumption
  k_fold
  k_steps
  all_goals exact out_val (by assumption)
theorem buffer_tells (C : CanB w loose mean mg mb base env outer A s.heap) (hr : A.depth + 10 < recursionLimit) {b : Array UInt8} {t : Tok} :
   wpAny (model pr w) A (call (.ref 210) [.bytes b t]) (Out s (RVal (.bytes b t))) NoE s := by
  obtain ⟨hd0, dp, fr, gd, un⟩ := A
  have hr0 : dp < recursionLimit := by simp only at hr; (first | lia | omega)
  k_call_by "m_enter" C [(Str.ofString "data", Value.bytes b t)]
  obtain rfl : fr = some (env :: outer) := by assumption
  k_fold
  k_steps
  all_goals exact out_val (by assumption)
theorem truth_tells (C : CanB w loose mean mg mb base env outer A s.heap) (hr : A.depth + 10 < recursionLimit) {b : Bool} :
   wpAny (model pr w) A (call (.ref 217) [.bool b]) (Out s (RBool b)) NoE s := by
  obtain ⟨hd0, dp, fr, gd, un⟩ := A
  have hr0 : dp < recursionLimit := by simp only at hr; (first | lia | omega)
  k_call_by "m_enter" C [(Str.ofString "x", Value.bool b)]
  obtain rfl : fr = some (env :: outer) := by assumption
  k_fold
  k_steps
  all_goals (refine out_boolE (by assumption) ?_; simp_all)
end
end Mine
end
-- C2
section
open PySem PySem.W PySem.Calls PyProof.Rows
set_option linter.all false
set_option maxRecDepth 100000
namespace Mine
local macro_rules | `(tactic| walk_at "call ref") => `(tactic| (with_reducible refine Mine.at_ref 210 ?_); k_call_by "m_use" use_val buffer_tells)
local macro_rules | `(tactic| walk_at "call ref") => `(tactic| (with_reducible refine Mine.at_ref 217 ?_); k_call_by "m_use" use_bool truth_tells)
local macro_rules | `(tactic| walk_at "subscriptTail Name") => `(tactic| with_reducible refine Mine.stop_b64 ?_)
local macro_rules | `(tactic| walk_at "pyIter bytes") => `(tactic| refine Mine.stop ?_)
section
variable {prog : Program} {w : World} {A : Around} {E : Value → Shared → Prop} {s : Shared} {Q : Value → Shared → Prop} {value slice : PySem.Expr} {t : Tok}
theorem item_b64 {i j : Int} {ui : Tok} (e : j = i) (h0 : 0 ≤ j) (h1 : j < 64) (h : Q (.int (b64c j) s.toks) { s with toks := s.toks + 1 })
    (hs : subscripted slice false (.bytes B64.toArray t) (.int i ui) = operate [.bytes B64.toArray t, .int i ui] (getItem (.bytes B64.toArray t) (.int i ui)) := by with_unfolding_all rfl)
    (ht : ∀ r, letTemporaryGo value (.bytes B64.toArray t) r = pure () := by intro _; with_unfolding_all rfl) :
    wpAny (model prog w) A (subscriptTail value slice (.bytes B64.toArray t) (.int i ui)) Q E s := by
  subst e
  exact KBy.item_N (by decide) h0 h1 h hs ht
end
set_option maxHeartbeats 8000000
section
variable {w : World} {loose : List Str} {mean : ExcName → Option Value} {mg mb : Str → Option Value} {base : Heap} {env : Env} {outer : List Env} {A : Around} {s : Shared}
theorem b2a_tells (C : CanB w loose mean mg mb base env outer A s.heap) (hr : A.depth + 20 < recursionLimit) (hh : A.handled = none) {b : Array UInt8} {t : Tok} {ks : List Int} (hk : KBw.bInts b = ks) (hlen : ks.length = 6) :
   wpAny (model pr w) A (call (.ref 240) [.bytes b t] [(Str.ofString "newline", Value.bool false)]) (Out s (RBytes (b2aF ks))) NoE s := by
  obtain ⟨hd0, dp, fr, gd, un⟩ := A
  obtain rfl : hd0 = none := hh
  have hr0 : dp < recursionLimit := by simp only at hr; (first | lia | omega)
  k_call_by "m_enter" C [(Str.ofString "data", Value.bytes b t), (Str.ofString "newline", Value.bool false)]
  obtain rfl : fr = some (env :: outer) := by assumption
  k_fold
  k_steps
  rename_i lr _ _ _ _ _ F1 N1
  have hMk := kstMark
  refine Stop.go (iter_bytesF (fun (c : List Int × Int × Int) m nx => ∃ tb tc us n, Sees m [(Str.ofString "leftbits", .int c.2.1 tb), (Str.ofString "leftchar", .int c.2.2 tc), (Str.ofString "out", .ref lr), (Str.ofString "newline", .bool false)] ∧ nx = [(lr, listOf (List.toArray us) n)] ∧ IntsAre us c.1) b2aG ([], 0, 0) hk (.inl rfl) F1 N1 ?_ ?_ ?_)
  · exact ⟨_, _, [], 0, sees_cons rfl (sees_cons rfl (sees_cons rfl (sees_cons rfl sees_nil))), rfl, .nil⟩
  · rintro i k t ⟨row, lb, lc⟩ m₁ nx h5 tk5 own hk hac hk0 hk1 hoff ⟨tb, tc, us, n, hs, rfl, hus⟩ F5 N5
    have hinv := b2aG_inv (ks.take i) ([], 0, 0) ⟨.inl rfl, by decide, by decide⟩
    have hul := b2aG_len (ks.take i) ([], 0, 0)
    rw [← hac] at hinv hul
    rw [← hus.length] at hul
    have hul : us.length ≤ 12 := Nat.le_trans hul (by rw [List.length_take]; show 0 + 2 * min i ks.length ≤ 12; (first | lia | omega))
    obtain ⟨hlb, hlc0, hlc1⟩ := hinv
    simp only at hlb hlc0 hlc1
    replace F5 := fr_over hs F5
    simp only [over, List.map_cons, List.map_nil] at F5 hoff
    clear F1 N1 hs hac
    have hz : 0 ≤ (lc * 256 + k) % 65536 := Int.emod_nonneg _ (by decide)
    rcases hlb with rfl | rfl | rfl
    · show wpAny _ _ _ _ _ _
      k_fold
      k_steps
      refine Stop.go (item_b64 (j := (lc * 256 + k) % 65536 / 4 % 64) (b2a_idx (n := 2) hk0 hk1 rfl).symm (by (first | lia | omega)) (by (first | lia | omega)) ?_)
      k_steps
      rename Fr _ _ _ _ => F6
      rename News _ _ _ _ => N6
      simp only [List.push_toArray] at N6
      exact inv_end1 F6 N6 ⟨_, _, _, _, sees_cons rfl (sees_cons (congrArg (fun x => some (Value.int x _)) (b2a_char hk0 hk1)) (sees_cons rfl (sees_cons rfl sees_nil))), rfl, hus.append (.cons _ _ .nil)⟩
    · show wpAny _ _ _ _ _ _
      k_fold
      k_steps
      refine Stop.go (item_b64 (j := (lc * 256 + k) % 65536 / 16 % 64) (b2a_idx (n := 4) hk0 hk1 rfl).symm (by (first | lia | omega)) (by (first | lia | omega)) ?_)
      k_steps
      rename Fr _ _ _ _ => F6
      rename News _ _ _ _ => N6
      simp only [List.push_toArray] at N6
      exact inv_end1 F6 N6 ⟨_, _, _, _, sees_cons rfl (sees_cons (congrArg (fun x => some (Value.int x _)) (b2a_char hk0 hk1)) (sees_cons rfl (sees_cons rfl sees_nil))), rfl, hus.append (.cons _ _ .nil)⟩
    · show wpAny _ _ _ _ _ _
      k_fold
      k_steps
      refine Stop.go (item_b64 (j := (lc * 256 + k) % 65536 / 64 % 64) (b2a_idx (n := 6) hk0 hk1 rfl).symm (by (first | lia | omega)) (by (first | lia | omega)) ?_)
      k_steps
      refine Stop.go (item_b64 (j := (lc * 256 + k) % 65536 / 1 % 64) (b2a_idx (n := 0) hk0 hk1 rfl).symm (by (first | lia | omega)) (by (first | lia | omega)) ?_)
      k_steps
      rename Fr _ _ _ _ => F6
      rename News _ _ _ _ => N6
      simp only [List.push_toArray, List.append_assoc, List.cons_append, List.nil_append] at N6
      exact inv_end1 F6 N6 ⟨_, _, _, _, sees_cons rfl (sees_cons (congrArg (fun x => some (Value.int x _)) (b2a_char hk0 hk1)) (sees_cons rfl (sees_cons rfl sees_nil))), rfl, hus.append (.cons _ _ (.cons _ _ .nil))⟩
  · rintro m₁ nx h5 tk5 ⟨tb, tc, us, n, hs, rfl, hus⟩ F5 N5
    have hul := b2aG_len ks ([], 0, 0)
    rw [← hus.length] at hul
    have hul : us.length ≤ 12 := Nat.le_trans hul (by show 0 + 2 * ks.length ≤ 12; (first | lia | omega))
    rw [b2aG_end hlen] at hs
    replace F5 := fr_overD hs F5
    simp only [over] at F5
    clear F1 N1 hs
    have hIn : KBa.In (b2aF ks) := b2aG_in ks ([], 0, 0) (fun _ h => nomatch h)
    replace hus : IntsAre us (b2aF ks) := hus
    k_steps
    exact out_bytes (by assumption) (KBa.ints_make (by assumption))
end
end Mine
end
-- T5
section
open PySem PySem.W PySem.Calls PyProof.Rows
set_option linter.all false
set_option maxRecDepth 100000
namespace Mine
noncomputable def signF (ns : List Int) : List Int := [(ns.getD (Int.toNat 0) 0 + 32).fmod 64 - 32] ++ ns.drop 1
theorem signF_len {ns : List Int} (h : ns.length = 8) : (signF ns).length = 8 := by simp [signF, h]
noncomputable def partG (d : Int) (c : List Int × Int) (v : Int) : List Int × Int := (c.1 ++ [(c.2 * 64 + v).fdiv d], (c.2 * 64 + v).fmod d)
theorem partG_len (d : Int) (ks : List Int) : ∀ c, (ks.foldl (partG d) c).1.length = c.1.length + ks.length := by
  induction ks with
  | nil => intro c; rfl
  | cons k r ih => intro c; rw [List.foldl_cons, ih, List.length_cons]; simp only [partG, List.length_append, List.length_cons, List.length_nil]; (first | lia | omega)
theorem part_us {d : Int} {ks : List Int} {i : Nat} {a : List Int × Int} {us : List Value} (ha : a = (ks.take i).foldl (partG d) ([], 0)) (hu : IntsAre us a.1) (hl : ks.length = 8) : us.length ≤ 8 := by
  rw [hu.length, ha, partG_len, List.length_take]
  simp only [List.length_nil]
  (first | lia | omega)
/-- quotient digits and rest -/
noncomputable def partF (d : Int) (ns : List Int) : List Int × Int := (signF ns).foldl (partG d) ([], 0)
noncomputable abbrev tupOf2 (a b : Value) : Obj := { cls := Value.type "tuple", data := Data.seq #[a, b] }
noncomputable def RPair (g : Heap) (as bs : List Int) : Value → Heap → Prop := fun v h => ∃ T la lb va na vb nb, v = .ref T ∧ h.get? T = some (tupOf2 (.ref la) (.ref lb)) ∧ h.get? la = some (listOf (List.toArray va) na) ∧ h.get? lb = some (listOf (List.toArray vb) nb) ∧ IntsAre va as ∧ IntsAre vb bs ∧ g.get? T = none ∧ g.get? la = none ∧ g.get? lb = none
theorem out_pair {s : Shared} {L : Addr} {h' : Heap} {m : Str → Option Value} {news : List (Addr × Obj)} {T la lb : Addr} {va vb : List Value} {na nb : Nat} {as bs : List Int} {tk : Nat} (F : Fr s.heap L h' m) (N : News s.heap L h' news) (hT : (T, tupOf2 (.ref la) (.ref lb)) ∈ news) (ha : (la, listOf va.toArray na) ∈ news) (hb : (lb, listOf vb.toArray nb) ∈ news) (ia : IntsAre va as) (ib : IntsAre vb bs) :
    Out s (RPair s.heap as bs) (.ref T) { s with heap := h', toks := tk } :=
  ⟨h', tk, rfl, F.keep, T, la, lb, va, na, vb, nb, rfl, (N _ hT).1, (N _ ha).1, (N _ hb).1, ia, ib, (N _ hT).2.2, (N _ ha).2.2, (N _ hb).2.2⟩
section
variable {w : World} {g : Heap} {A : Around} {s : Shared} {L : Addr} {m : Str → Option Value} {news : List (Addr × Obj)} {t : Sem Value} {E : Value → Shared → Prop} {Q : Value → Shared → Prop}
theorem news_new {h' : Heap} {l : Addr} {o : Obj} (F : Fr g L s.heap m) (hl : h'.get? l = some o) (hf : s.heap.get? l = none) : h'.get? l = some o ∧ l ≠ L ∧ g.get? l = none := by
  refine ⟨hl, fun e => ?_, ?_⟩
  · obtain ⟨oL, es, ep, hL, r⟩ := F.ns
    have e' : l = L := e
    rw [e', hL] at hf; cases hf
  · cases q : g.get? l with
    | none => rfl
    | some o => have := F.keep l o q; rw [hf] at this; cases this
theorem use_pair {as bs : List Int} (F : Fr g L s.heap m) (N : News g L s.heap news) (c : wpAny (model pr w) A t (Out s (RPair s.heap as bs)) NoE s)
    (k : ∀ T la lb va na vb nb h' tk', IntsAre va as → IntsAre vb bs → Fr g L h' m → News g L h' ((T, tupOf2 (.ref la) (.ref lb)) :: (la, listOf (List.toArray va) na) :: (lb, listOf (List.toArray vb) nb) :: news) → Q (.ref T) { s with heap := h', toks := tk' }) : wpAny (model pr w) A t Q E s := by
  refine wpAny_mono c (fun v s' o => ?_) fun _ _ e => e.elim
  obtain ⟨h', tk', rfl, hk, T, la, lb, va, na, vb, nb, rfl, hT, ha, hb, ia, ib, fT, fa, fb⟩ := o
  refine k T la lb va na vb nb h' tk' ia ib (Fr.keepK F hk) fun p hp => ?_
  rcases List.mem_cons.mp hp with rfl | hp
  · exact news_new F hT fT
  rcases List.mem_cons.mp hp with rfl | hp
  · exact news_new F ha fa
  rcases List.mem_cons.mp hp with rfl | hp
  · exact news_new F hb fb
  · exact News.keepK N hk p hp
end
theorem fdiv_log {prog : Program} {w : World} {A : Around} {E : Value → Shared → Prop} {s : Shared} {a b : Int} {t u : Tok} {Q : Value → Shared → Prop} (hb : b ≠ 0 := by assumption) (h : Q (.int (a.fdiv b) s.toks) { s with toks := s.toks + 1 }) (hp : b.natAbs.log2 < 9000 := by assumption) : wpAny (model prog w) A (binaryOp .FloorDiv (.int a t) (.int b u)) Q E s :=
  floordiv_int hb h (Or.inl (PyProof.noPylong_of_log2 hp))
local macro_rules | `(tactic| walk_at "call ref") => `(tactic| with_reducible refine Mine.stop_ref 270 ?_)
local macro_rules | `(tactic| walk_at "call ref") => `(tactic| with_reducible refine Mine.stop_ref 263 ?_)
local macro_rules | `(tactic| walk_at "binaryOp FloorDiv int int") => `(tactic| refine Mine.fdiv_log (h := ?_))
set_option maxHeartbeats 8000000
section
variable {w : World} {loose : List Str} {mean : ExcName → Option Value} {mg mb : Str → Option Value} {base : Heap} {env : Env} {outer : List Env} {A : Around} {s : Shared}
theorem signed_tells (C : CanB w loose mean mg mb base env outer A s.heap) (hr : A.depth + 10 < recursionLimit) (hh : A.handled = none)
   {l : Addr} {vs : List Value} {ns : List Int} (hl : s.heap.IsList l vs.toArray) (hi : IntsAre vs ns) (hlen : ns.length = 8) :
   wpAny (model pr w) A (call (.ref 270) [.ref l]) (Out s (RList s.heap (signF ns))) NoE s := by
  obtain ⟨hd0, dp, fr, gd, un⟩ := A
  obtain rfl : hd0 = none := hh
  have hr0 : dp < recursionLimit := by simp only at hr; (first | lia | omega)
  k_call_by "m_enter" C [(Str.ofString "row", Value.ref l)]
  obtain rfl : fr = some (env :: outer) := by assumption
  k_fold
  k_steps
  exact out_list (by assumption) (by assumption) (by k_mem) (by assumption)
theorem parts_tells (C : CanB w loose mean mg mb base env outer A s.heap) (hr : A.depth + 20 < recursionLimit) (hu : A.units + 100 < cLine) (hh : A.handled = none)
   {l : Addr} {vs : List Value} {ns : List Int} (hl : s.heap.IsList l vs.toArray) (hi : IntsAre vs ns) (hlen : ns.length = 8) {d : Int} {t : Tok} (hd : d ≠ 0) (hdb : d.natAbs.log2 < 9000) :
   wpAny (model pr w) A (call (.ref 277) [.ref l, .int d t]) (Out s (RPair s.heap (rowF (partF d ns).1) (rowF ([0, 0, 0, 0, 0, 0, 0] ++ [(partF d ns).2])))) NoE s := by
  obtain ⟨hd0, dp, fr, gd, un⟩ := A
  obtain rfl : hd0 = none := hh
  have hr0 : dp < recursionLimit := by simp only at hr; (first | lia | omega)
  k_call_by "m_enter" C [(Str.ofString "row", Value.ref l), (Str.ofString "divisor", Value.int d t)]
  obtain rfl : fr = some (env :: outer) := by assumption
  k_fold
  k_steps
  rename_i lr _ _ _ _ F1 N1
  refine Stop.go (use_list F1 N1 (signed_tells (by exact Mine.can_of) (by k_call_by "m_room" x x) rfl (hl.at fun o e => F1.keep l o e) hi hlen) ?_)
  intro lf us1 z1 h2 tk2 hu1 F2 N2 hne2
  clear F1 N1
  have hMk := kstMark
  refine iter_listF (fun (c : List Int × Int) m nx => ∃ tc us n, Sees m [(Str.ofString "parts", .ref lr), (Str.ofString "rest", .int c.2 tc), (Str.ofString "divisor", .int d t)] ∧ nx = [(lr, listOf (List.toArray us) n)] ∧ IntsAre us c.1) (partG d) ([], 0) rfl hu1 F2 N2 ?_ ?_ ?_ ?_
  · intro p hp
    rw [List.mem_singleton.mp hp]; exact hne2.1
  · exact ⟨_, [], 0, sees_cons rfl (sees_cons rfl (sees_cons rfl sees_nil)), rfl, .nil⟩
  · rintro i k t1 ⟨row, c⟩ m₁ nx h5 tk5 own hk hac hoff ⟨tc, us, n, hs, rfl, hus⟩ F5 N5
    have hul : us.length ≤ 8 := part_us hac hus (signF_len hlen)
    replace F5 := fr_over hs F5
    simp only [over, List.map_cons, List.map_nil] at F5 hoff
    clear F2 N2
    show wpAny _ _ _ _ _ _
    k_fold
    k_steps
    rename Fr _ _ _ _ => F6
    rename News _ _ _ _ => N6
    simp only [List.push_toArray] at N6
    exact inv_end1 F6 N6 ⟨_, _, _, sees_cons rfl (sees_cons rfl (sees_cons rfl sees_nil)), rfl, hus.append (.cons _ _ .nil)⟩
  · rintro m₁ nx h5 tk5 ⟨tc, us, n, hs, rfl, hus⟩ F5 N5
    have hul : us.length = 8 := by rw [hus.length, partG_len, signF_len hlen]; rfl
    replace F5 := fr_overD hs F5
    simp only [over] at F5
    clear F2 N2
    k_steps
    rename Fr _ _ _ _ => F6
    rename News _ _ _ _ => N6
    refine Stop.go (use_list F6 N6 (row_tells (by exact Mine.can_of) (by k_call_by "m_room" x x) (by k_call_by "m_room" x x) rfl (News.isList N6 (by k_mem)) hus (by rw [partG_len, signF_len hlen]; rfl)) ?_)
    intro lq us3 z3 h7 tk7 hu3 F7 N7 hne7
    clear F6 N6
    k_steps
    rename Fr _ _ _ _ => F8
    rename News _ _ _ _ => N8
    rename IntsAre (List.flatten _) _ => hz
    have hz2 := hz.append (.cons (List.foldl (partG d) ([], 0) (signF ns)).2 tc .nil)
    refine Stop.go (use_list F8 N8 (row_tells (by exact Mine.can_of) (by k_call_by "m_room" x x) (by k_call_by "m_room" x x) rfl (News.isList N8 (by k_mem)) hz2 rfl) ?_)
    intro lm us4 z4 h9 tk9 hu4 F9 N9 hne9
    clear F8 N8
    k_steps
    exact out_pair (by assumption) (by assumption) (by k_mem) (by k_mem) (by k_mem) hu3 hu4
end
end Mine
end
-- Cells
section
open PySem PySem.W PySem.Calls PyProof.Rows
set_option linter.all false
set_option maxRecDepth 100000
namespace Mine
section
variable {w : World} {A : Around} {s : Shared} {loose : List Str} {mean : ExcName → Option Value} {mg mb : Str → Option Value} {base : Heap} {env : Env} {outer : List Env}
  {name qual : Str} {params : Arguments} {body : List Stmt} {scope : Scope} {dV kV doc pm cdv ct oc : Value} {an od : Option Addr} {osl : Array (Option Value)} {f : Addr} {args : List Value} {kw : List (Str × Value)} {binds : List (Str × Value)}
  {Q E : Value → Shared → Prop}
/-- enter a def of the text whose scope has cells -/
theorem enterC (C : CanB w loose mean mg mb base env outer A s.heap) (ho : (hd.heap_1 w.params).lookup f = some ⟨oc, od, .func (fnOf name qual params body scope dV kV doc pm an cdv ct), osl⟩ := by k_is)
    (hcd : codeIn (hd.heap_1 w.params) cdv qual = true := by k_is) (hroom : A.depth < recursionLimit := by assumption)
    (hbind : (hd.heap_1 w.params).In s.heap → BindsTo s (fnOf name qual params body scope dV kV doc pm an cdv ct) ⟨args, kw⟩ binds := by intro XB; first | exact BindsTo.of_eq rfl | exact binds_K XB rfl (by k_is) rfl rfl rfl)
    (hkind : (binds.all fun y => scope.names.lookup y.1 == some .local || scope.names.lookup y.1 == some .cell) = true := by exact rfl) (hnd : ((cellsFrom 0 scope.names []).map (·.1)).Nodup := by decide +kernel)
    (h : ∀ L' h₁ tk cells, A.frames = some (env :: outer) → Fr s.heap L' h₁ (bindL (envOfC qual scope L' f cdv).kindOf binds fun _ => none) → News s.heap L' h₁ cells →
      CellsAre (bindC (envOfC qual scope L' f cdv).kindOf binds fun _ => none) (cellsFrom (L' + 1) scope.names []) cells → Below A base (env :: outer) s.heap → (hd.heap_1 w.params).In s.heap → Top view loose mean mg mb s.heap →
      wpAny (model pr w) (A.deeper (envOfC qual scope L' f cdv)) (execs body (envOfC qual scope L' f cdv))
        (fun fl s' => Q (match fl with | .ret v => v | _ => .none) s')
        (fun e s' => wpAny (model pr w) (A.deeper (envOfC qual scope L' f cdv)) (leaving (envOfC qual scope L' f cdv) e) (fun _ s'' => E e s'') (fun e' s'' => E e' s'') s')
        { s with heap := h₁, toks := tk })
    (hco : scope.isCoroutine = false := by rfl) (hgen : scope.isGenerator = false := by rfl) (hk : scope.kind = .function := by rfl) : wpAny (model pr w) A (call (.ref f) args kw) Q E s := by
  obtain ⟨A₀, h₀, L, m, B, F, X, T, hA, hf, hke⟩ := C.ex
  have Xs := X.keeps F.keep
  have B₁ := pushX B F hf hke
  refine wpAny_call (codeAny_call_function hroom (Xs _ _ ho) rfl hco hgen rfl (codeRec_of Xs hcd) (hbind Xs _ _ _ _ ?_))
  refine wpAny_newFunctionEnv_cells hk (kindsX hkind _) fun env' he s' x => ?_
  subst he
  refine ⟨(T.nolimit.keeps F.keep).keeps x.toInCall.keep, codeAny_func ?_⟩
  obtain ⟨h₁, tk, rfl, _⟩ := x.done
  obtain ⟨cells, NC, Y⟩ := Cl.news (h₀ := s.heap) (Nat.le_refl _) fun n c hm => ⟨x.cell n c (lookup_of_mem_nodup (cellsFrom_names scope.names 0 (s.heap.objs.size + 1) [] [] rfl ▸ hnd) hm), x.above n c hm⟩
  exact h s.heap.objs.size h₁ tk cells hA ⟨x.toInCall.ns, x.toInCall.keep, Nat.le_refl _⟩ NC Y ⟨hA, B₁.stays, B₁.frames⟩ Xs (T.keeps F.keep)
theorem enterCS (C : CanS w loose mean mg mb base env outer A s.heap) (ho : (hd.heap_1 w.params).lookup f = some ⟨oc, od, .func (fnOf name qual params body scope dV kV doc pm an cdv ct), osl⟩ := by k_is)
    (hcd : codeIn (hd.heap_1 w.params) cdv qual = true := by k_is) (hroom : A.depth < recursionLimit := by assumption)
    (hbind : (hd.heap_1 w.params).In s.heap → BindsTo s (fnOf name qual params body scope dV kV doc pm an cdv ct) ⟨args, kw⟩ binds := by intro XB; first | exact BindsTo.of_eq rfl | exact binds_K XB rfl (by k_is) rfl rfl rfl)
    (hkind : (binds.all fun y => scope.names.lookup y.1 == some .local || scope.names.lookup y.1 == some .cell) = true := by exact rfl) (hnd : ((cellsFrom 0 scope.names []).map (·.1)).Nodup := by decide +kernel)
    (h : ∀ L' h₁ tk cells, A.frames = some (env :: outer) → Fr s.heap L' h₁ (bindL (envOfC qual scope L' f cdv).kindOf binds fun _ => none) → News s.heap L' h₁ cells →
      CellsAre (bindC (envOfC qual scope L' f cdv).kindOf binds fun _ => none) (cellsFrom (L' + 1) scope.names []) cells → Below A base (env :: outer) s.heap → (hd.heap_1 w.params).In s.heap → Top view loose mean mg mb s.heap →
      KtsDicts ((env :: outer).filterMap (·.frame)) s.heap → (hd.heap_1 w.params).In base → Top view loose mean mg mb base →
      wpAny (model pr w) (A.deeper (envOfC qual scope L' f cdv)) (execs body (envOfC qual scope L' f cdv))
        (fun fl s' => Q (match fl with | .ret v => v | _ => .none) s')
        (fun e s' => wpAny (model pr w) (A.deeper (envOfC qual scope L' f cdv)) (leaving (envOfC qual scope L' f cdv) e) (fun _ s'' => E e s'') (fun e' s'' => E e' s'') s')
        { s with heap := h₁, toks := tk })
    (hco : scope.isCoroutine = false := by rfl) (hgen : scope.isGenerator = false := by rfl) (hk : scope.kind = .function := by rfl) : wpAny (model pr w) A (call (.ref f) args kw) Q E s := by
  refine enterC C.toB ho hcd hroom hbind hkind hnd (fun L' h₁ tk cells a b c y d e f' => h L' h₁ tk cells a b c y d e f' ?_ C.XB C.TB) hco hgen hk
  obtain ⟨A₀, h₀, L, m, B, F, X, T, hA, hf, hke, D⟩ := C.ex
  intro b hb
  rcases frame_mem hf hb with rfl | hb
  · obtain ⟨oL, es, ep, hL, hd, _⟩ := F.ns
    exact ⟨oL, es, ep, hL, hd⟩
  · obtain ⟨o, es, n, ho, hd⟩ := D b hb
    exact ⟨o, es, n, F.keep b o ho, hd⟩
end
end Mine
end
local macro_rules | `(tactic| k_call_by "m_cell" $C:ident $b) => `(tactic| (k_cells $C; (try simp only [List.cons_append, List.nil_append] at $b:term)))
local macro_rules | `(tactic| k_call_by "m_enterC" $C $b) => `(tactic| (refine' Mine.enterC (binds := $b) $C (h := ?hbody); intro _ _ _ _ _ _ N' Y' _ _ _; k_call_by "m_cell" Y' N'))
local macro_rules | `(tactic| k_call_by "m_enterCS" $C $b) => `(tactic| (refine' Mine.enterCS (binds := $b) $C (h := ?hbody); intro _ _ _ _ _ _ N' Y' _ _ _ _ _ _; k_call_by "m_cell" Y' N'))
-- Loops3
section
open PySem PySem.W PySem.Calls PyProof.Rows PyProof.V PySem.Spec
set_option linter.all false
set_option maxRecDepth 100000
namespace Mine
section
variable {prog : Program} {w : World} {A : Around} {E : Value → Shared → Prop} {s : Shared} {env : Env} {h₀ : Heap} {body : List Stmt} {Q : Flow → Shared → Prop}
/-- for a, b in zip(l1, l2), two lists of ints that stood before -/
theorem iter_zipF {σ : Type} {elts : List Expr} {k : Nat} {pos : Pos} {l1 l2 : Addr} {xs ys : List Value} {ns ms : List Int} {m₀ : Str → Option Value} {news : List (Addr × Obj)} (R : σ → (Str → Option Value) → List (Addr × Obj) → Prop) (g : σ → Int → Int → σ) (c₀ : σ)
    (hh : A.handled = none) (hl1 : h₀.IsList l1 xs.toArray) (hi1 : IntsAre xs ns) (hl2 : h₀.IsList l2 ys.toArray) (hi2 : IntsAre ys ms) (hlen : ns.length = ms.length) (F : Fr h₀ env.locals s.heap m₀) (N : News h₀ env.locals s.heap news) (hR : R c₀ m₀ news)
    (turn : ∀ i a b ta tb acc m₁ nx h tk own T, ns[i]? = some a → ms[i]? = some b → acc = ((ns.zip ms).take i).foldl (fun c p => g c p.1 p.2) c₀ → OwnOff own (news.map (·.1)) → R acc m₁ nx → h.IsTuple T #[.int a ta, .int b tb] → Fr h₀ env.locals h m₁ → News h₀ env.locals h (nx ++ own) →
      wpAny (model prog w) A (assign (.Tuple elts k pos) env (.ref T)) (fun _ s₃ => wpAny (model prog w) A (execs body env) (InvPostN h₀ env.locals (R (g acc a b)) own (news.map (·.1)) { s with heap := h, toks := tk } Q) E s₃) E { s with heap := h, toks := tk })
    (done : ∀ m₁ nx h tk, R ((ns.zip ms).foldl (fun c p => g c p.1 p.2) c₀) m₁ nx → Fr h₀ env.locals h m₁ → News h₀ env.locals h nx → Q .next { s with heap := h, toks := tk }) :
    wpAny (model prog w) A (call (.type "zip") [.ref l1, .ref l2]) (fun xv s₁ => wpAny (model prog w) A (pyIter xv) (fun it s₂ => TurnsAt prog w A h₀ env (.Tuple elts k pos) body Q E it s₂) E s₁) E s := by
  have hs1 : s.heap.IsList l1 xs.toArray := hl1.at fun o e => F.keep l1 o e
  have hs2 : s.heap.IsList l2 ys.toArray := hl2.at fun o e => F.keep l2 o e
  obtain ⟨o1, ho1, _⟩ := id hl1
  obtain ⟨o2, ho2, _⟩ := id hl2
  have hlt1 : l1 < s.heap.objs.size := Heap.lt_size (F.keep l1 o1 ho1)
  have hlt2 : l2 < s.heap.objs.size := Heap.lt_size (F.keep l2 o2 ho2)
  have hLs : env.locals < s.heap.objs.size := F.ns.lt
  have D : ZipApart (s.heap.objs.size + 4) (s.heap.objs.size + 2) (s.heap.objs.size + 3) s.heap.objs.size (s.heap.objs.size + 1) l1 l2 := ktu_apart _ _ _ hlt1 hlt2
  refine call_zip_2 hs1 hs2 fun h' hz hTI hTO hi1' hi2' hsz hk => ?_
  refine wpAny_pyIter_zip hz ?_
  have W := KTurns.ofWalksU (elts := elts) (k := k) (pos := pos) (WalksT.zip2 (prog := prog) (w := w) hh _ _ _ _ _ _ _ D xs.toArray ys.toArray).toU
  have hn : min xs.toArray.size ys.toArray.size = (ns.zip ms).length := by simp [hi1.length, hi2.length]
  rw [hn] at W
  have hoffn : ∀ p ∈ news, p.1 < s.heap.objs.size ∧ p.1 ≠ l1 ∧ p.1 ≠ l2 := fun p hp => by
    refine ⟨Heap.lt_size (N p hp).1, fun e => ?_, fun e => ?_⟩
    · have := (N p hp).2.2; rw [e, ho1] at this; cases this
    · have := (N p hp).2.2; rw [e, ho2] at this; cases this
  have hnfp : ∀ p ∈ news, p.1 ∉ [s.heap.objs.size + 4, s.heap.objs.size + 2, s.heap.objs.size + 3, s.heap.objs.size, s.heap.objs.size + 1, l1, l2] := fun p hp hI => by
    obtain ⟨h1, h2, h3⟩ := hoffn p hp
    have hb' : p.1 = s.heap.objs.size + 4 ∨ p.1 = s.heap.objs.size + 2 ∨ p.1 = s.heap.objs.size + 3 ∨ p.1 = s.heap.objs.size ∨ p.1 = s.heap.objs.size + 1 ∨ p.1 = l1 ∨ p.1 = l2 := by simpa using hI
    rcases hb' with e | e | e | e | e | e | e
    · exact ktu_ne 4 h1 e
    · exact ktu_ne 2 h1 e
    · exact ktu_ne 3 h1 e
    · exact Nat.ne_of_lt h1 e
    · exact ktu_ne 1 h1 e
    · exact h2 e
    · exact h3 e
  have hsub := W.sub
  let J : Nat → (Str → Option Value) → List (Addr × Obj) → Prop := fun i m₁ nx => nx.map (·.1) = news.map (·.1) ∧ R (((ns.zip ms).take i).foldl (fun c p => g c p.1 p.2) c₀) m₁ nx
  refine ⟨_, _, _, _, _, _, _, m₀, news, J, rfl, W, ?_, ?_, ?_, ⟨hz, hTI, ⟨_, _, hTO⟩, hi1', hi2', hs1.at fun o e => hk l1 o e, hs2.at fun o e => hk l2 o e⟩, F.keeps hk, N.grown hk, ⟨rfl, hR⟩, ?_, ?_⟩
  · intro hI'
    have hb' : env.locals = s.heap.objs.size + 4 ∨ env.locals = s.heap.objs.size + 2 ∨ env.locals = s.heap.objs.size + 3 ∨ env.locals = s.heap.objs.size ∨ env.locals = s.heap.objs.size + 1 ∨ env.locals = l1 ∨ env.locals = l2 := by simpa using hI'
    rcases hb' with e | e | e | e | e | e | e
    · exact ktu_ne 4 hLs e
    · exact ktu_ne 2 hLs e
    · exact ktu_ne 3 hLs e
    · exact Nat.ne_of_lt hLs e
    · exact ktu_ne 1 hLs e
    · exact absurd (Nat.lt_of_lt_of_le (Heap.lt_size ho1) F.above) (e ▸ Nat.lt_irrefl _)
    · exact absurd (Nat.lt_of_lt_of_le (Heap.lt_size ho2) F.above) (e ▸ Nat.lt_irrefl _)
  · intro b hb
    have hb' : b = s.heap.objs.size + 4 ∨ b = s.heap.objs.size + 3 ∨ b = s.heap.objs.size ∨ b = s.heap.objs.size + 1 := by simpa using hb
    rcases hb' with rfl | rfl | rfl | rfl
    · exact ktu_new F (Nat.le_add_right _ _)
    · exact ktu_new F (Nat.le_add_right _ _)
    · exact ktu_new F (Nat.le_refl _)
    · exact ktu_new F (Nat.le_add_right _ _)
  · exact fun p hp hI => hnfp p hp (hsub _ hI)
  · rintro i v m₁ nx h₁ tk₁ own hin ⟨T, vals, rfl, ⟨x, y, hx, hy, rfl⟩, hT⟩ ⟨hadr, hJ⟩ hoff hown _ _ _ F₁ N₁
    obtain ⟨a, ta, rfl, ha⟩ := IntsAre.at hi1 i x (by simpa using hx)
    obtain ⟨b, tb, rfl, hb⟩ := IntsAre.at hi2 i y (by simpa using hy)
    have hsep : OwnOff own (news.map (·.1)) := by
      intro p hp b hb e
      obtain ⟨q, hq, rfl⟩ := List.mem_map.mp hb
      exact hnfp q hq (e ▸ hown p hp)
    have N₂ : News h₀ env.locals h₁ (nx ++ own) := fun p hp => N₁ p ((List.mem_append.mp hp).elim (fun h => List.mem_append.mpr (.inr h)) fun h => List.mem_append.mpr (.inl h))
    have hs : ((ns.zip ms).take (i + 1)).foldl (fun c p => g c p.1 p.2) c₀ = g (((ns.zip ms).take i).foldl (fun c p => g c p.1 p.2) c₀) a b := by
      have hz : (ns.zip ms)[i]? = some (a, b) := by rw [List.getElem?_zip_eq_some]; exact ⟨ha, hb⟩
      rw [List.take_add_one, hz]; simp
    refine wpAny_mono (turn i a b ta tb _ m₁ nx h₁ tk₁ own T ha hb rfl hsep hJ hT F₁ N₂) (fun _ s₃ h₃ => wpAny_mono h₃ (fun f s₂ p => ?_) fun _ _ e => e) fun _ _ e => e
    have fin : InvEndN h₀ env.locals (R (g (((ns.zip ms).take i).foldl (fun c p => g c p.1 p.2) c₀) a b)) own (news.map (·.1)) { s with heap := h₁, toks := tk₁ } s₂ → LoopStepU h₀ env.locals [s.heap.objs.size + 4, s.heap.objs.size + 3, s.heap.objs.size, s.heap.objs.size + 1] own (J (i + 1)) { s with heap := h₁, toks := tk₁ } .next s₂ := by
      rintro ⟨h', tk, m', news', nx', e, F', N', hn', ho', ha', hm'⟩
      refine ⟨rfl, h', tk, m', nx', e, F', fun p hp => N' p ((List.mem_append.mp hp).elim (ho' p) (hn' p)), fun p hp hq => ?_, ha', ?_⟩
      · have h1 : p.1 ∈ nx'.map (·.1) := List.mem_map.mpr ⟨p, hp, rfl⟩
        rw [ha'] at h1
        obtain ⟨q, hq1, hq2⟩ := List.mem_map.mp h1
        exact hnfp q hq1 (by rw [hq2]; exact hsub _ hq)
      · show R (((ns.zip ms).take (i + 1)).foldl _ c₀) m' nx'
        rw [hs]; exact hm'
    cases f with
    | ret v => exact .ret p
    | brk => exact .brk p
    | next => exact .next (fin p)
    | cont => exact .cont (fin p)
  · rintro h' tk m' news' F' N' _ ⟨_, hJ⟩
    rw [List.take_length] at hJ
    exact done m' news' h' tk hJ F' N'
end
end Mine
end
-- Comp
section
open PySem PySem.W PySem.Calls PyProof.Rows PyProof.V PySem.Spec
set_option linter.all false
set_option maxRecDepth 100000
namespace Mine
section
variable {prog : Program} {w : World} {A : Around} {E : Value → Shared → Prop} {s : Shared} {h₀ : Heap} {L : Addr} {m : Str → Option Value} {env : Env}
/-- what is left of [elt for x in range(N) if ..] once the range stands -/
noncomputable def RangeRest (prog : Program) (w : World) (A : Around) (E : Value → Shared → Prop) (h₀ : Heap) (L : Addr) (m : Str → Option Value) (env : Env) (elt : Expr) (x : Str) (ifs : List Expr) (scope : Scope) (cl : List (Str × Addr)) (a₀ N : Int) (n : Nat) (pz : Int → Bool) (f : Int → Int) (Q : Value → Shared → Prop) (xv : Value) (s₁ : Shared) : Prop :=
  ∃ news : List (Addr × Obj), ∃ r t₀ u₀ v₀, xv = .ref r ∧ IsRange s₁.heap r a₀ N 1 t₀ u₀ v₀ ∧ Fr h₀ L s₁.heap m ∧ News h₀ L s₁.heap news ∧
    (∀ C a t s₂ m₂ E', s₁.heap.objs.size ≤ C → a₀ ≤ a → a < a₀ + n → s₂.heap.Ns C m₂ → m₂ x = some (.int a t) → (∀ b o, s₁.heap.get? b = some o → s₂.heap.get? b = some o) →
      wpAny (model prog w) A (forIn ifs true fun c r => if r = true then do let ok ← isTrue c (compEnvC scope cl C env) (eval c (compEnvC scope cl C env)); pure (ForInStep.yield ok) else pure (ForInStep.yield r))
        (fun ok s₃ => ok = pz a ∧ Keeps s₂ s₃) E' s₂) ∧
    (∀ C a t s₂ m₂ E', s₁.heap.objs.size ≤ C → a₀ ≤ a → a < a₀ + n → pz a = true → s₂.heap.Ns C m₂ → m₂ x = some (.int a t) → (∀ b o, s₁.heap.get? b = some o → s₂.heap.get? b = some o) →
      wpAny (model prog w) A (eval elt (compEnvC scope cl C env)) (fun y s₃ => (∃ u, y = .int (f a) u) ∧ Keeps s₂ s₃) E' s₂) ∧
    (∀ D (ys : List Value) z h' tk, Fr h₀ L h' m → News h₀ L h' ((D, PySem.W.listOf (List.toArray ys) z) :: news) → AllNe D news → IntsAre ys (((rangeInts a₀ 1 n).filter pz).map f) → Q (.ref D) { s₁ with heap := h', toks := tk })
theorem comp_rangeF {elt iter : Expr} {x : Str} {px : Pos} {ifs : List Expr} {scope : Scope} {cl : List (Str × Addr)} {pos : Pos} {Q : Value → Shared → Prop} (F₀ : Fr h₀ L s.heap m) (pz : Int → Bool) (f : Int → Int) (a₀ N : Int) (n : Nat) (hsm : Builtin.Range.small a₀ N 1 = true) (hn : Builtin.Range.rangeSize a₀ N 1 = (n : Int)) (hz : n ≤ sizeLine)
    (hh : A.handled = none) (hclos : closureFor scope env = pure cl) (hcell : ∀ y ∈ scope.names, y.2 ≠ .cell) (hkind : scope.kind = .function)
    (hnames : ∀ y ∈ scope.names, y.2 = .local → scope.names.lookup y.1 = some .local) (hx : scope.names.lookup x = some .local)
    (h : wpAny (model prog w) A (eval iter env) (fun xv s₁ => RangeRest prog w A E h₀ L m env elt x ifs scope cl a₀ N n pz f Q xv s₁) E s)
    (hs : ∀ x, foldedSetIterable iter env x = pure x := by intro _; rfl) :
    wpAny (model prog w) A (eval (.ListComp elt [⟨.Name x px, iter, ifs, 0⟩] scope pos) env) Q E s := by
  refine ListComp_DCr (h₀ := h₀) (L := L) (m := m) (pz := pz) (d := fun a => PyData.int (f a)) hh hclos hcell hkind hnames hx (wpAny_mono h (fun xv s₁ h₁ => ?_) fun _ _ e => e) hs
  obtain ⟨news, r, t₀, u₀, v₀, e1, e2, e6, e7, ht, he, hq⟩ := h₁
  refine ⟨news, r, a₀, N, 1, t₀, u₀, v₀, n, e1, e2, hsm, hn, hz, e6, e7, ?_, ?_, ?_⟩
  · rintro C a v s₂ m₂ E' h1 h2 ⟨t, rfl⟩ h4 h5 h6
    have := mem_rangeInts h2
    exact ht C a t s₂ m₂ E' h1 this.1 this.2 h4 h5 h6
  · rintro C a v s₂ m₂ E' h1 h2 ⟨t, rfl⟩ h3 h4 h5 h6
    have := mem_rangeInts h2
    refine wpAny_mono (he C a t s₂ m₂ E' h1 this.1 this.2 h3 h4 h5 h6) (fun y s₃ hy => ?_) fun _ _ e => e
    obtain ⟨⟨u, rfl⟩, hk⟩ := hy
    exact ⟨.int _ _, hk⟩
  · intro D ys h' tk F N' hD hl hp hc
    obtain ⟨⟨z, hz'⟩, hne⟩ := hp
    refine hq D ys z h' tk F (fun p hp => ?_) (allNe_of hne) hc.intsOf
    rcases List.mem_cons.mp hp with rfl | hp
    · refine ⟨hz', fun e => ?_, hD⟩
      obtain ⟨oL, es, ep, hL, hd, _⟩ := F.ns
      have e' : D = L := e
      rw [e', hL] at hz'
      have hoL := Option.some.inj hz'
      rw [hoL] at hd
      cases hd
    · exact N' p hp
/-- what is left of [elt for x in l], l a list of ints that stood before -/
noncomputable def ListRest (prog : Program) (w : World) (A : Around) (E : Value → Shared → Prop) (h₀ : Heap) (L : Addr) (m : Str → Option Value) (env : Env) (elt : Expr) (x : Str) (scope : Scope) (cl : List (Str × Addr)) (ns : List Int) (f : Int → Int) (Q : Value → Shared → Prop) (xv : Value) (s₁ : Shared) : Prop :=
  ∃ news : List (Addr × Obj), ∃ ax vs, xv = .ref ax ∧ s₁.heap.IsList ax (List.toArray vs) ∧ IntsAre vs ns ∧ Fr h₀ L s₁.heap m ∧ News h₀ L s₁.heap news ∧
    (∀ C a t s₂ m₂ E', s₁.heap.objs.size ≤ C → a ∈ ns → s₂.heap.Ns C m₂ → m₂ x = some (.int a t) → (∀ b o, s₁.heap.get? b = some o → s₂.heap.get? b = some o) →
      wpAny (model prog w) A (eval elt (compEnvC scope cl C env)) (fun y s₃ => (∃ u, y = .int (f a) u) ∧ Keeps s₂ s₃) E' s₂) ∧
    (∀ D (ys : List Value) z h' tk, Fr h₀ L h' m → News h₀ L h' ((D, PySem.W.listOf (List.toArray ys) z) :: news) → AllNe D news → IntsAre ys (ns.map f) → Q (.ref D) { s₁ with heap := h', toks := tk })
theorem are_int : ∀ {vs : List Value} {ns : List Int}, IntsAre vs ns → AreOf .int vs ns
  | _, _, .nil => .nil
  | _, _, .cons n t r => .cons ⟨t, rfl⟩ (are_int r)
theorem comp_listF {elt iter : Expr} {x : Str} {px : Pos} {scope : Scope} {cl : List (Str × Addr)} {pos : Pos} {Q : Value → Shared → Prop} (F₀ : Fr h₀ L s.heap m) (ns : List Int) (f : Int → Int) (hz : ns.length ≤ sizeLine)
    (hh : A.handled = none) (hclos : closureFor scope env = pure cl) (hcell : ∀ y ∈ scope.names, y.2 ≠ .cell) (hkind : scope.kind = .function)
    (hnames : ∀ y ∈ scope.names, y.2 = .local → scope.names.lookup y.1 = some .local) (hx : scope.names.lookup x = some .local)
    (h : wpAny (model prog w) A (eval iter env) (fun xv s₁ => ListRest prog w A E h₀ L m env elt x scope cl ns f Q xv s₁) E s)
    (hs : ∀ x, foldedSetIterable iter env x = pure x := by intro _; rfl) :
    wpAny (model prog w) A (eval (.ListComp elt [⟨.Name x px, iter, [], 0⟩] scope pos) env) Q E s := by
  refine ListComp_DCn (K := .int) (h₀ := h₀) (L := L) (m := m) (pz := fun _ => true) (d := fun a => PyData.int (f a)) hh hclos hcell hkind hnames hx (wpAny_mono h (fun xv s₁ h₁ => ?_) fun _ _ e => e) hs
  obtain ⟨news, ax, vs, e1, e2, e3, e6, e7, he, hq⟩ := h₁
  refine ⟨news, ax, vs, ns, e1, e2, are_int e3, hz, e6, e7, ?_, ?_, ?_⟩
  · rintro C a v s₂ m₂ E' h1 h2 ⟨t, rfl⟩ h4 h5 h6
    exact wpAny_pure ⟨rfl, _, _, rfl, fun _ _ e => e⟩
  · rintro C a v s₂ m₂ E' h1 h2 ⟨t, rfl⟩ h3 h4 h5 h6
    refine wpAny_mono (he C a t s₂ m₂ E' h1 h2 h4 h5 h6) (fun y s₃ hy => ?_) fun _ _ e => e
    obtain ⟨⟨u, rfl⟩, hk⟩ := hy
    exact ⟨.int _ _, hk⟩
  · intro D ys h' tk F N' hD hl hp hc
    obtain ⟨⟨z, hz'⟩, hne⟩ := hp
    rw [show (ns.filter fun _ => true) = ns from List.filter_eq_self.mpr fun _ _ => rfl] at hc
    refine hq D ys z h' tk F (fun p hp => ?_) (allNe_of hne) hc.intsOf
    rcases List.mem_cons.mp hp with rfl | hp
    · refine ⟨hz', fun e => ?_, hD⟩
      obtain ⟨oL, es, ep, hL, hd, _⟩ := F.ns
      have e' : D = L := e
      rw [e', hL] at hz'
      have hoL := Option.some.inj hz'
      rw [hoL] at hd
      cases hd
    · exact N' p hp
end
end Mine
end
-- T6
section
open PySem PySem.W PySem.Calls PyProof.Rows
set_option linter.all false
set_option maxRecDepth 100000
namespace Mine
noncomputable def bitsP (ks : List Int) (a b k : Int) : Bool := ks.any (· == (a.fdiv (2 ^ k.toNat)).fmod 2 + (b.fdiv (2 ^ k.toNat)).fmod 2)
noncomputable def bitsV (ks : List Int) (a b : Int) : Int := (((rangeInts 0 1 6).filter (bitsP ks a b)).map fun k => 2 ^ k.toNat).sum
theorem pow_small {a k : Int} (h0 : 0 ≤ k) (h1 : k < 0 + ((6 : Nat) : Int)) : Builtin.divisionGoesByPylong a (2 ^ k.toNat) = false := by
  refine PyProof.noPylong_small ?_
  rw [Int.natAbs_pow]
  have : 2 ^ k.toNat ≤ 2 ^ 6 := Nat.pow_le_pow_right (by decide) (by (first | lia | omega))
  exact Nat.lt_of_le_of_lt this (by decide)
theorem fdiv_pow {prog : Program} {w : World} {A : Around} {E : Value → Shared → Prop} {s : Shared} {a k : Int} {t u : Tok} {Q : Value → Shared → Prop} (hb : (2 : Int) ^ k.toNat ≠ 0 := by assumption) (h : Q (.int (a.fdiv (2 ^ k.toNat)) s.toks) { s with toks := s.toks + 1 }) (h0 : 0 ≤ k := by assumption) (h1 : k < 0 + ((6 : Nat) : Int) := by assumption) : wpAny (model prog w) A (binaryOp .FloorDiv (.int a t) (.int (2 ^ k.toNat) u)) Q E s :=
  floordiv_int hb h (Or.inl (pow_small h0 h1))
theorem in_ints {prog : Program} {w : World} {A : Around} {E : Value → Shared → Prop} {s : Shared} {l : Addr} {items : Array Value} {ns : List Int} {x : Int} {u : Tok} {Q : Value → Shared → Prop} (ht : IsTup s.heap l items := by first | assumption | exact Fr.tup (by assumption) (by assumption)) (hi : IntsAre items.toList ns := by assumption) (h : Q (.bool (ns.any (· == x))) s) : wpAny (model prog w) A (compareOp .In (.int x u) (.ref l)) Q E s :=
  in_tuple_ints ht hi h
theorem foldl_map2 {f : Int → Int → Int} : ∀ (l : List (Int × Int)) (c : List Int), l.foldl (fun c p => c ++ [f p.1 p.2]) c = c ++ l.map fun p => f p.1 p.2
  | [], c => by simp
  | p :: r, c => by rw [List.foldl_cons, foldl_map2 r, List.map_cons]; simp
noncomputable def bitsF (ks ns ms : List Int) : List Int := (ns.zip ms).map fun p => bitsV ks p.1 p.2
theorem inv_end4 {h₀ : Heap} {L l1 l2 l3 l4 : Addr} {J : (Str → Option Value) → List (Addr × Obj) → Prop} {m' : Str → Option Value} {own : List (Addr × Obj)} {s₁ : Shared} {h' : Heap} {tk : Nat} {d : Addr × Obj} {o1 o2 o3 o4 : Obj} (F : Fr h₀ L h' m') (N : News h₀ L h' (d :: (l1, o1) :: (l2, o2) :: (l3, o3) :: (l4, o4) :: own)) (hj : J m' [(l1, o1), (l2, o2), (l3, o3), (l4, o4)]) :
    InvEndN h₀ L J own [l1, l2, l3, l4] s₁ { s₁ with heap := h', toks := tk } :=
  InvEndN.intro F N hj rfl (fun p hp => by
    simp only [List.mem_cons, List.not_mem_nil, or_false] at hp ⊢
    rcases hp with h | h | h | h <;> simp [h]) (fun p hp => by simp only [List.mem_cons]; simp [hp])
local macro_rules | `(tactic| k_room) => `(tactic| k_call_by "m_room" x x)
local macro_rules | `(tactic| walk_at "exec For") => `(tactic| refine Mine.stop ?_)
local macro_rules | `(tactic| walk_at "InvEndN") => `(tactic| refine Mine.stop ?_)
local macro_rules | `(tactic| walk_at "binaryOp FloorDiv int int") => `(tactic| refine Mine.fdiv_pow (h := ?_))
local macro_rules | `(tactic| walk_at "compareOp In int ref") => `(tactic| refine Mine.in_ints (h := ?_))
local macro_rules | `(tactic| walk_at "call type:zip") => `(tactic| refine Mine.stop ?_)
local macro_rules | `(tactic| walk_at "eval ListComp") => `(tactic| refine Mine.stop ?_)
set_option maxHeartbeats 8000000 in
theorem bits_tells {w : World} {loose mean mg mb base env outer} {A : Around} {s : Shared} (C : CanB w loose mean mg mb base env outer A s.heap) (hr : A.depth + 20 < recursionLimit) (hh : A.handled = none)
   {l : Addr} {vs : List Value} {ns : List Int} (hl : s.heap.IsList l vs.toArray) (hi : IntsAre vs ns) (hlen : ns.length = 8){l2 : Addr} {vs2 : List Value} {ns2 : List Int} (hl2 : s.heap.IsList l2 vs2.toArray) (hi2 : IntsAre vs2 ns2) (hlen2 : ns2.length = 8) {kt : Addr} {vs3 : List Value} {ns3 : List Int} (hkt : IsTup s.heap kt vs3.toArray) (hi3 : IntsAre vs3 ns3) :
   wpAny (model pr w) A (call (.ref 282) [.ref l, .ref l2, .ref kt] ) (Out s (RList s.heap (bitsF ns3 ns ns2))) NoE s := by
  obtain ⟨hd0, dp, fr, gd, un⟩ := A
  obtain rfl : hd0 = none := hh
  have hr0 : dp < recursionLimit := by simp only at hr; (first | lia | omega)
  k_call_by "m_enterC" C [(Str.ofString "one", Value.ref l), (Str.ofString "other", Value.ref l2), (Str.ofString "kept", Value.ref kt)]
  obtain rfl : fr = some (env :: outer) := by assumption
  show wpAny _ _ _ _ _ _
  k_fold
  k_steps
  rename Fr _ _ _ _ => F1
  refine Stop.go (For_turns F1 ?_)
  k_steps
  rename_i LL _ _ _ _ ob oa ok db da dk _ _ lr _ lt1 _ N1
  have dk' : ok.data = .cell (some (.ref kt)) := dk
  have da' : oa.data = .cell none := da
  have db' : ob.data = .cell none := db
  clear dk da db
  have hMk := kstMark
  refine Stop.go (iter_zipF (fun (c : List Int) m nx => ∃ us n oa ob va vb, Sees m [(Str.ofString "row", .ref lr)] ∧ nx = [(lr, listOf (List.toArray us) n), (LL + 1 + 1 + 1, ob), (LL + 1 + 1, oa), (LL + 1, ok)] ∧ IntsAre us c ∧ oa.data = .cell va ∧ ob.data = .cell vb) (fun c a b => c ++ [bitsV ns3 a b]) [] rfl hl hi hl2 hi2 (by rw [hlen, hlen2]) F1 N1 ?_ ?_ ?_)
  · exact ⟨[], 0, oa, ob, _, _, sees_cons rfl sees_nil, rfl, .nil, da', db'⟩
  · rintro i a b ta tb acc m₁ nx h5 tk5 own T hia hib hac hoff ⟨us, n, oa, ob, va, vb, hs, rfl, hus, da, db⟩ hT F5 N5
    have hul : us.length ≤ 8 := by
      rw [hus.length, hac, foldl_map2, List.nil_append, List.length_map, List.length_take, List.length_zip, hlen, hlen2]; (first | lia | omega)
    replace F5 := fr_overD hs F5
    simp only [over, List.map_cons, List.map_nil] at F5 hoff
    clear F1 N1
    have hT' : IsTup h5 T #[.int a ta, .int b tb] := hT
    show wpAny _ _ _ _ _ _
    k_fold
    k_steps
    rename Fr _ _ _ _ => F6
    rename News _ _ _ _ => N6
    refine Stop.go (comp_rangeF F6 (bitsP ns3 a b) (fun k => 2 ^ k.toNat) 0 6 6 (by decide) (by decide) (by decide) rfl rfl (by decide) rfl (by decide) rfl ?_)
    k_steps
    rename Fr _ _ _ _ => F7
    rename News _ _ _ _ => N7
    refine ⟨_, _, _, _, _, rfl, by assumption, F7, N7, ?_, ?_, ?_⟩
    · intro C k tk s₂ m₂ E' hC hk0 hk1 hns hmk hkeep
      have hp1 : (2 : Int) ^ k.toNat ≠ 0 := Int.ne_of_gt (Int.pow_pos (by decide))
      k_steps
      exact ⟨_, _, rfl, fun _ _ e => e⟩
    · intro C k tk s₂ m₂ E' hC hk0 hk1 _ hns hmk hkeep
      k_steps
      exact ⟨_, _, rfl, fun _ _ e => e⟩
    · intro D ys z h8 tk8 F8 N8 hne8 hys
      clear F7 N7
      simp only [List.append_eq, List.cons_append, List.nil_append] at N8 hne8
      have hd1 : @Ne Nat lr D := hne8.1
      k_steps
      rename Fr _ _ _ _ => F9
      rename News _ _ _ _ => N9
      simp only [List.push_toArray] at N9
      exact Stop.go (inv_end4 F9 N9 ⟨_, _, _, _, _, _, sees_cons rfl sees_nil, rfl, hus.append (.cons _ _ .nil), by assumption, by assumption⟩)
  · rintro m₁ nx h5 tk5 ⟨us, n, oa, ob, va, vb, hs, rfl, hus, da, db⟩ F5 N5
    replace F5 := fr_overD hs F5
    simp only [over] at F5
    clear F1 N1 hs
    rw [foldl_map2, List.nil_append] at hus
    k_steps
    exact out_list (by assumption) (by assumption) (by k_mem) hus
end Mine
end
-- CompZ
section
open PySem PySem.W PySem.Calls PyProof.Rows PyProof.V PySem.Spec
set_option linter.all false
set_option maxRecDepth 100000
namespace Mine
section
variable {prog : Program} {w : World} {A : Around} {E : Value → Shared → Prop} {s : Shared} {h₀ : Heap} {L : Addr} {m : Str → Option Value} {env : Env}
noncomputable def PairAt (ns ms : List Int) (i : Nat) (vals : Array Value) : Prop := ∃ a b ta tb, ns[i]? = some a ∧ ms[i]? = some b ∧ vals = #[.int a ta, .int b tb]
/-- what is left of [elt for x, y in zip(l1, l2)] once the zip object stands -/
noncomputable def PairRest (prog : Program) (w : World) (A : Around) (E : Value → Shared → Prop) (h₀ : Heap) (L : Addr) (m : Str → Option Value) (env : Env) (elt : Expr) (x x₂ : Str) (scope : Scope) (cl : List (Str × Addr)) (ns ms : List Int) (f : Int → Int → Int) (Q : Value → Shared → Prop) (xv : Value) (s₁ : Shared) : Prop :=
  ∃ news : List (Addr × Obj), ∃ I fp wr, ∃ St : Nat → Heap → Prop, ∃ Mid : Nat → Addr → Heap → Prop, xv = .ref I ∧ WalksT prog w A I fp wr (ns.zip ms).length (PairAt ns ms) St Mid ∧ St 0 s₁.heap ∧ (∀ b ∈ fp, b < s₁.heap.objs.size) ∧ L ∉ fp ∧ (∀ b ∈ wr, h₀.get? b = none) ∧ (∀ p ∈ news, p.1 ∉ wr) ∧
    Fr h₀ L s₁.heap m ∧ News h₀ L s₁.heap news ∧
    (∀ C a b ta tb s₂ m₂ E', s₁.heap.objs.size ≤ C → s₂.heap.Ns C m₂ → m₂ x = some (.int a ta) → m₂ x₂ = some (.int b tb) → Fr h₀ L s₂.heap m → News h₀ L s₂.heap news →
      wpAny (model prog w) A (eval elt (compEnvC scope cl C env)) (fun y s₃ => (∃ u, y = .int (f a b) u) ∧ Keeps s₂ s₃) E' s₂) ∧
    (∀ D (ys : List Value) z h' tk, Fr h₀ L h' m → News h₀ L h' ((D, PySem.W.listOf (List.toArray ys) z) :: news) → AllNe D news → IntsAre ys ((ns.zip ms).map fun p => f p.1 p.2) → Q (.ref D) { s₁ with heap := h', toks := tk })
theorem comp_zipF {elt iter : Expr} {x x₂ : Str} {px px₂ tp : Pos} {tk : Nat} {scope : Scope} {cl : List (Str × Addr)} {pos : Pos} {Q : Value → Shared → Prop} (F₀ : Fr h₀ L s.heap m) (ns ms : List Int) (f : Int → Int → Int) (hsz : (ns.zip ms).length ≤ sizeLine)
    (hh : A.handled = none) (hclos : closureFor scope env = pure cl) (hcell : ∀ y ∈ scope.names, y.2 ≠ .cell) (hkind : scope.kind = .function)
    (hnames : ∀ y ∈ scope.names, y.2 = .local → scope.names.lookup y.1 = some .local) (hx : scope.names.lookup x = some .local) (hx₂ : scope.names.lookup x₂ = some .local) (hxx : x ≠ x₂)
    (h : wpAny (model prog w) A (eval iter env) (fun xv s₁ => PairRest prog w A E h₀ L m env elt x x₂ scope cl ns ms f Q xv s₁) E s)
    (hs : ∀ x, foldedSetIterable iter env x = pure x := by intro _; rfl) :
    wpAny (model prog w) A (eval (.ListComp elt [⟨.Tuple [.Name x px, .Name x₂ px₂] tk tp, iter, [], 0⟩] scope pos) env) Q E s := by
  rw [eval_ListComp]
  refine wpAny_comprehension_free (use := none) rfl hs hclos hkind hnames (wpAny_mono h (fun xv s₂ h₁ => ?_) fun _ _ e => e)
  obtain ⟨news, I, fp, wr, St, Mid, rfl, W, hst, hfp, hLf, hwr, hnw, F, N, helt, hfin⟩ := h₁
  refine W.self 0 _ _ _ hst ?_
  refine wpAny_newObj_type (wpAny_newFunctionEnv hcell (by intro y hy; simp at hy) (fun h₁ hns₁ hsb₁ => ?_) hkind)
  dsimp only at hns₁ hsb₁ ⊢
  generalize hH2 : s₂.heap.push { cls := .type "list", dict := none, data := .seq ([] : List Value).toArray } = H2 at hns₁ hsb₁ ⊢
  have hC : H2.objs.size = s₂.heap.objs.size + 1 := by rw [← hH2, Heap.size_push]
  have hDC : s₂.heap.objs.size ≠ H2.objs.size := by rw [hC]; exact Nat.ne_of_lt (Nat.lt_succ_self _)
  have below : ∀ b, b < s₂.heap.objs.size → b ≠ H2.objs.size ∧ b ≠ s₂.heap.objs.size := fun b hb => ⟨by rw [hC]; exact Nat.ne_of_lt (Nat.lt_succ_of_lt hb), Nat.ne_of_lt hb⟩
  have hDf : s₂.heap.objs.size ∉ fp := fun hm => Nat.lt_irrefl _ (hfp _ hm)
  have hCf : H2.objs.size ∉ fp := fun hm => by have := hfp _ hm; rw [hC] at this; exact Nat.lt_irrefl _ (Nat.lt_of_succ_lt this)
  have hDw : s₂.heap.objs.size ∉ wr := fun hm => hDf (W.sub _ hm)
  have hCw : H2.objs.size ∉ wr := fun hm => hCf (W.sub _ hm)
  have hLw : L ∉ wr := fun hm => hLf (W.sub _ hm)
  have old : ∀ b o, s₂.heap.get? b = some o → h₁.get? b = some o := fun b o e => hsb₁.extBut b o (below b (Heap.lt_size e)).1 (Heap.get?_push_of_some _ (hH2 ▸ Heap.get?_push_of_some _ e))
  have hacc : h₁.get? s₂.heap.objs.size = some { cls := .type "list", data := .seq #[] 0 } := hsb₁.extBut _ _ hDC (Heap.get?_push_of_some _ (hH2 ▸ Heap.get?_push_size _ rfl))
  have hst₁ : St 0 h₁ := W.frame _ _ _ hst fun b _ o e => old b o e
  have fresh₀ : ∀ a, s₂.heap.objs.size ≤ a → h₀.get? a = none := fun a ha => by
    cases e : h₀.get? a with
    | none => rfl
    | some o' => exact absurd (Heap.lt_size (F.keep a o' e)) (Nat.not_lt.mpr ha)
  have hD₀ : h₀.get? s₂.heap.objs.size = none := fresh₀ _ (Nat.le_refl _)
  have hC₀ : h₀.get? H2.objs.size = none := fresh₀ _ (by rw [hC]; exact Nat.le_succ _)
  have hLlt : L < s₂.heap.objs.size := F.ns.lt
  have hDL : s₂.heap.objs.size ≠ L := Ne.symm (below L hLlt).2
  have hCL : H2.objs.size ≠ L := Ne.symm (below L hLlt).1
  have hoff : ∀ p ∈ news, p.1 ≠ H2.objs.size ∧ p.1 ≠ s₂.heap.objs.size := fun p hp => below _ (Heap.lt_size (N p hp).1)
  have loop : ∀ s₃ : Shared, s₃ = { s₂ with heap := h₁, toks := s₂.toks + ([] : List (Str × Value)).length } →
      codeAny (model prog w) A (.compLoop (.ListComp elt [⟨.Tuple [.Name x px, .Name x₂ px₂] tk tp, iter, [], 0⟩] scope pos) 0 (.ref I) (.ref s₂.heap.objs.size) (compEnvC scope cl H2.objs.size env))
        (compPost (model prog w) A E none Q (.ref s₂.heap.objs.size) H2.objs.size) s₃ := by
    rintro s₃ rfl
    refine LCp.codeAny_compLoop_pair
      (fun k s' => ∃ h' tk i ys z m', s' = { s₂ with heap := h', toks := tk } ∧ i ≤ (ns.zip ms).length ∧ k = (ns.zip ms).length + 1 - i ∧ IntsAre ys (((ns.zip ms).take i).map fun p => f p.1 p.2) ∧ St i h' ∧ Fr h₀ L h' m ∧ h'.Ns H2.objs.size m' ∧
        h'.get? s₂.heap.objs.size = some { cls := .type "list", data := .seq (List.toArray ys) z } ∧ News h₀ L h' news) ?_ ((ns.zip ms).length + 1)
      ⟨h₁, _, 0, [], 0, _, rfl, Nat.zero_le _, rfl, .nil, hst₁, F.keeps old, hns₁, hacc, fun p hp => ⟨old _ _ (N p hp).1, (N p hp).2⟩⟩
    rintro k s' ⟨h', tk, i, ys, z, m', rfl, hi, rfl, hys, hst', F', hn', hD', N'⟩
    by_cases hlt : i < (ns.zip ms).length
    · refine W.item i _ _ _ hlt hst' fun T vals h₂ tk₂ hPt hTs hT hM hk₂ => ?_
      obtain ⟨a, b, ta, tb, ha, hb, rfl⟩ := hPt
      refine W.go _ _ _ i T _ _ _ hM fun h₃ hst₃ hk₃ => ?_
      have hTw := W.apart i T h₂ hM
      have ht : IsTup h₃ T #[.int a ta, .int b tb] := hT.at fun o e => hk₃ _ o hTw e
      refine assign_Tuple_tuple hh ht rfl rfl fun h₅ he => ?_
      have he' : ∀ b o, h₃.get? b = some o → h₅.get? b = some o := fun b o e => he b o (Nat.ne_of_lt (Heap.lt_size e)) e
      have old5 : ∀ b o, b ∉ wr → h'.get? b = some o → h₅.get? b = some o := fun b o hb e => he' b o (hk₃ b o hb (hk₂ b o hb e))
      refine assignInOrder_cons (wpAny_assign_Name (wpAny_storeName_local (lookup_relabel_local hx) (hn'.at' fun o e => old5 _ o hCw e) (fun h₆ hn₆ hs₆ => ?_) (by simp [compEnvC, relabel, hkind])))
      refine assignInOrder_cons (wpAny_assign_Name (wpAny_storeName_local (lookup_relabel_local hx₂) hn₆ (fun h₇ hn₇ hs₇ => ?_) (by simp [compEnvC, relabel, hkind])))
      refine assignInOrder_nil ?_
      have old7 : ∀ b o, b ∉ wr → b ≠ H2.objs.size → h'.get? b = some o → h₇.get? b = some o := fun b o hw hb e => hs₇.extBut b o hb (hs₆.extBut b o hb (old5 b o hw e))
      have hst₇ : St (i + 1) h₇ := W.frame _ _ _ hst₃ fun b hb o e => hs₇.extBut b o (fun q => hCf ((show b = H2.objs.size from q) ▸ hb)) (hs₆.extBut b o (fun q => hCf ((show b = H2.objs.size from q) ▸ hb)) (he' b o e))
      have F₇ : Fr h₀ L h₇ m := ⟨F'.ns.at' fun o e => old7 _ o hLw (Ne.symm hCL) e, fun b o e => old7 b o (fun hm => by rw [hwr b hm] at e; cases e) (fun q => by rw [q, hC₀] at e; cases e) (F'.keep b o e), F'.above⟩
      have N₇ : News h₀ L h₇ news := fun p hp => ⟨old7 _ _ (hnw p hp) (hoff p hp).1 (N' p hp).1, (N' p hp).2⟩
      refine wpAny_mono (helt H2.objs.size a b ta tb _ _ _ (by rw [hC]; exact Nat.le_succ _) hn₇ (by simp [hxx]) (by simp) F₇ N₇) (fun y s₄ h₄ => ?_) fun _ _ e => e
      obtain ⟨⟨u, rfl⟩, h₈, tk₈, rfl, hk₈⟩ := h₄
      have hz : (ns.zip ms)[i]? = some (a, b) := by rw [List.getElem?_zip_eq_some]; exact ⟨ha, hb⟩
      have hyl : ys.length ≤ sizeLine := by
        rw [hys.length, List.length_map, List.length_take]; (first | lia | omega)
      refine append_at (hsz := by show (List.toArray ys).size ≤ sizeLine; rw [List.size_toArray]; exact hyl) (hk₈ _ _ (old7 _ _ hDw hDC hD')) fun h₉ hs₉ hD₉ => ?_
      have hn₉ := (hn₇.keeps hk₈).sameBut hs₉ (Ne.symm hDC)
      have hD₁ : h₉.get? s₂.heap.objs.size = some { cls := .type "list", data := .seq (List.toArray (ys ++ [.int (f a b) u])) (z + 1) } := by rw [hD₉, List.push_toArray]
      have hy₁ : IntsAre (ys ++ [.int (f a b) u]) (((ns.zip ms).take (i + 1)).map fun p => f p.1 p.2) := by
        rw [List.take_add_one, hz, List.map_append]
        exact hys.append (.cons _ _ .nil)
      exact ⟨(ns.zip ms).length + 1 - (i + 1), by (first | lia | omega), h₉, tk₈, i + 1, _, z + 1, _, rfl, hlt, rfl, hy₁, W.frame _ _ _ hst₇ fun b hb o e => hs₉.extBut b o (fun q => hDf (q ▸ hb)) (hk₈ b o e), (F₇.keeps hk₈).change hs₉ hDL hD₀,
        hn₉, hD₁, fun p hp => ⟨hs₉.extBut _ _ (hoff p hp).2 (hk₈ _ _ (N₇ p hp).1), (N₇ p hp).2⟩⟩
    · obtain rfl : i = (ns.zip ms).length := Nat.le_antisymm hi (Nat.not_lt.mp hlt)
      refine W.done _ _ _ hst' fun h₂ tk₂ hk₂ => ?_
      rw [List.take_length] at hys
      refine ⟨m', hn'.at' fun o e => hk₂ _ o hCw e, fun h'' hs'' => ?_⟩
      have F₂ : Fr h₀ L h₂ m := ⟨F'.ns.at' fun o e => hk₂ _ o hLw e, fun b o e => hk₂ b o (fun hm => by rw [hwr b hm] at e; cases e) (F'.keep b o e), F'.above⟩
      refine hfin _ ys z h'' tk₂ (F₂.change hs'' hCL hC₀) (fun p hp => ?_) (allNe_of fun p hp => (hoff p hp).2) hys
      rcases List.mem_cons.mp hp with rfl | hp
      · exact ⟨hs''.extBut _ _ hDC (hk₂ _ _ hDw hD'), hDL, hD₀⟩
      · exact ⟨hs''.extBut _ _ (hoff p hp).1 (hk₂ _ _ (hnw p hp) (N' p hp).1), (N' p hp).2⟩
  exact codeAny_compStart_list (loop _ rfl) (W.self 0 _ _ _ hst₁ (loop _ rfl))
theorem walksT_mono {I : Addr} {fp wr : List Addr} {n : Nat} {Pt Pt' : Nat → Array Value → Prop} {St : Nat → Heap → Prop} {Mid : Nat → Addr → Heap → Prop} (W : WalksT prog w A I fp wr n Pt St Mid) (h : ∀ i v, Pt i v → Pt' i v) : WalksT prog w A I fp wr n Pt' St Mid where
  sub := W.sub
  frame := W.frame
  item := fun i s Q E hi hst hQ => W.item i s Q E hi hst fun T vals h' tk hp => hQ T vals h' tk (h i vals hp)
  go := W.go
  apart := W.apart
  done := W.done
  self := W.self
theorem call_zipRest {elt : Expr} {x x₂ : Str} {scope : Scope} {cl : List (Str × Addr)} {l1 l2 : Addr} {xs ys : List Value} {ns ms : List Int} {f : Int → Int → Int} {Q : Value → Shared → Prop} {news : List (Addr × Obj)}
    (hh : A.handled = none) (hl1 : h₀.IsList l1 xs.toArray) (hi1 : IntsAre xs ns) (hl2 : h₀.IsList l2 ys.toArray) (hi2 : IntsAre ys ms) (F : Fr h₀ L s.heap m) (N : News h₀ L s.heap news)
    (helt : ∀ C a b ta tb s₂ m₂ E', s.heap.objs.size ≤ C → s₂.heap.Ns C m₂ → m₂ x = some (.int a ta) → m₂ x₂ = some (.int b tb) → Fr h₀ L s₂.heap m → News h₀ L s₂.heap news →
      wpAny (model prog w) A (eval elt (compEnvC scope cl C env)) (fun y s₃ => (∃ u, y = .int (f a b) u) ∧ Keeps s₂ s₃) E' s₂)
    (hfin : ∀ D (ys : List Value) z h' tk, Fr h₀ L h' m → News h₀ L h' ((D, PySem.W.listOf (List.toArray ys) z) :: news) → AllNe D news → IntsAre ys ((ns.zip ms).map fun p => f p.1 p.2) → Q (.ref D) { s with heap := h', toks := tk }) :
    wpAny (model prog w) A (call (.type "zip") [.ref l1, .ref l2]) (fun xv s₁ => PairRest prog w A E h₀ L m env elt x x₂ scope cl ns ms f Q xv s₁) E s := by
  have hs1 : s.heap.IsList l1 xs.toArray := hl1.at fun o e => F.keep l1 o e
  have hs2 : s.heap.IsList l2 ys.toArray := hl2.at fun o e => F.keep l2 o e
  obtain ⟨o1, ho1, _⟩ := id hl1
  obtain ⟨o2, ho2, _⟩ := id hl2
  have hlt1 : l1 < s.heap.objs.size := Heap.lt_size (F.keep l1 o1 ho1)
  have hlt2 : l2 < s.heap.objs.size := Heap.lt_size (F.keep l2 o2 ho2)
  have hLs : L < s.heap.objs.size := F.ns.lt
  have D : ZipApart (s.heap.objs.size + 4) (s.heap.objs.size + 2) (s.heap.objs.size + 3) s.heap.objs.size (s.heap.objs.size + 1) l1 l2 := ktu_apart _ _ _ hlt1 hlt2
  refine call_zip_2 hs1 hs2 fun h' hz hTI hTO hi1' hi2' hsz hk => ?_
  have W := walksT_mono (Pt' := PairAt ns ms) (WalksT.zip2 (prog := prog) (w := w) hh _ _ _ _ _ _ _ D xs.toArray ys.toArray) (fun i v ⟨x, y, hx, hy, e⟩ => by
    obtain ⟨a, ta, rfl, ha⟩ := IntsAre.at hi1 i x (by simpa using hx)
    obtain ⟨b, tb, rfl, hb⟩ := IntsAre.at hi2 i y (by simpa using hy)
    exact ⟨a, b, ta, tb, ha, hb, e⟩)
  have hn : min xs.toArray.size ys.toArray.size = (ns.zip ms).length := by simp [hi1.length, hi2.length]
  rw [hn] at W
  refine ⟨news, _, _, _, _, _, rfl, W, ⟨hz, hTI, ⟨_, _, hTO⟩, hi1', hi2', hs1.at fun o e => hk l1 o e, hs2.at fun o e => hk l2 o e⟩, ?_, ?_, ?_, ?_, F.keeps hk, N.grown hk, ?_, hfin⟩
  · intro b hb
    have hb' : b = s.heap.objs.size + 4 ∨ b = s.heap.objs.size + 2 ∨ b = s.heap.objs.size + 3 ∨ b = s.heap.objs.size ∨ b = s.heap.objs.size + 1 ∨ b = l1 ∨ b = l2 := by simpa using hb
    have hsz' : h'.objs.size = s.heap.objs.size + 5 := hsz
    show @LT.lt Nat _ b h'.objs.size
    rw [hsz']
    have a1 : @LT.lt Nat _ l1 s.heap.objs.size := hlt1
    have a2 : @LT.lt Nat _ l2 s.heap.objs.size := hlt2
    rcases hb' with rfl | rfl | rfl | rfl | rfl | rfl | rfl <;> (first | lia | omega)
  · intro hI'
    have hb' : L = s.heap.objs.size + 4 ∨ L = s.heap.objs.size + 2 ∨ L = s.heap.objs.size + 3 ∨ L = s.heap.objs.size ∨ L = s.heap.objs.size + 1 ∨ L = l1 ∨ L = l2 := by simpa using hI'
    rcases hb' with e | e | e | e | e | e | e
    · exact ktu_ne 4 hLs e
    · exact ktu_ne 2 hLs e
    · exact ktu_ne 3 hLs e
    · exact Nat.ne_of_lt hLs e
    · exact ktu_ne 1 hLs e
    · exact absurd (Nat.lt_of_lt_of_le (Heap.lt_size ho1) F.above) (e ▸ Nat.lt_irrefl _)
    · exact absurd (Nat.lt_of_lt_of_le (Heap.lt_size ho2) F.above) (e ▸ Nat.lt_irrefl _)
  · intro b hb
    have hb' : b = s.heap.objs.size + 4 ∨ b = s.heap.objs.size + 3 ∨ b = s.heap.objs.size ∨ b = s.heap.objs.size + 1 := by simpa using hb
    rcases hb' with rfl | rfl | rfl | rfl
    · exact ktu_new F (Nat.le_add_right _ _)
    · exact ktu_new F (Nat.le_add_right _ _)
    · exact ktu_new F (Nat.le_refl _)
    · exact ktu_new F (Nat.le_add_right _ _)
  · intro p hp hI'
    have hlp := Heap.lt_size (N p hp).1
    have hb' : p.1 = s.heap.objs.size + 4 ∨ p.1 = s.heap.objs.size + 3 ∨ p.1 = s.heap.objs.size ∨ p.1 = s.heap.objs.size + 1 := by simpa using hI'
    rcases hb' with e | e | e | e
    · exact ktu_ne 4 hlp e
    · exact ktu_ne 3 hlp e
    · exact Nat.ne_of_lt hlp e
    · exact ktu_ne 1 hlp e
  · intro C a b ta tb s₂ m₂ E' hC
    refine helt C a b ta tb s₂ m₂ E' (Nat.le_trans ?_ hC)
    show s.heap.objs.size ≤ h'.objs.size
    rw [hsz]; exact Nat.le_add_right _ _
end
end Mine
end
-- CompK
section
open PySem PySem.W PySem.Calls PyProof.Rows PyProof.V PySem.Spec
set_option linter.all false
set_option maxRecDepth 100000
namespace Mine
section
variable {prog : Program} {w : World} {A : Around} {E : Value → Shared → Prop} {s : Shared} {h₀ : Heap} {L : Addr} {m : Str → Option Value} {env : Env}
/-- how the element of such a comprehension ends -/
noncomputable def CellEnd (h₀ : Heap) (L : Addr) (m : Str → Option Value) (l : List (Addr × Obj)) (z : Int) (s₂ : Shared) (y : Value) (s₃ : Shared) : Prop :=
  (∃ u, y = .int z u) ∧ ∃ h' tk', s₃ = { s₂ with heap := h', toks := tk' } ∧ Fr h₀ L h' m ∧ News h₀ L h' l
/-- what is left of [elt for x in range(N)] once the range stands, x a cell of the comprehension's own -/
noncomputable def CellRest (prog : Program) (w : World) (A : Around) (E : Value → Shared → Prop) (h₀ : Heap) (L : Addr) (m : Str → Option Value) (env : Env) (elt : Expr) (x : Str) (scope : Scope) (cl : List (Str × Addr)) (N : Int) (n : Nat) (f : Int → Int) (Q : Value → Shared → Prop) (xv : Value) (s₁ : Shared) : Prop :=
  ∃ news : List (Addr × Obj), ∃ r t₀ u₀ v₀, xv = .ref r ∧ IsRange s₁.heap r 0 N 1 t₀ u₀ v₀ ∧ Fr h₀ L s₁.heap m ∧ News h₀ L s₁.heap news ∧
    (∀ (I D C c : Nat) (a : Int) t o oI oD oC s₂ E', @LT.lt Nat _ L I → I < D → D < C → C < c → (∀ p ∈ news, @LT.lt Nat _ p.1 I) → 0 ≤ a → a < (n : Int) → o.data = .cell (some (.int a t)) → Fr h₀ L s₂.heap m → News h₀ L s₂.heap ((I, oI) :: (D, oD) :: (C, oC) :: (c, o) :: news) →
      wpAny (model prog w) A (eval elt (compEnvC scope ((x, c) :: cl) C env)) (CellEnd h₀ L m ((I, oI) :: (D, oD) :: (C, oC) :: (c, o) :: news) (f a) s₂) E' s₂) ∧
    (∀ D (ys : List Value) z h' tk, Fr h₀ L h' m → News h₀ L h' ((D, PySem.W.listOf (List.toArray ys) z) :: news) → AllNe D news → IntsAre ys ((rangeInts 0 1 n).map f) → Q (.ref D) { s₁ with heap := h', toks := tk })
theorem newEnv_cell {scope : Scope} {globals : Addr} {cl : List (Str × Addr)} {qual : Str} {code : Value} {builtins : Addr} {x : Str} {Q : Env → Shared → Prop} (hc : ∀ n, cellsFrom n scope.names cl = (x, n) :: cl) (hp : ∀ h, pushCells h scope.names = h.push { cls := .type "cell", data := .cell none })
    (hQ : Q (newEnv scope s.heap.objs.size globals ((x, s.heap.objs.size + 1) :: cl) qual none code (some env) builtins) { s with heap := (s.heap.push { cls := .type "dict", data := .dict #[] }).push { cls := .type "cell", data := .cell none } }) :
    wpAny (model prog w) A (newFunctionEnv scope globals cl [] qual none code (some env) builtins) Q E s := by
  simp only [newFunctionEnv, Option.isSome_some, if_true]
  refine wpAny_bind (wpAny_alloc ?_)
  refine wpAny_bind (wpAny_layCells _ (fun name kind cells => by cases hkc : kind == NameKind.cell <;> simp [hkc]) _ _ _ _ ?_)
  rw [hc, hp]
  rw [show ({ s with heap := s.heap.push { cls := .type "dict", data := .dict #[] } } : Shared).heap.objs.size = s.heap.objs.size + 1 from Heap.size_push ..]
  exact wpAny_bind (wpAny_pure (wpAny_pure hQ))
theorem comp_cellF {elt iter : Expr} {x : Str} {px : Pos} {scope : Scope} {cl : List (Str × Addr)} {pos : Pos} {Q : Value → Shared → Prop} (F₀ : Fr h₀ L s.heap m) (N : Int) (n : Nat) (f : Int → Int) (hsm : Builtin.Range.small 0 N 1 = true) (hn : Builtin.Range.rangeSize 0 N 1 = (n : Int)) (hz : n ≤ sizeLine)
    (hh : A.handled = none) (hclos : closureFor scope env = pure cl) (hkind : scope.kind = .function) (hnames : ∀ y ∈ scope.names, y.2 = .local → scope.names.lookup y.1 = some .local)
    (hcl : ∀ k, cellsFrom k scope.names cl = (x, k) :: cl) (hpc : ∀ h, pushCells h scope.names = h.push { cls := .type "cell", data := .cell none }) (hx : ∀ (C : Addr) (cs : List (Str × Addr)), (compEnvC scope cs C env).kindOf x = some .cell)
    (h : wpAny (model prog w) A (eval iter env) (fun xv s₁ => CellRest prog w A E h₀ L m env elt x scope cl N n f Q xv s₁) E s)
    (hs : ∀ x, foldedSetIterable iter env x = pure x := by intro _; rfl) :
    wpAny (model prog w) A (eval (.ListComp elt [⟨.Name x px, iter, [], 0⟩] scope pos) env) Q E s := by
  rw [eval_ListComp]
  refine wpAny_comprehension_free (use := none) rfl hs hclos hkind hnames (wpAny_mono h (fun xv s₁ h₁ => ?_) fun _ _ e => e)
  obtain ⟨news, r, t₀, u₀, v₀, rfl, hr, F, N₁, helt, hfin⟩ := h₁
  refine wpAny_pyIter_range hr hsm ?_
  have hLs : L < s₁.heap.objs.size := F.ns.lt
  generalize hs2 : ({ s₁ with heap := s₁.heap.push { cls := .type "range_iterator", data := .fields #[rawInt 0, rawInt (Builtin.Range.rangeSize 0 N 1), rawInt 1] } } : Shared) = s₂
  have z2 : s₂.heap.objs.size = s₁.heap.objs.size + 1 := by rw [← hs2]; exact Heap.size_push ..
  have k2 : ∀ b o, s₁.heap.get? b = some o → s₂.heap.get? b = some o := fun b o e => by rw [← hs2]; exact Heap.get?_push_of_some _ e
  have i2 : IsRangeIter s₂.heap s₁.heap.objs.size (0 + ((0 : Nat) : Int) * 1) ((n : Int) - ((0 : Nat) : Int)) 1 := by
    rw [← hs2]
    show (Heap.push _ _).get? _ = _
    rw [hn]
    simpa using Heap.get?_push_size s₁.heap rfl
  refine wpAny_newObj_type ?_
  refine newEnv_cell hcl hpc ?_
  generalize hh5 : ((s₂.heap.push { cls := .type "list", dict := none, data := .seq ([] : List Value).toArray }).push { cls := .type "dict", data := .dict #[] }).push { cls := .type "cell", data := .cell none } = h5
  have z3 : (s₂.heap.push { cls := .type "list", dict := none, data := .seq ([] : List Value).toArray }).objs.size = s₂.heap.objs.size + 1 := Heap.size_push ..
  have z4 : ((s₂.heap.push { cls := .type "list", dict := none, data := .seq ([] : List Value).toArray }).push { cls := .type "dict", data := .dict #[] }).objs.size = s₂.heap.objs.size + 1 + 1 := by rw [Heap.size_push, z3]
  dsimp only at *
  rw [z3]
  have keep5 : ∀ b o, s₂.heap.get? b = some o → h5.get? b = some o := fun b o e => by rw [← hh5]; exact Heap.get?_push_of_some _ (Heap.get?_push_of_some _ (Heap.get?_push_of_some _ e))
  have d5 : h5.get? s₂.heap.objs.size = some { cls := .type "list", data := .seq #[] 0 } := by rw [← hh5]; exact Heap.get?_push_of_some _ (Heap.get?_push_of_some _ (Heap.get?_push_size _ rfl))
  have n5 : h5.Ns (s₂.heap.objs.size + 1) (fun _ => none) := by
    have := (Heap.Ns.new (s₂.heap.push { cls := .type "list", dict := none, data := .seq ([] : List Value).toArray }) (.type "dict")).keeps (fun b o e => Heap.get?_push_of_some { cls := .type "cell", data := .cell none } e)
    rw [z3, hh5] at this
    exact this
  have c5 : h5.get? (s₂.heap.objs.size + 1 + 1) = some { cls := .type "cell", data := .cell none } := by
    have := Heap.get?_push_size ((s₂.heap.push { cls := .type "list", dict := none, data := .seq ([] : List Value).toArray }).push { cls := .type "dict", data := .dict #[] }) (o := { cls := .type "cell", data := .cell none }) rfl
    rw [z4, hh5] at this
    exact this
  have fresh : ∀ a : Nat, s₁.heap.objs.size ≤ a → h₀.get? a = none := fun a ha => by
    cases e : h₀.get? a with
    | none => rfl
    | some o' => exact absurd (Heap.lt_size (F.keep a o' e)) (Nat.not_lt.mpr ha)
  have hnl : ∀ p ∈ news, @LT.lt Nat _ p.1 s₁.heap.objs.size := fun p hp => Heap.lt_size (N₁ p hp).1
  have W := Walks.range (prog := prog) (w := w) hh s₁.heap.objs.size 0 1 n
  generalize hI : s₁.heap.objs.size = I at *
  generalize hDD : s₂.heap.objs.size = D at *
  have hLn : @LT.lt Nat _ L I := hLs
  have neN' : ∀ {a b : Nat}, a < b → (a : Addr) ≠ b := fun h => Nat.ne_of_lt h
  have loop : ∀ s₃ : Shared, s₃ = { s₂ with heap := h5 } →
      codeAny (model prog w) A (.compLoop (.ListComp elt [⟨.Name x px, iter, [], 0⟩] scope pos) 0 (.ref I) (.ref D) (compEnvC scope ((x, D + 1 + 1) :: cl) (D + 1) env))
        (compPost (model prog w) A E none Q (.ref D) (D + 1)) s₃ := by
    rintro s₃ rfl
    refine codeAny_compLoop_list
      (fun k s' => ∃ h' tk i ys z o v, s' = { s₂ with heap := h', toks := tk } ∧ i ≤ n ∧ k = n + 1 - i ∧ IntsAre ys (((rangeInts 0 1 n).take i).map f) ∧ IsRangeIter h' I (0 + (i : Nat) * 1) ((n : Int) - (i : Nat)) 1 ∧ Fr h₀ L h' m ∧ h'.Ns (D + 1) (fun _ => none) ∧
        h'.get? D = some { cls := .type "list", data := .seq (List.toArray ys) z } ∧ h'.get? (D + 1 + 1) = some o ∧ o.data = .cell v ∧ News h₀ L h' news) ?_ (n + 1)
      ⟨h5, _, 0, [], 0, _, _, rfl, Nat.zero_le _, rfl, .nil, keep5 _ _ i2, F.keeps fun b o e => keep5 b o (k2 b o e), n5, d5, c5, rfl, fun p hp => ⟨keep5 _ _ (k2 _ _ (N₁ p hp).1), (N₁ p hp).2⟩⟩
    rintro k s' ⟨h', tk, i, ys, z, o, v, rfl, hi, rfl, hys, hit, F', hn', hD', hc', hcv, N'⟩
    by_cases hlt : i < n
    · refine W.item i _ _ _ hlt hit fun v h₂ tk₂ hPv hit₂ hk₂ => ?_
      obtain ⟨t, rfl⟩ := hPv
      have up2 : ∀ b o, b ≠ I → h'.get? b = some o → h₂.get? b = some o := fun b o hb e => hk₂ b o (by simpa using hb) e
      refine wpAny_assign_Name (wpAny_storeName_cell (c := D + 1 + 1) (v₀ := v) (by simp [compEnvC, relabel, hkind]) (hx _ _) (by simp [compEnvC]) ⟨o, up2 _ _ (by intro q; have : D + 1 + 1 = I := q; (first | lia | omega)) hc', hcv⟩ fun h₃ hc₃ hs₃ => ?_)
      obtain ⟨o₃, ho₃, hd₃⟩ := hc₃
      have up3 : ∀ b o, b ≠ I → b ≠ D + 1 + 1 → h'.get? b = some o → h₃.get? b = some o := fun b o h1 h2 e => hs₃.extBut b o h2 (up2 b o h1 e)
      have F₃ : Fr h₀ L h₃ m := ⟨F'.ns.at' fun o e => up3 _ o (neN' hLn) (neN' (by (first | lia | omega))) e, fun b o e => up3 b o (fun q => by rw [q, fresh I (Nat.le_refl _)] at e; cases e) (fun q => by rw [q, fresh (D + 1 + 1) (by (first | lia | omega))] at e; cases e) (F'.keep b o e), F'.above⟩
      have N₃ : News h₀ L h₃ news := fun p hp => ⟨up3 _ _ (neN' (hnl p hp)) (neN' (by have := hnl p hp; (first | lia | omega))) (N' p hp).1, (N' p hp).2⟩
      have hn₃ : h₃.Ns (D + 1) (fun _ => none) := hn'.at' fun o e => up3 _ o (by intro q; have : D + 1 = I := q; (first | lia | omega)) (neN' (by (first | lia | omega))) e
      obtain ⟨oC, esC, epC, hC₃, hCr⟩ := hn₃
      have hI₃ := hs₃.extBut _ _ (neN' (by (first | lia | omega) : @LT.lt Nat _ I (D + 1 + 1))) hit₂
      have hD₃ := up3 _ _ (by intro q; have : D = I := q; (first | lia | omega)) (neN' (by (first | lia | omega))) hD'
      have N₃' : News h₀ L h₃ ((I, _) :: (D, _) :: (D + 1, oC) :: (D + 1 + 1, o₃) :: news) := fun p hp => by
        rcases List.mem_cons.mp hp with rfl | hp
        · exact ⟨hI₃, (neN' hLn).symm, fresh I (Nat.le_refl _)⟩
        rcases List.mem_cons.mp hp with rfl | hp
        · exact ⟨hD₃, (neN' (by (first | lia | omega) : @LT.lt Nat _ L D)).symm, fresh D (by (first | lia | omega))⟩
        rcases List.mem_cons.mp hp with rfl | hp
        · exact ⟨hC₃, (neN' (by (first | lia | omega) : @LT.lt Nat _ L (D + 1))).symm, fresh _ (by (first | lia | omega))⟩
        rcases List.mem_cons.mp hp with rfl | hp
        · exact ⟨ho₃, (neN' (by (first | lia | omega) : @LT.lt Nat _ L (D + 1 + 1))).symm, fresh _ (by (first | lia | omega))⟩
        · exact N₃ p hp
      refine wpAny_mono (helt I D (D + 1) (D + 1 + 1) (0 + (i : Nat) * 1) t o₃ _ _ oC _ _ hLn (by (first | lia | omega)) (Nat.lt_succ_self _) (Nat.lt_succ_self _) hnl (by (first | lia | omega)) (by (first | lia | omega)) hd₃ F₃ N₃') (fun y s₄ h₄ => ?_) fun _ _ e => e
      obtain ⟨⟨u, rfl⟩, h₅, tk₅, rfl, F₅, N₅⟩ := h₄
      have gI := (N₅ _ (.head _)).1
      have gD := (N₅ _ (.tail _ (.head _))).1
      have gC := (N₅ _ (.tail _ (.tail _ (.head _)))).1
      have gc := (N₅ _ (.tail _ (.tail _ (.tail _ (.head _))))).1
      have gN : News h₀ L h₅ news := fun p hp => N₅ p (.tail _ (.tail _ (.tail _ (.tail _ hp))))
      have hg : (rangeInts 0 1 n)[i]? = some (0 + (i : Nat) * 1) := rangeInts_get hlt
      have hyl : ys.length ≤ sizeLine := by
        rw [hys.length, List.length_map, List.length_take]; (first | lia | omega)
      refine append_at (hsz := by show (List.toArray ys).size ≤ sizeLine; rw [List.size_toArray]; exact hyl) gD fun h₆ hs₆ hD₆ => ?_
      have hD₁ : h₆.get? D = some { cls := .type "list", data := .seq (List.toArray (ys ++ [.int (f (0 + (i : Nat) * 1)) u])) (z + 1) } := by rw [hD₆, List.push_toArray]
      have hy₁ : IntsAre (ys ++ [.int (f (0 + (i : Nat) * 1)) u]) (((rangeInts 0 1 n).take (i + 1)).map f) := by
        rw [List.take_add_one, hg, List.map_append]
        exact hys.append (.cons _ _ .nil)
      have hn₆ : h₆.Ns (D + 1) (fun _ => none) := ⟨oC, esC, epC, hs₆.extBut _ _ (neN' (by (first | lia | omega) : @LT.lt Nat _ D (D + 1))).symm gC, hCr⟩
      have hc₆ : h₆.get? (D + 1 + 1) = some o₃ := hs₆.extBut _ _ (neN' (by (first | lia | omega) : @LT.lt Nat _ D (D + 1 + 1))).symm gc
      have hit₆ : IsRangeIter h₆ I (0 + ((i + 1 : Nat) : Int) * 1) ((n : Int) - ((i + 1 : Nat) : Int)) 1 := hs₆.extBut _ _ (by intro q; have : I = D := q; (first | lia | omega)) gI
      exact ⟨n + 1 - (i + 1), by (first | lia | omega), h₆, tk₅, i + 1, _, z + 1, o₃, _, rfl, hlt, rfl, hy₁, hit₆, F₅.change hs₆ (neN' (by (first | lia | omega) : @LT.lt Nat _ L D)).symm (fresh D (by (first | lia | omega))), hn₆, hD₁, hc₆, hd₃,
        fun p hp => ⟨hs₆.extBut _ _ (neN' (by have := hnl p hp; (first | lia | omega))) (gN p hp).1, (gN p hp).2⟩⟩
    · obtain rfl : i = n := Nat.le_antisymm hi (Nat.not_lt.mp hlt)
      refine W.done _ _ _ hit fun h₂ tk₂ hk₂ => ?_
      have up2 : ∀ b o, b ≠ I → h'.get? b = some o → h₂.get? b = some o := fun b o hb e => hk₂ b o (by simpa using hb) e
      rw [show (rangeInts 0 1 i).take i = rangeInts 0 1 i from List.take_of_length_le (by rw [rangeInts_length]; exact Nat.le_refl _)] at hys
      refine ⟨_, hn'.at' fun o e => up2 _ o (by intro q; have : D + 1 = I := q; (first | lia | omega)) e, fun h'' hs'' => ?_⟩
      have F₂ : Fr h₀ L h₂ m := ⟨F'.ns.at' fun o e => up2 _ o (neN' hLn) e, fun b o e => up2 b o (fun q => by rw [q, fresh I (Nat.le_refl _)] at e; cases e) (F'.keep b o e), F'.above⟩
      rw [← hs2]
      refine hfin D ys z h'' tk₂ (F₂.change hs'' (neN' (by (first | lia | omega) : @LT.lt Nat _ L (D + 1))).symm (fresh _ (by (first | lia | omega)))) (fun p hp => ?_) (allNe_of fun p hp => neN' (by have := hnl p hp; (first | lia | omega))) hys
      rcases List.mem_cons.mp hp with rfl | hp
      · exact ⟨hs''.extBut _ _ (neN' (by (first | lia | omega) : @LT.lt Nat _ D (D + 1))) (up2 _ _ (by intro q; have : D = I := q; (first | lia | omega)) hD'), (neN' (by (first | lia | omega) : @LT.lt Nat _ L D)).symm, fresh D (by (first | lia | omega))⟩
      · exact ⟨hs''.extBut _ _ (neN' (by have := hnl p hp; (first | lia | omega))) (up2 _ _ (neN' (hnl p hp)) (N' p hp).1), (N' p hp).2⟩
  exact codeAny_compStart_list (loop _ rfl) (W.self 0 _ _ _ (keep5 _ _ i2) (loop _ rfl))
end
end Mine
end
-- T7
section
open PySem PySem.W PySem.Calls PyProof.Rows
set_option linter.all false
set_option maxRecDepth 100000
namespace Mine
inductive DRes where
  | row (x : List Int)
  | word (x : Str)
noncomputable def RDue (g : Heap) (r : DRes) : Value → Heap → Prop := fun v h => match r with
  | .row x => RList g x v h
  | .word x => ∃ t, v = .str x t
noncomputable def mulF (ns ms : List Int) : List Int := (rangeInts 0 1 8).map fun k => ((rangeInts k 1 (8 - k).toNat).map fun i => ns.getD i.toNat 0 * ms.getD (7 + k - i).toNat 0).sum
noncomputable def dueF (k : Int) (ns ms : List Int) (p : Int) : DRes :=
  let sh := p.fmod 54 - 3
  let dv := p.fmod 40 - 20
  if k = 0 then .row (rowF ((ns.zip ms).map fun p => p.1 + p.2)) else if k = 1 then .row (rowF ((ns.zip ms).map fun p => p.1 - p.2)) else if k = 2 then .row (rowF (mulF ns ms))
  else if k = 3 then .row (bitsF [2] ns ms) else if k = 4 then .row (bitsF [1, 2] ns ms) else if k = 5 then .row (bitsF [1] ns ms)
  else if k = 6 then .row (ns.map fun a => 63 - a) else if k = 7 then .row (rowF (ns.map fun a => -a))
  else if k = 12 then .row (rowF ([0, 0, 0, 0, 0, 0, 0] ++ [(p - 4000) ^ 3 * 997]))
  else if k = 8 then (if sh < 0 then .word (Str.ofString "shift") else .row (rowF (ns.map fun a => a * 2 ^ sh.toNat)))
  else if k = 9 then (if sh < 0 then .word (Str.ofString "shift") else .row (rowF (partF (2 ^ sh.toNat) ns).1))
  else if k = 10 then (if dv = 0 then .word (Str.ofString "nought") else .row (rowF (partF dv ns).1))
  else (if dv = 0 then .word (Str.ofString "nought") else .row (rowF ([0, 0, 0, 0, 0, 0, 0] ++ [(partF dv ns).2])))
section
variable {s : Shared} {L : Addr} {h₁ : Heap} {m : Str → Option Value} {tk : Nat} {v : Value} {s' : Shared} {r : DRes} {ns : List Int}
theorem due_row (e : r = .row ns) (F : Fr s.heap L h₁ m) (o : Out { s with heap := h₁, toks := tk } (RList h₁ ns) v s') : Out s (RDue s.heap r) v s' := by
  subst e
  obtain ⟨h', tk', rfl, hk, l, vs, n, rfl, hl, hi, hf⟩ := o
  refine ⟨h', tk', rfl, fun b o e => hk b o (F.keep b o e), l, vs, n, rfl, hl, hi, ?_⟩
  cases q : s.heap.get? l with
  | none => rfl
  | some o => have := F.keep l o q; rw [hf] at this; cases this
theorem due_word {x : Str} {t : Tok} (e : r = .word x) (F : Fr s.heap L h₁ m) : Out s (RDue s.heap r) (.str x t) { s with heap := h₁, toks := tk } := by
  subst e
  exact ⟨h₁, tk, rfl, F.keep, t, rfl⟩
theorem due_list {l : Addr} {vs : List Value} {n : Nat} {news : List (Addr × Obj)} (e : r = .row ns) (F : Fr s.heap L h₁ m) (N : News s.heap L h₁ news) (hm : (l, listOf vs.toArray n) ∈ news) (hi : IntsAre vs ns) : Out s (RDue s.heap r) (.ref l) { s with heap := h₁, toks := tk } := by
  subst e
  exact ⟨h₁, tk, rfl, F.keep, l, vs, n, rfl, (N _ hm).1, hi, (N _ hm).2.2⟩
end
theorem small8 {k : Int} (h0 : 0 ≤ k) (h1 : k < 8) : Builtin.Range.small k 8 1 = true := by
  have : k = 0 ∨ k = 1 ∨ k = 2 ∨ k = 3 ∨ k = 4 ∨ k = 5 ∨ k = 6 ∨ k = 7 := by (first | lia | omega)
  rcases this with rfl | rfl | rfl | rfl | rfl | rfl | rfl | rfl <;> decide
theorem size8 {k : Int} (h0 : 0 ≤ k) (h1 : k < 8) : Builtin.Range.rangeSize k 8 1 = ((8 - k).toNat : Int) := by
  have : k = 0 ∨ k = 1 ∨ k = 2 ∨ k = 3 ∨ k = 4 ∨ k = 5 ∨ k = 6 ∨ k = 7 := by (first | lia | omega)
  rcases this with rfl | rfl | rfl | rfl | rfl | rfl | rfl | rfl <;> decide
theorem getD_in {ns : List Int} (h : ∀ a ∈ ns, 0 ≤ a ∧ a < 64) (i : Nat) : 0 ≤ ns.getD i 0 ∧ ns.getD i 0 < 64 := by
  rw [List.getD_eq_getElem?_getD]
  cases e : ns[i]? with
  | none => decide
  | some a => exact h a (List.mem_of_getElem? e)
theorem pow_log {n : Nat} (h : n ≤ 1000) : ((2 : Int) ^ n).natAbs.log2 < 9000 := by
  rw [Int.natAbs_pow]
  show (2 ^ n).log2 < 9000
  rw [Nat.log2_two_pow]; (first | lia | omega)
theorem log_small {x : Int} (h : x.natAbs ≤ 100) : x.natAbs.log2 < 9000 := by
  by_cases h0 : x.natAbs = 0
  · rw [h0]; decide
  · have := (Nat.log2_lt h0).mpr (Nat.lt_of_le_of_lt h (by decide : 100 < 2 ^ 7))
    (first | lia | omega)
theorem any89 {k : Int} : ([8, 9].any fun x => x == k) = true ↔ k = 8 ∨ k = 9 := by
  simp only [List.any_cons, List.any_nil, Bool.or_false, Bool.or_eq_true, beq_iff_eq]; (first | lia | omega)
theorem any89n {k : Int} : ([8, 9].any fun x => x == k) = false ↔ k ≠ 8 ∧ k ≠ 9 := by
  simp only [List.any_cons, List.any_nil, Bool.or_false, Bool.or_eq_false_iff, beq_eq_false_iff_ne]; (first | lia | omega)
section
variable {ns ms : List Int} {p : Int}
theorem due8w (x : p.fmod 54 - 3 < 0) : dueF 8 ns ms p = .word (Str.ofString "shift") := if_pos x
theorem due8n (x : 0 ≤ p.fmod 54 - 3) : dueF 8 ns ms p = .row (rowF (ns.map fun a => a * 2 ^ (p.fmod 54 - 3).toNat)) := if_neg (Int.not_lt.mpr x)
theorem due9w (x : p.fmod 54 - 3 < 0) : dueF 9 ns ms p = .word (Str.ofString "shift") := if_pos x
theorem due9n (x : 0 ≤ p.fmod 54 - 3) : dueF 9 ns ms p = .row (rowF (partF (2 ^ (p.fmod 54 - 3).toNat) ns).1) := if_neg (Int.not_lt.mpr x)
theorem due10w (x : p.fmod 40 - 20 = 0) : dueF 10 ns ms p = .word (Str.ofString "nought") := if_pos x
theorem due10n (x : ¬ p.fmod 40 - 20 = 0) : dueF 10 ns ms p = .row (rowF (partF (p.fmod 40 - 20) ns).1) := if_neg x
theorem due11w (x : p.fmod 40 - 20 = 0) : dueF 11 ns ms p = .word (Str.ofString "nought") := if_pos x
theorem due11n (x : ¬ p.fmod 40 - 20 = 0) : dueF 11 ns ms p = .row (rowF ([0, 0, 0, 0, 0, 0, 0] ++ [(partF (p.fmod 40 - 20) ns).2])) := if_neg x
end
local macro_rules | `(tactic| k_room) => `(tactic| k_call_by "m_room" x x)
local macro_rules | `(tactic| walk_at "eval ListComp") => `(tactic| refine Mine.stop ?_)
local macro_rules | `(tactic| walk_at "call type:zip") => `(tactic| refine Mine.stop ?_)
local macro_rules | `(tactic| walk_at "call ref") => `(tactic| with_reducible refine Mine.stop_ref 263 ?_)
local macro_rules | `(tactic| walk_at "call ref") => `(tactic| with_reducible refine Mine.stop_ref 277 ?_)
local macro_rules | `(tactic| walk_at "call ref") => `(tactic| with_reducible refine Mine.stop_ref 282 ?_)
set_option maxHeartbeats 4000000 in
theorem due_tells {w : World} {loose mean mg mb base env outer} {A : Around} {s : Shared} (C : CanB w loose mean mg mb base env outer A s.heap) (hr : A.depth + 40 < recursionLimit) (hu : A.units + 200 < cLine) (hh : A.handled = none)
   {l : Addr} {vs : List Value} {ns : List Int} (hl : s.heap.IsList l vs.toArray) (hi : IntsAre vs ns) (hlen : ns.length = 8) {l2 : Addr} {vs2 : List Value} {ns2 : List Int} (hl2 : s.heap.IsList l2 vs2.toArray) (hi2 : IntsAre vs2 ns2) (hlen2 : ns2.length = 8)
   {kd p : Int} {t t3 : Tok} (hb1 : ∀ a ∈ ns, 0 ≤ a ∧ a < 64) (hb2 : ∀ a ∈ ns2, 0 ≤ a ∧ a < 64) (hk : 0 ≤ kd) (hk2 : kd < 13) (hp : 0 ≤ p) (hp2 : p < 10000) :
   wpAny (model pr w) A (call (.ref 287) [.int kd t, .ref l, .ref l2, .int p t3]) (Out s (RDue s.heap (dueF kd ns ns2 p))) NoE s := by
  obtain ⟨hd0, dp, fr, gd, un⟩ := A
  obtain rfl : hd0 = none := hh
  have hr0 : dp < recursionLimit := by simp only at hr; (first | lia | omega)
  have hsl : p.fmod 54 - 3 ≤ 50 := by have := Int.fmod_lt_of_pos p (b := 54) (by decide); (first | lia | omega)
  k_call_by "m_enterC" C [(Str.ofString "kind", Value.int kd t), (Str.ofString "one", Value.ref l), (Str.ofString "other", Value.ref l2), (Str.ofString "p", Value.int p t3)]
  obtain rfl : fr = some (env :: outer) := by assumption
  show wpAny _ _ _ _ _ _
  k_fold
  k_steps
  all_goals try (rename Fr _ _ _ _ => F1)
  all_goals try (rename News _ _ _ _ => N1)
  · refine Stop.go (comp_zipF F1 ns ns2 (fun a b => a + b) (by rw [List.length_zip, hlen, hlen2]; decide) rfl rfl (by decide) rfl (by decide) rfl rfl (by decide) ?_)
    k_steps
    rename Fr _ _ _ _ => F2
    rename News _ _ _ _ => N2
    refine Stop.go (call_zipRest rfl hl hi hl2 hi2 F2 N2 ?_ ?_)
    · intro C a b ta tb s₂ m₂ E' hC hns hma hmb F3 N3
      k_steps
      exact ⟨_, _, rfl, fun _ _ e => e⟩
    · intro D ys z h' tk' F3 N3 hne hys
      k_steps
      rename Fr _ _ _ _ => F4
      rename News _ _ _ _ => N4
      exact Stop.go (wpAny_mono (row_tells (by exact Mine.can_of) (by k_call_by "m_room" x x) (by k_call_by "m_room" x x) rfl (News.isList N4 (by k_mem)) hys (by rw [List.length_map, List.length_zip, hlen, hlen2]; rfl)) (fun v s' o => due_row (by (have q : kd = 0 := by ((try simp only [decide_eq_true_eq, beq_iff_eq] at *); (first | lia | omega))); rw [q]; rfl) F4 o) (fun _ _ e => e.elim))
  · refine Stop.go (comp_zipF F1 ns ns2 (fun a b => a - b) (by rw [List.length_zip, hlen, hlen2]; decide) rfl rfl (by decide) rfl (by decide) rfl rfl (by decide) ?_)
    k_steps
    rename Fr _ _ _ _ => F2
    rename News _ _ _ _ => N2
    refine Stop.go (call_zipRest rfl hl hi hl2 hi2 F2 N2 ?_ ?_)
    · intro C a b ta tb s₂ m₂ E' hC hns hma hmb F3 N3
      k_steps
      exact ⟨_, _, rfl, fun _ _ e => e⟩
    · intro D ys z h' tk' F3 N3 hne hys
      k_steps
      rename Fr _ _ _ _ => F4
      rename News _ _ _ _ => N4
      exact Stop.go (wpAny_mono (row_tells (by exact Mine.can_of) (by k_call_by "m_room" x x) (by k_call_by "m_room" x x) rfl (News.isList N4 (by k_mem)) hys (by rw [List.length_map, List.length_zip, hlen, hlen2]; rfl)) (fun v s' o => due_row (by (have q : kd = 1 := by ((try simp only [decide_eq_true_eq, beq_iff_eq] at *); (first | lia | omega))); rw [q]; rfl) F4 o) (fun _ _ e => e.elim))
  · refine Stop.go (comp_cellF F1 8 8 (fun k => ((rangeInts k 1 (8 - k).toNat).map fun i => ns.getD i.toNat 0 * ns2.getD (7 + k - i).toNat 0).sum) (by decide) (by decide) (by decide) rfl rfl rfl (by decide) (fun _ => rfl) (fun _ => rfl) (fun _ _ => rfl) ?_)
    k_steps
    rename Fr _ _ _ _ => F2
    rename News _ _ _ _ => N2
    refine ⟨_, _, _, _, _, rfl, by assumption, F2, N2, ?_, ?_⟩
    · intro I D C c k tk2 o oI oD oC s₂ E' o1 o2 o3 o4 o5 hk0 hk1 ho F3 N3
      clear F2 N2
      k_steps
      rename Fr _ _ _ _ => F4
      rename News _ _ _ _ => N4
      have hn8 : ((8 - k).toNat : Int) = 8 - k := Int.toNat_of_nonneg (by (first | lia | omega))
      refine Stop.go (comp_rangeF F4 (fun _ => true) (fun i => ns.getD i.toNat 0 * ns2.getD (7 + k - i).toNat 0) k 8 (8 - k).toNat (small8 hk0 (by (first | lia | omega))) (size8 hk0 (by (first | lia | omega))) (by rw [sizeLine_eq]; (first | lia | omega)) rfl rfl (by decide) rfl (by decide) rfl ?_)
      k_steps
      rename Fr _ _ _ _ => F5
      rename News _ _ _ _ => N5
      refine ⟨_, _, _, _, _, rfl, by assumption, F5, N5, ?_, ?_, ?_⟩
      · intro C2 i ti s₃ m₃ E3 hC3 hi0 hi1 hns3 hmi hkeep
        exact wpAny_pure ⟨rfl, _, _, rfl, fun _ _ e => e⟩
      · intro C2 i ti s₃ m₃ E3 hC3 hi0 hi1 _ hns3 hmi hkeep
        rw [hn8] at hi1
        have hb3 := getD_in hb1 i.toNat
        have hb4 := getD_in hb2 (7 + k - i).toNat
        k_steps
        exact ⟨_, _, rfl, fun _ _ e => e⟩
      · intro D2 ys z h' tk' F6 N6 hne hys
        rw [List.filter_eq_self.mpr fun _ _ => rfl] at hys
        k_steps
        rename Fr _ _ _ _ => F7
        rename News _ _ _ _ => N7
        refine ⟨⟨_, rfl⟩, _, _, rfl, F7, fun q hq => ?_⟩
        first | exact N7 q hq | exact N7 q (.tail _ hq) | exact N7 q (.tail _ (.tail _ hq)) | exact N7 q (.tail _ (.tail _ (.tail _ hq)))
    · intro D ys z h' tk' F3 N3 hne hys
      k_steps
      rename Fr _ _ _ _ => F4
      rename News _ _ _ _ => N4
      exact Stop.go (wpAny_mono (row_tells (by exact Mine.can_of) (by k_call_by "m_room" x x) (by k_call_by "m_room" x x) rfl (News.isList N4 (by k_mem)) hys (by rw [List.length_map, rangeInts_length])) (fun v s' o => due_row (by rw [show kd = 2 from by assumption]; rfl) F4 o) (fun _ _ e => e.elim))
  · exact Stop.go (wpAny_mono (bits_tells (by exact Mine.can_of) (by k_call_by "m_room" x x) rfl (hl.at fun o e => F1.keep l o e) hi hlen (hl2.at fun o e => F1.keep l2 o e) hi2 hlen2 (News.isTup N1 (by k_mem)) (.cons _ _ .nil)) (fun v s' o => due_row (by (have q : kd = 3 := by ((try simp only [decide_eq_true_eq, beq_iff_eq] at *); (first | lia | omega))); rw [q]; rfl) F1 o) (fun _ _ e => e.elim))
  · exact Stop.go (wpAny_mono (bits_tells (by exact Mine.can_of) (by k_call_by "m_room" x x) rfl (hl.at fun o e => F1.keep l o e) hi hlen (hl2.at fun o e => F1.keep l2 o e) hi2 hlen2 (News.isTup N1 (by k_mem)) (.cons _ _ (.cons _ _ .nil))) (fun v s' o => due_row (by (have q : kd = 4 := by ((try simp only [decide_eq_true_eq, beq_iff_eq] at *); (first | lia | omega))); rw [q]; rfl) F1 o) (fun _ _ e => e.elim))
  · exact Stop.go (wpAny_mono (bits_tells (by exact Mine.can_of) (by k_call_by "m_room" x x) rfl (hl.at fun o e => F1.keep l o e) hi hlen (hl2.at fun o e => F1.keep l2 o e) hi2 hlen2 (News.isTup N1 (by k_mem)) (.cons _ _ .nil)) (fun v s' o => due_row (by (have q : kd = 5 := by ((try simp only [decide_eq_true_eq, beq_iff_eq] at *); (first | lia | omega))); rw [q]; rfl) F1 o) (fun _ _ e => e.elim))
  · refine Stop.go (comp_listF F1 ns (fun a => 63 - a) (by rw [hlen]; decide) rfl rfl (by decide) rfl (by decide) rfl ?_)
    k_steps
    rename Fr _ _ _ _ => F2
    rename News _ _ _ _ => N2
    refine ⟨_, _, _, rfl, hl.at fun o e => F2.keep l o e, hi, F2, N2, ?_, ?_⟩
    · intro C a ta s₂ m₂ E' hC hmem hns hma hkeep
      k_steps
      exact ⟨_, _, rfl, fun _ _ e => e⟩
    · intro D ys z h' tk' F3 N3 hne hys
      k_steps
      rename Fr _ _ _ _ => F4
      rename News _ _ _ _ => N4
      exact due_list (by (have q : kd = 6 := by ((try simp only [decide_eq_true_eq, beq_iff_eq] at *); (first | lia | omega))); rw [q]; rfl) F4 N4 (by k_mem) hys
  · refine Stop.go (comp_listF F1 ns (fun a => -a) (by rw [hlen]; decide) rfl rfl (by decide) rfl (by decide) rfl ?_)
    k_steps
    rename Fr _ _ _ _ => F2
    rename News _ _ _ _ => N2
    refine ⟨_, _, _, rfl, hl.at fun o e => F2.keep l o e, hi, F2, N2, ?_, ?_⟩
    · intro C a ta s₂ m₂ E' hC hmem hns hma hkeep
      k_steps
      exact ⟨_, _, rfl, fun _ _ e => e⟩
    · intro D ys z h' tk' F3 N3 hne hys
      k_steps
      rename Fr _ _ _ _ => F4
      rename News _ _ _ _ => N4
      exact Stop.go (wpAny_mono (row_tells (by exact Mine.can_of) (by k_call_by "m_room" x x) (by k_call_by "m_room" x x) rfl (News.isList N4 (by k_mem)) hys (by rw [List.length_map, hlen])) (fun v s' o => due_row (by (have q : kd = 7 := by ((try simp only [decide_eq_true_eq, beq_iff_eq] at *); (first | lia | omega))); rw [q]; rfl) F4 o) (fun _ _ e => e.elim))
  · rename IntsAre (List.flatten _) _ => hz
    exact Stop.go (wpAny_mono (row_tells (by exact Mine.can_of) (by k_call_by "m_room" x x) (by k_call_by "m_room" x x) rfl (News.isList N1 (by k_mem)) (hz.append (.cons ((p - 4000) ^ Int.toNat 3 * 997) _ .nil)) rfl) (fun v s' o => due_row (by (have q : kd = 12 := by ((try simp only [decide_eq_true_eq, beq_iff_eq] at *); (first | lia | omega))); rw [q]; rfl) F1 o) (fun _ _ e => e.elim))
  · rename (List.any _ _) = true => ha
    rcases any89.mp ha with q | q
    · exact due_word (by rw [q]; exact due8w (by assumption)) (by assumption)
    · exact due_word (by rw [q]; exact due9w (by assumption)) (by assumption)
  · have h00 : 0 ≤ p.fmod 54 - 3 := (by (first | lia | omega))
    refine Stop.go (comp_listF F1 ns (fun a => a * 2 ^ (p.fmod 54 - 3).toNat) (by rw [hlen]; decide) rfl rfl (by decide) rfl (by decide) rfl ?_)
    k_steps
    rename Fr _ _ _ _ => F2
    rename News _ _ _ _ => N2
    refine ⟨_, _, _, rfl, hl.at fun o e => F2.keep l o e, hi, F2, N2, ?_, ?_⟩
    · intro C a ta s₂ m₂ E' hC hmem hns hma hkeep
      have hb := hb1 a hmem
      k_steps
      exact ⟨_, _, rfl, fun _ _ e => e⟩
    · intro D ys z h' tk' F3 N3 hne hys
      k_steps
      rename Fr _ _ _ _ => F4
      rename News _ _ _ _ => N4
      exact Stop.go (wpAny_mono (row_tells (by exact Mine.can_of) (by k_call_by "m_room" x x) (by k_call_by "m_room" x x) rfl (News.isList N4 (by k_mem)) hys (by rw [List.length_map, hlen])) (fun v s' o => due_row (by rw [show kd = 8 from by assumption]; exact due8n (by (first | lia | omega))) F4 o) (fun _ _ e => e.elim))
  · refine Stop.go (use_pair F1 N1 (parts_tells (by exact Mine.can_of) (by k_call_by "m_room" x x) (by k_call_by "m_room" x x) rfl (hl.at fun o e => F1.keep l o e) hi hlen (Int.ne_of_gt (Int.pow_pos (by decide))) (pow_log (by (first | lia | omega)))) ?_)
    intro T la lb va na vb nb h' tk' ia ib F2 N2
    k_steps
    exact due_list (by rw [show kd = 9 from by assumption]; exact due9n (by (first | lia | omega))) (by assumption) (by assumption) (by k_mem) ia
  · exfalso; rename (List.any _ _) = true => ha; have := any89.mp ha; (first | lia | omega)
  · exfalso; rename (List.any _ _) = true => ha; have := any89.mp ha; (first | lia | omega)
  all_goals (try (exfalso; rename (List.any _ _) = false => ha; have := any89n.mp ha; (first | lia | omega)))
  · rcases (show kd = 10 ∨ kd = 11 by rename (List.any _ _) = false => ha; have := any89n.mp ha; (first | lia | omega)) with q | q
    · exact due_word (by rw [q]; exact due10w (by assumption)) (by assumption)
    · exact due_word (by rw [q]; exact due11w (by assumption)) (by assumption)
  · have hdb : (p.fmod 40 - 20).natAbs.log2 < 9000 := by
      have h1 := Int.fmod_lt_of_pos p (b := 40) (by decide)
      have h2 := Int.fmod_nonneg_of_pos p (b := 40) (by decide)
      exact log_small (by (first | lia | omega))
    rcases (show kd = 10 ∨ kd = 11 by rename (List.any _ _) = false => ha; have := any89n.mp ha; (first | lia | omega)) with q | q
    · subst q
      refine Stop.go (use_pair F1 N1 (parts_tells (by exact Mine.can_of) (by k_call_by "m_room" x x) (by k_call_by "m_room" x x) rfl (hl.at fun o e => F1.keep l o e) hi hlen (by assumption) hdb) ?_)
      intro T la lb va na vb nb h' tk' ia ib F2 N2
      k_steps
      exact due_list (due10n (by assumption)) (by assumption) (by assumption) (by k_mem) ia
    · subst q
      refine Stop.go (use_pair F1 N1 (parts_tells (by exact Mine.can_of) (by k_call_by "m_room" x x) (by k_call_by "m_room" x x) rfl (hl.at fun o e => F1.keep l o e) hi hlen (by assumption) hdb) ?_)
      intro T la lb va na vb nb h' tk' ia ib F2 N2
      k_steps
      exact due_list (due11n (by assumption)) (by assumption) (by assumption) (by k_mem) ib
end Mine
end
-- M4
section
set_option linter.all false
namespace Mine
/-- a row's number, highest figure first; lowest first -/
noncomputable def val (ns : List Int) : Int := ns.foldl (fun a d => a * 64 + d) 0
noncomputable def lval : List Int → Int
  | [] => 0
  | d :: r => d + 64 * lval r
noncomputable def rowG' (c : List Int × Int) (v : Int) : List Int × Int := (c.1 ++ [Int.fmod (v + c.2) 64], Int.fdiv (v + c.2) 64)
theorem lval_snoc : ∀ (l : List Int) (d : Int), lval (l ++ [d]) = lval l + 64 ^ l.length * d
  | [], d => by simp [lval]
  | x :: r, d => by
    have := lval_snoc r d
    simp only [List.cons_append, lval, this, List.length_cons]
    rw [Int.pow_succ, Int.mul_add, Int.mul_comm (64 ^ r.length) 64, Int.mul_assoc]
    lia
theorem val_acc : ∀ (l : List Int) (a : Int), l.foldl (fun a d => a * 64 + d) a = a * 64 ^ l.length + lval l.reverse
  | [], a => by simp [lval]
  | x :: r, a => by
    rw [List.foldl_cons, val_acc r, List.reverse_cons, lval_snoc, List.length_reverse, List.length_cons, Int.pow_succ, Int.add_mul, Int.mul_assoc a 64, Int.mul_comm (64 ^ r.length) 64, Int.mul_comm (64 ^ r.length) x]
    lia
theorem val_rev (l : List Int) : val l = lval l.reverse := by
  have := val_acc l 0
  unfold val
  lia
theorem row_inv : ∀ (p : List Int) (c : List Int × Int) (q : List Int), (∀ d ∈ c.1, 0 ≤ d ∧ d < 64) → c.1.length = q.length → lval c.1 + 64 ^ c.1.length * c.2 = lval q →
    (∀ d ∈ (p.foldl rowG' c).1, 0 ≤ d ∧ d < 64) ∧ (p.foldl rowG' c).1.length = q.length + p.length ∧ lval (p.foldl rowG' c).1 + 64 ^ (p.foldl rowG' c).1.length * (p.foldl rowG' c).2 = lval (q ++ p)
  | [], c, q, h1, h2, h3 => by simpa using ⟨h1, h2, h3⟩
  | v :: r, c, q, h1, h2, h3 => by
    have hm : Int.fmod (v + c.2) 64 = (v + c.2) % 64 := fmod_pos (by decide)
    have hd : Int.fdiv (v + c.2) 64 = (v + c.2) / 64 := fdiv_pos (by decide)
    have := row_inv r (rowG' c v) (q ++ [v]) (by
      intro d hd
      rcases List.mem_append.mp hd with h | h
      · exact h1 d h
      · rw [List.mem_singleton.mp h, hm]; lia) (by simp [rowG', h2]) (by
      simp only [rowG', lval_snoc, List.length_append, List.length_cons, List.length_nil, hm, hd]
      rw [← h3, ← h2, Int.pow_succ, Int.mul_assoc]
      have e : v + c.2 = (v + c.2) % 64 + 64 * ((v + c.2) / 64) := by lia
      have e2 : 64 ^ c.1.length * (v + c.2) = 64 ^ c.1.length * ((v + c.2) % 64) + 64 ^ c.1.length * (64 * ((v + c.2) / 64)) := by rw [← Int.mul_add, ← e]
      rw [Int.mul_add] at e2
      lia)
    obtain ⟨a, b, c'⟩ := this
    refine ⟨a, ?_, ?_⟩
    · rw [List.foldl_cons, b]; simp; lia
    · rw [List.foldl_cons, c', List.append_assoc]; rfl
theorem lval_in : ∀ (l : List Int), (∀ d ∈ l, 0 ≤ d ∧ d < 64) → 0 ≤ lval l ∧ lval l < 64 ^ l.length
  | [], _ => by simp [lval]
  | d :: r, h => by
    have h1 := h d (.head _)
    have h2 := lval_in r fun x hx => h x (.tail _ hx)
    simp only [lval, List.length_cons, Int.pow_succ]
    lia
noncomputable def rowF' (ns : List Int) : List Int := (ns.reverse.foldl rowG' ([], 0)).1.reverse
/-- carrying out: the figures of the number modulo 64 ^ length -/
theorem rowF_spec (ns : List Int) : (∀ d ∈ rowF' ns, 0 ≤ d ∧ d < 64) ∧ (rowF' ns).length = ns.length ∧ val (rowF' ns) = val ns % 64 ^ ns.length := by
  obtain ⟨a, b, c⟩ := row_inv ns.reverse ([], 0) [] (fun _ h => nomatch h) rfl (by simp [lval])
  have hl : (ns.reverse.foldl rowG' ([], 0)).1.length = ns.length := by rw [b]; simp
  refine ⟨fun d hd => a d (List.mem_reverse.mp hd), by simp only [rowF', List.length_reverse, hl], ?_⟩
  have hin := lval_in _ a
  rw [List.nil_append, hl] at c
  rw [hl] at hin
  rw [val_rev, val_rev ns, rowF', List.reverse_reverse, ← c]
  rw [Int.add_mul_emod_self_left]
  exact (Int.emod_eq_of_lt hin.1 hin.2).symm
/-- two rows of figures of one number are one row -/
theorem lval_inj : ∀ (l r : List Int), l.length = r.length → (∀ d ∈ l, 0 ≤ d ∧ d < 64) → (∀ d ∈ r, 0 ≤ d ∧ d < 64) → lval l = lval r → l = r
  | [], [], _, _, _, _ => rfl
  | [], _ :: _, h, _, _, _ => by cases h
  | _ :: _, [], h, _, _, _ => by cases h
  | x :: l, y :: r, h, h1, h2, e => by
    have a := h1 x (.head _)
    have b := h2 y (.head _)
    simp only [lval] at e
    have e1 : x = y := by lia
    have e2 : lval l = lval r := by lia
    rw [e1, lval_inj l r (by simpa using h) (fun d hd => h1 d (.tail _ hd)) (fun d hd => h2 d (.tail _ hd)) e2]
theorem val_inj {l r : List Int} (h : l.length = r.length) (h1 : ∀ d ∈ l, 0 ≤ d ∧ d < 64) (h2 : ∀ d ∈ r, 0 ≤ d ∧ d < 64) (e : val l = val r) : l = r := by
  rw [val_rev, val_rev] at e
  have := lval_inj l.reverse r.reverse (by simpa using h) (fun d hd => h1 d (List.mem_reverse.mp hd)) (fun d hd => h2 d (List.mem_reverse.mp hd)) e
  exact List.reverse_inj.mp this
end Mine
end
-- M5
section
set_option linter.all false
namespace Mine
noncomputable def partG' (d : Int) (c : List Int × Int) (v : Int) : List Int × Int := (c.1 ++ [(c.2 * 64 + v).fdiv d], (c.2 * 64 + v).fmod d)
theorem val_snoc (l : List Int) (d : Int) : val (l ++ [d]) = val l * 64 + d := by
  unfold val
  rw [List.foldl_append]; rfl
theorem div_eq (a d : Int) : a = d * a.fdiv d + a.fmod d := by
  have := Int.mul_fdiv_add_fmod a d
  (first | lia | omega)
theorem fmod_again (a d : Int) : (a.fmod d).fmod d = a.fmod d := Int.fmod_fmod ..
/-- long division, figure by figure -/
theorem part_inv {d : Int} (hd : d ≠ 0) : ∀ (p : List Int) (c : List Int × Int) (q : List Int), val q = d * val c.1 + c.2 → c.2.fmod d = c.2 →
    val (q ++ p) = d * val (p.foldl (partG' d) c).1 + (p.foldl (partG' d) c).2 ∧ (p.foldl (partG' d) c).2.fmod d = (p.foldl (partG' d) c).2
  | [], c, q, h1, h2 => by simpa using ⟨h1, h2⟩
  | v :: r, c, q, h1, h2 => by
    have := part_inv hd r (partG' d c v) (q ++ [v]) (by
      simp only [partG', val_snoc, h1]
      have e := div_eq (c.2 * 64 + v) d
      generalize (c.2 * 64 + v).fdiv d = x at *
      generalize (c.2 * 64 + v).fmod d = y at *
      rw [Int.mul_add, Int.add_mul, ← Int.mul_assoc]
      (first | lia | omega)) (fmod_again _ _)
    rw [List.append_assoc] at this
    exact this
theorem fmod_of {a d q r : Int} (h : a = d * q + r) (hr : r.fmod d = r) : a.fmod d = r := by
  rw [h, Int.add_comm, Int.add_mul_fmod_self_left, hr]
theorem fdiv_of {a d q r : Int} (hd : d ≠ 0) (h : a = d * q + r) (hr : r.fmod d = r) : a.fdiv d = q := by
  have h1 := div_eq a d
  rw [fmod_of h hr] at h1
  have h2 : d * (a.fdiv d - q) = 0 := by rw [Int.mul_sub]; (first | lia | omega)
  rcases Int.mul_eq_zero.mp h2 with h3 | h3
  · exact absurd h3 hd
  · (first | lia | omega)
theorem part_spec {d : Int} (hd : d ≠ 0) (p : List Int) : val (p.foldl (partG' d) ([], 0)).1 = (val p).fdiv d ∧ (p.foldl (partG' d) ([], 0)).2 = (val p).fmod d := by
  have hz : (0 : Int).fmod d = 0 := Int.zero_fmod d
  obtain ⟨h1, h2⟩ := part_inv hd p ([], 0) [] (by simp [val]) hz
  rw [List.nil_append] at h1
  exact ⟨(fdiv_of hd h1 h2).symm, (fmod_of h1 h2).symm⟩
/-- the row read as a signed number -/
noncomputable def signF' (ns : List Int) : List Int := [(ns.getD (Int.toNat 0) 0 + 32).fmod 64 - 32] ++ ns.drop 1
noncomputable def sgn (v : Int) : Int := if v < 140737488355328 then v else v - 281474976710656
theorem val_cons (d : Int) (r : List Int) : val (d :: r) = d * 64 ^ r.length + val r := by
  rw [val_rev, val_rev r, List.reverse_cons, lval_snoc, List.length_reverse, Int.mul_comm]; (first | lia | omega)
theorem val_in {l : List Int} (h : ∀ d ∈ l, 0 ≤ d ∧ d < 64) : 0 ≤ val l ∧ val l < 64 ^ l.length := by
  rw [val_rev]
  have := lval_in l.reverse fun d hd => h d (List.mem_reverse.mp hd)
  rwa [List.length_reverse] at this
theorem sign_val {ns : List Int} (hl : ns.length = 8) (h : ∀ d ∈ ns, 0 ≤ d ∧ d < 64) : val (signF' ns) = sgn (val ns) := by
  obtain ⟨d, r, rfl⟩ : ∃ d r, ns = d :: r := by
    cases ns with
    | nil => cases hl
    | cons d r => exact ⟨d, r, rfl⟩
  have hr : r.length = 7 := by simpa using hl
  have hd := h d (.head _)
  have hv := val_in (l := r) fun x hx => h x (.tail _ hx)
  rw [hr] at hv
  have e : signF' (d :: r) = ((d + 32).fmod 64 - 32) :: r := rfl
  have hm : (d + 32).fmod 64 = (d + 32) % 64 := fmod_pos (by decide)
  rw [e, val_cons, val_cons, hr, hm]
  have e7 : (64 : Int) ^ 7 = 4398046511104 := by decide
  rw [e7] at hv ⊢
  unfold sgn
  split <;> (first | lia | omega)
end Mine
end
-- M6
section
set_option linter.all false
namespace Mine
noncomputable def lexB' (f : Int → Int → Bool) (d : Bool) : List Int → List Int → Bool
  | x :: xs, y :: ys => if x = y then lexB' f d xs ys else f x y
  | _, _ => d
theorem val_lt {x y : Int} {l r : List Int} (hl : l.length = r.length) (h1 : ∀ d ∈ l, 0 ≤ d ∧ d < 64) (h2 : ∀ d ∈ r, 0 ≤ d ∧ d < 64) (h : x < y) : val (x :: l) < val (y :: r) := by
  have a := val_in h1
  have b := val_in h2
  rw [val_cons, val_cons, hl]
  rw [hl] at a
  have hp : (0 : Int) < 64 ^ r.length := Int.pow_pos (by decide)
  have e : (x + 1) * 64 ^ r.length ≤ y * 64 ^ r.length := Int.mul_le_mul_of_nonneg_right (by (first | lia | omega)) (Int.le_of_lt hp)
  rw [Int.add_mul, Int.one_mul] at e
  (first | lia | omega)
theorem lex_lt : ∀ (l r : List Int), l.length = r.length → (∀ d ∈ l.drop 1, 0 ≤ d ∧ d < 64) → (∀ d ∈ r.drop 1, 0 ≤ d ∧ d < 64) → lexB' (fun a b => decide (a < b)) false l r = decide (val l < val r)
  | [], [], _, _, _ => by simp [lexB', val]
  | [], _ :: _, h, _, _ => by cases h
  | _ :: _, [], h, _, _ => by cases h
  | x :: l, y :: r, h, h1, h2 => by
    have hl : l.length = r.length := by simpa using h
    simp only [List.drop_succ_cons, List.drop_zero] at h1 h2
    unfold lexB'
    split
    · rename_i e
      subst e
      rw [lex_lt l r hl (fun d hd => h1 d (List.mem_of_mem_drop hd)) (fun d hd => h2 d (List.mem_of_mem_drop hd)), val_cons, val_cons, hl]
      have : (val l < val r) ↔ (x * 64 ^ r.length + val l < x * 64 ^ r.length + val r) := by (first | lia | omega)
      simp only [this]
    · rename_i e
      have a : x < y → val (x :: l) < val (y :: r) := val_lt hl h1 h2
      have b : y < x → val (y :: r) < val (x :: l) := val_lt hl.symm h2 h1
      have : (x < y) ↔ (val (x :: l) < val (y :: r)) := by
        rcases Int.lt_or_gt_of_ne e with c | c
        · have := a c; (first | lia | omega)
        · have := b c; (first | lia | omega)
      simp only [this]
theorem lex_le : ∀ (l r : List Int), l.length = r.length → (∀ d ∈ l.drop 1, 0 ≤ d ∧ d < 64) → (∀ d ∈ r.drop 1, 0 ≤ d ∧ d < 64) → lexB' (fun a b => decide (a ≤ b)) true l r = decide (val l ≤ val r)
  | [], [], _, _, _ => by simp [lexB', val]
  | [], _ :: _, h, _, _ => by cases h
  | _ :: _, [], h, _, _ => by cases h
  | x :: l, y :: r, h, h1, h2 => by
    have hl : l.length = r.length := by simpa using h
    simp only [List.drop_succ_cons, List.drop_zero] at h1 h2
    unfold lexB'
    split
    · rename_i e
      subst e
      rw [lex_le l r hl (fun d hd => h1 d (List.mem_of_mem_drop hd)) (fun d hd => h2 d (List.mem_of_mem_drop hd)), val_cons, val_cons, hl]
      have : (val l ≤ val r) ↔ (x * 64 ^ r.length + val l ≤ x * 64 ^ r.length + val r) := by (first | lia | omega)
      simp only [this]
    · rename_i e
      have a : x < y → val (x :: l) < val (y :: r) := val_lt hl h1 h2
      have b : y < x → val (y :: r) < val (x :: l) := val_lt hl.symm h2 h1
      have : (x ≤ y) ↔ (val (x :: l) ≤ val (y :: r)) := by
        rcases Int.lt_or_gt_of_ne e with c | c
        · have := a c; (first | lia | omega)
        · have := b c; (first | lia | omega)
      simp only [this]
theorem lex_gt : ∀ (l r : List Int), l.length = r.length → (∀ d ∈ l.drop 1, 0 ≤ d ∧ d < 64) → (∀ d ∈ r.drop 1, 0 ≤ d ∧ d < 64) → lexB' (fun a b => decide (a > b)) false l r = decide (val l > val r)
  | [], [], _, _, _ => by simp [lexB', val]
  | [], _ :: _, h, _, _ => by cases h
  | _ :: _, [], h, _, _ => by cases h
  | x :: l, y :: r, h, h1, h2 => by
    have hl : l.length = r.length := by simpa using h
    simp only [List.drop_succ_cons, List.drop_zero] at h1 h2
    unfold lexB'
    split
    · rename_i e
      subst e
      rw [lex_gt l r hl (fun d hd => h1 d (List.mem_of_mem_drop hd)) (fun d hd => h2 d (List.mem_of_mem_drop hd)), val_cons, val_cons, hl]
      have : (val l > val r) ↔ (x * 64 ^ r.length + val l > x * 64 ^ r.length + val r) := by (first | lia | omega)
      simp only [this]
    · rename_i e
      have a : x < y → val (x :: l) < val (y :: r) := val_lt hl h1 h2
      have b : y < x → val (y :: r) < val (x :: l) := val_lt hl.symm h2 h1
      have : (x > y) ↔ (val (x :: l) > val (y :: r)) := by
        rcases Int.lt_or_gt_of_ne e with c | c
        · have := a c; (first | lia | omega)
        · have := b c; (first | lia | omega)
      simp only [this]
theorem lex_ge : ∀ (l r : List Int), l.length = r.length → (∀ d ∈ l.drop 1, 0 ≤ d ∧ d < 64) → (∀ d ∈ r.drop 1, 0 ≤ d ∧ d < 64) → lexB' (fun a b => decide (a ≥ b)) true l r = decide (val l ≥ val r)
  | [], [], _, _, _ => by simp [lexB', val]
  | [], _ :: _, h, _, _ => by cases h
  | _ :: _, [], h, _, _ => by cases h
  | x :: l, y :: r, h, h1, h2 => by
    have hl : l.length = r.length := by simpa using h
    simp only [List.drop_succ_cons, List.drop_zero] at h1 h2
    unfold lexB'
    split
    · rename_i e
      subst e
      rw [lex_ge l r hl (fun d hd => h1 d (List.mem_of_mem_drop hd)) (fun d hd => h2 d (List.mem_of_mem_drop hd)), val_cons, val_cons, hl]
      have : (val l ≥ val r) ↔ (x * 64 ^ r.length + val l ≥ x * 64 ^ r.length + val r) := by (first | lia | omega)
      simp only [this]
    · rename_i e
      have a : x < y → val (x :: l) < val (y :: r) := val_lt hl h1 h2
      have b : y < x → val (y :: r) < val (x :: l) := val_lt hl.symm h2 h1
      have : (x ≥ y) ↔ (val (x :: l) ≥ val (y :: r)) := by
        rcases Int.lt_or_gt_of_ne e with c | c
        · have := a c; (first | lia | omega)
        · have := b c; (first | lia | omega)
      simp only [this]
theorem val_injS : ∀ (l r : List Int), l.length = r.length → (∀ d ∈ l.drop 1, 0 ≤ d ∧ d < 64) → (∀ d ∈ r.drop 1, 0 ≤ d ∧ d < 64) → val l = val r → l = r
  | [], [], _, _, _, _ => rfl
  | [], _ :: _, h, _, _, _ => by cases h
  | _ :: _, [], h, _, _, _ => by cases h
  | x :: l, y :: r, h, h1, h2, e => by
    have hl : l.length = r.length := by simpa using h
    simp only [List.drop_succ_cons, List.drop_zero] at h1 h2
    have hxy : x = y := by
      rcases Int.lt_trichotomy x y with c | c | c
      · have := val_lt hl h1 h2 c; (first | lia | omega)
      · exact c
      · have := val_lt hl.symm h2 h1 c; (first | lia | omega)
    subst hxy
    rw [val_cons, val_cons, hl] at e
    rw [val_inj hl h1 h2 (by (first | lia | omega))]
theorem sgn_inj {a b : Int} (h0 : 0 ≤ a) (h1 : a < 281474976710656) (g0 : 0 ≤ b) (g1 : b < 281474976710656) (h : sgn a = sgn b) : a = b := by
  unfold sgn at h
  split at h <;> split at h <;> (first | lia | omega)
/-- the seven answers of the two sides -/
noncomputable def heldT' (n m : Int) : List Bool := [decide (n < m), decide (n ≤ m), n == m, n != m, decide (m ≤ n), decide (m < n), decide (n ≠ 0)]
noncomputable def heldD' (ns ms : List Int) : List Bool := [lexB' (fun a b => decide (a < b)) false (signF' ns) (signF' ms), lexB' (fun a b => decide (a ≤ b)) true (signF' ns) (signF' ms), decide (signF' ns = signF' ms), !decide (signF' ns = signF' ms),
  lexB' (fun a b => decide (a ≥ b)) true (signF' ns) (signF' ms), lexB' (fun a b => decide (a > b)) false (signF' ns) (signF' ms), !decide (ns = (List.replicate (Int.toNat 8) [0]).flatten)]
theorem signF_len' {ns : List Int} (h : ns.length = 8) : (signF' ns).length = 8 := by simp [signF', h]
theorem signF_tail {ns : List Int} (h : ∀ d ∈ ns, 0 ≤ d ∧ d < 64) : ∀ d ∈ (signF' ns).drop 1, 0 ≤ d ∧ d < 64 := fun d hd => h d (List.mem_of_mem_drop (show d ∈ ns.drop 1 from hd))
theorem held_ok {ns ms : List Int} (h1 : ns.length = 8) (h2 : ms.length = 8) (a : ∀ d ∈ ns, 0 ≤ d ∧ d < 64) (b : ∀ d ∈ ms, 0 ≤ d ∧ d < 64) : heldT' (sgn (val ns)) (sgn (val ms)) = heldD' ns ms := by
  have l8 : (signF' ns).length = (signF' ms).length := by rw [signF_len' h1, signF_len' h2]
  have ta := signF_tail a
  have tb := signF_tail b
  have e64 : (64 : Int) ^ 8 = 281474976710656 := by decide
  have va := val_in a
  have vb := val_in b
  rw [h1, e64] at va
  rw [h2, e64] at vb
  unfold heldT' heldD'
  rw [lex_lt _ _ l8 ta tb, lex_le _ _ l8 ta tb, lex_gt _ _ l8 ta tb, lex_ge _ _ l8 ta tb, sign_val h1 a, sign_val h2 b]
  have he : (signF' ns = signF' ms) ↔ (sgn (val ns) = sgn (val ms)) := by
    constructor
    · intro h; rw [← sign_val h1 a, ← sign_val h2 b, h]
    · intro h; exact val_injS _ _ l8 ta tb (by rw [sign_val h1 a, sign_val h2 b, h])
  have h0 : (ns = (List.replicate (Int.toNat 8) [0]).flatten) ↔ (sgn (val ns) = 0) := by
    constructor
    · intro h; rw [h]; decide
    · intro h
      refine val_inj (by rw [h1]; rfl) a (by decide) ?_
      have z : val ((List.replicate (Int.toNat 8) [0]).flatten) = 0 := by decide
      rw [z]
      unfold sgn at h
      split at h <;> (first | lia | omega)
  have z : decide (sgn (val ns) ≠ 0) = !decide (sgn (val ns) = 0) := by simp
  simp only [he, h0, z]
  rfl
end Mine
end
-- M3
section
namespace Mine
/-- the part of a2bG's state that the answer hangs on -/
noncomputable def a2bP (c : List Int × Int × Int × Int) : List Int × Int × Int := (c.1, c.2.1, c.2.2.1)
theorem a2bP_skip {c : List Int × Int × Int × Int} {k : Int} (h : 64 ≤ b64v k) : a2bP (a2bG c k) = a2bP c := by
  obtain ⟨r, q, l, i⟩ := c
  rw [a2bG_s h]; rfl
theorem a2bP_step (c d : List Int × Int × Int × Int) (k : Int) (h : a2bP c = a2bP d) : a2bP (a2bG c k) = a2bP (a2bG d k) := by
  obtain ⟨r, q, l, i⟩ := c
  obtain ⟨r', q', l', i'⟩ := d
  simp only [a2bP, Prod.mk.injEq] at h
  obtain ⟨rfl, rfl, rfl⟩ := h
  unfold a2bG
  split
  · rfl
  · dsimp only
    (repeat' split) <;> rfl
theorem a2bP_fold : ∀ (ks : List Int) (c d), a2bP c = a2bP d → a2bP (ks.foldl a2bG c) = a2bP (ks.foldl a2bG d)
  | [], _, _, h => h
  | k :: r, c, d, h => a2bP_fold r _ _ (a2bP_step c d k h)
theorem a2bP_strewn (A B : List Int) {z : Int} (hz : 64 ≤ b64v z) (c) : a2bP ((A ++ [z] ++ B).foldl a2bG c) = a2bP ((A ++ B).foldl a2bG c) := by
  rw [List.foldl_append, List.foldl_append, List.foldl_append]
  exact a2bP_fold B _ _ (a2bP_skip hz)
theorem a2b_quad : ∀ (ks : List Int) (c : List Int × Int × Int × Int), (∀ k ∈ ks, b64v k < 64) → 0 ≤ c.2.1 → c.2.1 < 4 → (ks.foldl a2bG c).2.1 = (c.2.1 + ks.length) % 4
  | [], c, _, h0, h1 => by show c.2.1 = (c.2.1 + ((0 : Nat) : Int)) % 4; lia
  | k :: r, c, h, h0, h1 => by
    have hk : ¬ 64 ≤ b64v k := by have := h k (.head _); lia
    obtain ⟨ro, q, l, i⟩ := c
    simp only at h0 h1
    have hs : (a2bG (ro, q, l, i) k).2.1 = (q + 1) % 4 := by
      by_cases q0 : q = 0
      · rw [a2bG_a hk q0, q0]; rfl
      by_cases q1 : q = 1
      · rw [a2bG_b hk q0 q1, q1]; rfl
      by_cases q2 : q = 2
      · rw [a2bG_c hk q0 q1 q2, q2]; rfl
      obtain rfl : q = 3 := by lia
      rw [a2bG_d hk q0 q1 q2]; rfl
    have := a2b_quad r (a2bG (ro, q, l, i) k) (fun j hj => h j (.tail _ hj)) (by rw [hs]; lia) (by rw [hs]; lia)
    rw [List.foldl_cons, this, hs, List.length_cons]
    show ((q + 1) % 4 + (r.length : Int)) % 4 = (q + ((r.length + 1 : Nat) : Int)) % 4
    lia
theorem a2b_out : ∀ (ks : List Int) (c : List Int × Int × Int × Int), (∀ k ∈ ks, b64v k < 64) → 0 ≤ c.2.1 → c.2.1 < 4 →
    4 * ((ks.foldl a2bG c).1.length : Int) - (if (ks.foldl a2bG c).2.1 = 0 then 0 else (ks.foldl a2bG c).2.1 - 4) = 4 * (c.1.length : Int) - (if c.2.1 = 0 then 0 else c.2.1 - 4) + 3 * ks.length
  | [], c, _, h0, h1 => by rw [List.foldl_nil, List.length_nil]; lia
  | k :: r, c, h, h0, h1 => by
    have hk : ¬ 64 ≤ b64v k := by have := h k (.head _); lia
    obtain ⟨ro, q, l, i⟩ := c
    simp only at h0 h1
    have hs : 0 ≤ (a2bG (ro, q, l, i) k).2.1 ∧ (a2bG (ro, q, l, i) k).2.1 < 4 ∧ 4 * ((a2bG (ro, q, l, i) k).1.length : Int) - (if (a2bG (ro, q, l, i) k).2.1 = 0 then 0 else (a2bG (ro, q, l, i) k).2.1 - 4) = 4 * (ro.length : Int) - (if q = 0 then 0 else q - 4) + 3 := by
      by_cases q0 : q = 0
      · rw [a2bG_a hk q0, q0]; simp only []; refine ⟨by (try dsimp only); lia, by (try dsimp only); lia, ?_⟩; simp
      by_cases q1 : q = 1
      · rw [a2bG_b hk q0 q1, q1]; refine ⟨by (try dsimp only); lia, by (try dsimp only); lia, ?_⟩; simp; lia
      by_cases q2 : q = 2
      · rw [a2bG_c hk q0 q1 q2, q2]; refine ⟨by (try dsimp only); lia, by (try dsimp only); lia, ?_⟩; simp; lia
      obtain rfl : q = 3 := by lia
      rw [a2bG_d hk q0 q1 q2]; refine ⟨by (try dsimp only); lia, by (try dsimp only); lia, ?_⟩; simp; lia
    have := a2b_out r (a2bG (ro, q, l, i) k) (fun j hj => h j (.tail _ hj)) hs.1 hs.2.1
    rw [List.foldl_cons, this, hs.2.2, List.length_cons]
    push_cast
    lia
theorem a2b_six {ks : List Int} (hl : ks.length = 8) (h : ∀ k ∈ ks, b64v k < 64) : (ks.foldl a2bG ([], 0, 0, 0)).1.length = 6 := by
  have h1 := a2b_out ks ([], 0, 0, 0) h (by decide) (by decide)
  have h2 := a2b_quad ks ([], 0, 0, 0) h (by decide) (by decide)
  rw [hl] at h1 h2
  rw [h2] at h1
  simp at h1
  lia
theorem cut_both (ks : List Int) (c : Nat) : ks.take c ++ (ks.drop c).take (ks.length - c) = ks := by
  rw [List.take_of_length_le (l := ks.drop c) (by rw [List.length_drop]; exact Nat.le_refl _), List.take_append_drop]
/-- what stands in the strewn writing, letter by letter -/
theorem strewn_facts (f : Int → Int) {ks A B : List Int} {z : Int} (he : A ++ B = ks) (hlen : ks.length = 8) (hv : ∀ k ∈ ks.map f, k ≠ 61 ∧ b64v k < 64) (hz : 64 ≤ b64v (f z)) (hz1 : f z ≠ 61) :
    (A ++ [z] ++ B).length ≤ 20 ∧ (∀ k ∈ (A ++ [z] ++ B).map f, k ≠ 61) ∧ (∃ k ∈ (A ++ [z] ++ B).map f, 64 ≤ b64v k) ∧ (((A ++ [z] ++ B).map f).foldl a2bG ([], 0, 0, 0)).2.1 = 0 ∧ ((ks.map f).foldl a2bG ([], 0, 0, 0)).2.1 = 0 ∧
    (((A ++ [z] ++ B).map f).foldl a2bG ([], 0, 0, 0)).1 = ((ks.map f).foldl a2bG ([], 0, 0, 0)).1 := by
  have hP := a2bP_strewn (A.map f) (B.map f) hz ([], 0, 0, 0)
  rw [← List.map_append, he] at hP
  have hm : (A ++ [z] ++ B).map f = A.map f ++ [f z] ++ B.map f := by simp
  have hq : ((ks.map f).foldl a2bG ([], 0, 0, 0)).2.1 = 0 := by
    rw [a2b_quad _ _ (fun k hk => (hv k hk).2) (by decide) (by decide), List.length_map, hlen]; decide
  have hl : A.length + B.length = 8 := by rw [← List.length_append, he, hlen]
  refine ⟨by simp only [List.length_append, List.length_cons, List.length_nil]; lia, ?_, ⟨f z, by rw [hm]; simp, hz⟩, ?_, hq, ?_⟩
  · intro k hk
    rw [hm, List.mem_append, List.mem_append] at hk
    rcases hk with (hk | hk) | hk
    · exact (hv k (by rw [← he, List.map_append]; exact List.mem_append_left _ hk)).1
    · rw [List.mem_singleton.mp hk]; exact hz1
    · exact (hv k (by rw [← he, List.map_append]; exact List.mem_append_right _ hk)).1
  · rw [hm]; exact (congrArg (fun x => x.2.1) hP).trans hq
  · rw [hm]; exact congrArg (fun x => x.1) hP
end Mine
end
-- M7
section
set_option linter.all false
namespace Mine
open PySem PySem.W
theorem v_of_c {d : Int} (h0 : 0 ≤ d) (h1 : d < 64) : b64v (b64c d) = d := by
  have h : ∀ n : Fin 64, b64v (b64c ((n.val : Nat) : Int)) = ((n.val : Nat) : Int) := by decide +kernel
  have := h ⟨d.toNat, by omega⟩
  rw [show (((⟨d.toNat, by omega⟩ : Fin 64).val : Nat) : Int) = d from Int.toNat_of_nonneg h0] at this
  exact this
theorem eight {ns : List Int} (h : ns.length = 8) : ∃ a b c d e f g i, ns = [a, b, c, d, e, f, g, i] := by
  obtain ⟨a, k0, e0, h0⟩ := len_cons h
  obtain ⟨b, k1, e1, h1⟩ := len_cons h0
  obtain ⟨c, k2, e2, h2⟩ := len_cons h1
  obtain ⟨d, k3, e3, h3⟩ := len_cons h2
  obtain ⟨e, k4, e4, h4⟩ := len_cons h3
  obtain ⟨f, k5, e5, h5⟩ := len_cons h4
  obtain ⟨g, k6, e6, h6⟩ := len_cons h5
  obtain ⟨i, k7, e7, h7⟩ := len_cons h6
  have z := List.length_eq_zero_iff.mp h7
  subst z e7 e6 e5 e4 e3 e2 e1 e0
  exact ⟨a, b, c, d, e, f, g, i, rfl⟩
noncomputable def kval (ks : List Int) : Int := ks.foldl (fun a k => a * 256 + k) 0
noncomputable def octets (a b c d e f g i : Int) : List Int := [a * 4 + b / 16, b % 16 * 16 + c / 4, c % 4 * 64 + d, e * 4 + f / 16, f % 16 * 16 + g / 4, g % 4 * 64 + i]
theorem a2b_step0 {r : List Int} {l i k v : Int} (hv : b64v k = v) (h : v < 64) : a2bG (r, 0, l, i) k = (r, 1, v, i + 1) := by
  rw [a2bG_a (by omega) rfl, hv]
theorem a2b_step1 {r : List Int} {l i k v : Int} (hv : b64v k = v) (h : v < 64) : a2bG (r, 1, l, i) k = (r ++ [l * 4 + v / 16], 2, v % 16, i + 1) := by
  subst hv; unfold a2bG; rw [if_neg (by omega), if_neg (by simp only []; omega), if_pos rfl]
theorem a2b_step2 {r : List Int} {l i k v : Int} (hv : b64v k = v) (h : v < 64) : a2bG (r, 2, l, i) k = (r ++ [l * 16 + v / 4], 3, v % 4, i + 1) := by
  subst hv; unfold a2bG; rw [if_neg (by omega), if_neg (by simp only []; omega), if_neg (by simp only []; omega), if_pos rfl]
theorem a2b_step3 {r : List Int} {l i k v : Int} (hv : b64v k = v) (h : v < 64) : a2bG (r, 3, l, i) k = (r ++ [l * 64 + v], 0, 0, i + 1) := by
  subst hv; unfold a2bG; rw [if_neg (by omega), if_neg (by simp only []; omega), if_neg (by simp only []; omega), if_neg (by simp only []; omega)]
theorem a2b_eight {a b c d e f g i : Int} (h : ∀ x ∈ [a, b, c, d, e, f, g, i], 0 ≤ x ∧ x < 64) :
    (([a, b, c, d, e, f, g, i].map b64c).foldl a2bG ([], 0, 0, 0)).1 = octets a b c d e f g i := by
  simp only [List.mem_cons, List.not_mem_nil, or_false, forall_eq_or_imp, forall_eq] at h
  obtain ⟨ha, hb, hc, hd, he, hf, hg, hi⟩ := h
  simp only [List.map_cons, List.map_nil, List.foldl_cons, List.foldl_nil]
  rw [a2b_step0 (v_of_c ha.1 ha.2) ha.2, a2b_step1 (v_of_c hb.1 hb.2) hb.2, a2b_step2 (v_of_c hc.1 hc.2) hc.2, a2b_step3 (v_of_c hd.1 hd.2) hd.2,
    a2b_step0 (v_of_c he.1 he.2) he.2, a2b_step1 (v_of_c hf.1 hf.2) hf.2, a2b_step2 (v_of_c hg.1 hg.2) hg.2, a2b_step3 (v_of_c hi.1 hi.2) hi.2]
  rfl
theorem octets_val {a b c d e f g i : Int} (h : ∀ x ∈ [a, b, c, d, e, f, g, i], 0 ≤ x ∧ x < 64) : kval (octets a b c d e f g i) = val [a, b, c, d, e, f, g, i] := by
  simp only [List.mem_cons, List.not_mem_nil, or_false, forall_eq_or_imp, forall_eq] at h
  simp only [kval, val, octets, List.foldl_cons, List.foldl_nil]
  omega
noncomputable def sval' (ks : List Int) : Int := if 128 ≤ ks.headD 0 then kval ks - 256 ^ ks.length else kval ks
/-- the number read back from a row's letters -/
theorem read_back {ns : List Int} (hl : ns.length = 8) (h : ∀ d ∈ ns, 0 ≤ d ∧ d < 64) : sval' ((ns.map b64c).foldl a2bG ([], 0, 0, 0)).1 = sgn (val ns) := by
  obtain ⟨a, b, c, d, e, f, g, i, rfl⟩ := eight hl
  rw [a2b_eight h]
  have hv := octets_val h
  have hin := val_in h
  have e8 : (64 : Int) ^ [a, b, c, d, e, f, g, i].length = 281474976710656 := by show (64 : Int) ^ 8 = _; decide
  rw [e8] at hin
  unfold sval' sgn
  rw [hv]
  have hh : (octets a b c d e f g i).headD 0 = a * 4 + b / 16 := rfl
  have h6 : (256 : Int) ^ (octets a b c d e f g i).length = 281474976710656 := by show (256 : Int) ^ 6 = _; decide
  rw [hh, h6]
  simp only [List.mem_cons, List.not_mem_nil, or_false, forall_eq_or_imp, forall_eq] at h
  have ev : val [a, b, c, d, e, f, g, i] = a * 4398046511104 + val [b, c, d, e, f, g, i] := by
    rw [val_cons]; show a * (64 : Int) ^ (7 : Nat) + _ = _; rw [show (64 : Int) ^ (7 : Nat) = 4398046511104 by decide]
  have ev2 : val [b, c, d, e, f, g, i] = b * 68719476736 + val [c, d, e, f, g, i] := by
    rw [val_cons]; show b * (64 : Int) ^ (6 : Nat) + _ = _; rw [show (64 : Int) ^ (6 : Nat) = 68719476736 by decide]
  have e6 := val_in (l := [c, d, e, f, g, i]) (by simp only [List.mem_cons, List.not_mem_nil, or_false, forall_eq_or_imp, forall_eq]; omega)
  have e66 : (64 : Int) ^ [c, d, e, f, g, i].length = 68719476736 := by show (64 : Int) ^ 6 = _; decide
  rw [e66] at e6
  split <;> split <;> omega
noncomputable def sextets (a b c d e f : Int) : List Int := [a / 4, a % 4 * 16 + b / 16, b % 16 * 4 + c / 64, c % 64, d / 4, d % 4 * 16 + e / 16, e % 16 * 4 + f / 64, f % 64]
theorem b2a_low {l k : Int} (h0 : 0 ≤ k) (h1 : k < 256) : (l * 256 + k) % 65536 % 256 = k := by omega
theorem b2a_step0 {r : List Int} {l k : Int} (h0 : 0 ≤ k) (h1 : k < 256) : b2aG (r, 0, l) k = (r ++ [b64c (k / 4)], 2, (l * 256 + k) % 65536) := by
  have e : (l * 256 + k) % 65536 / 4 % 64 = k / 4 := by omega
  unfold b2aG; simp only [if_true]; rw [e]
theorem b2a_step2 {r : List Int} {l k p : Int} (hl : l % 256 = p) (h0 : 0 ≤ k) (h1 : k < 256) : b2aG (r, 2, l) k = (r ++ [b64c (p % 4 * 16 + k / 16)], 4, (l * 256 + k) % 65536) := by
  have e : (l * 256 + k) % 65536 / 16 % 64 = p % 4 * 16 + k / 16 := by omega
  unfold b2aG; simp only [if_true, show ¬ ((2 : Int) = 0) by decide, if_false]; rw [e]
theorem b2a_step4 {r : List Int} {l k p : Int} (hl : l % 256 = p) (h0 : 0 ≤ k) (h1 : k < 256) : b2aG (r, 4, l) k = (r ++ [b64c (p % 16 * 4 + k / 64), b64c (k % 64)], 0, (l * 256 + k) % 65536) := by
  have e : (l * 256 + k) % 65536 / 64 % 64 = p % 16 * 4 + k / 64 := by omega
  have e2 : (l * 256 + k) % 65536 / 1 % 64 = k % 64 := by omega
  unfold b2aG; simp only [show ¬ ((4 : Int) = 2) by decide, show ¬ ((4 : Int) = 0) by decide, if_false]; rw [e, e2]
theorem b2a_six {a b c d e f : Int} (h : ∀ x ∈ [a, b, c, d, e, f], 0 ≤ x ∧ x < 256) : b2aF [a, b, c, d, e, f] = (sextets a b c d e f).map b64c := by
  simp only [List.mem_cons, List.not_mem_nil, or_false, forall_eq_or_imp, forall_eq] at h
  obtain ⟨ha, hb, hc, hd, he, hf⟩ := h
  unfold b2aF
  simp only [List.foldl_cons, List.foldl_nil]
  rw [b2a_step0 ha.1 ha.2, b2a_step2 (b2a_low ha.1 ha.2) hb.1 hb.2, b2a_step4 (b2a_low hb.1 hb.2) hc.1 hc.2, b2a_step0 hd.1 hd.2, b2a_step2 (b2a_low hd.1 hd.2) he.1 he.2, b2a_step4 (b2a_low he.1 he.2) hf.1 hf.2]
  rfl
theorem sextets_in {a b c d e f : Int} (h : ∀ x ∈ [a, b, c, d, e, f], 0 ≤ x ∧ x < 256) : (∀ x ∈ sextets a b c d e f, 0 ≤ x ∧ x < 64) ∧ val (sextets a b c d e f) = kval [a, b, c, d, e, f] := by
  simp only [List.mem_cons, List.not_mem_nil, or_false, forall_eq_or_imp, forall_eq] at h
  constructor
  · have p4 : ∀ z : Int, 0 ≤ z ∧ z < 256 → 0 ≤ z / 4 ∧ z / 4 < 64 := fun z hz => by omega
    have p64 : ∀ z : Int, 0 ≤ z % 64 ∧ z % 64 < 64 := fun z => by omega
    have q2 : ∀ y z : Int, 0 ≤ z ∧ z < 256 → 0 ≤ y % 4 * 16 + z / 16 ∧ y % 4 * 16 + z / 16 < 64 := fun y z hz => by omega
    have q4 : ∀ y z : Int, 0 ≤ z ∧ z < 256 → 0 ≤ y % 16 * 4 + z / 64 ∧ y % 16 * 4 + z / 64 < 64 := fun y z hz => by omega
    simp only [sextets, List.mem_cons, List.not_mem_nil, or_false, forall_eq_or_imp, forall_eq]
    exact ⟨p4 _ h.1, q2 _ _ h.2.1, q4 _ _ h.2.2.1, p64 _, p4 _ h.2.2.2.1, q2 _ _ h.2.2.2.2.1, q4 _ _ h.2.2.2.2.2, p64 _⟩
  · simp only [kval, val, sextets, List.foldl_cons, List.foldl_nil]
    omega
/-- six bytes are written as the row of their number -/
theorem write_out {ks ns : List Int} (hk : ks.length = 6) (h : ∀ x ∈ ks, 0 ≤ x ∧ x < 256) (hl : ns.length = 8) (hn : ∀ d ∈ ns, 0 ≤ d ∧ d < 64) (e : kval ks = val ns) : b2aF ks = ns.map b64c := by
  obtain ⟨a, b, c, d, e', f, rfl⟩ := six hk
  obtain ⟨h1, h2⟩ := sextets_in h
  rw [b2a_six h]
  congr 1
  exact val_inj (by rw [hl]; rfl) h1 hn (by rw [h2, e])
end Mine
end
-- M8
section
set_option linter.all false
namespace Mine
open PySem PySem.W
/-- a row of figures that stands for a number modulo 2 ^ 48 -/
noncomputable def Row (r : List Int) : Prop := r.length = 8 ∧ ∀ d ∈ r, 0 ≤ d ∧ d < 64
noncomputable def Agree (r : List Int) (z : Int) : Prop := Row r ∧ val r = z % 281474976710656
theorem e48 : (64 : Int) ^ 8 = 281474976710656 := by decide
theorem agree_row {xs : List Int} {z t : Int} (hl : xs.length = 8) (h : val xs = z + 281474976710656 * t) : Agree (rowF' xs) z := by
  obtain ⟨a, b, c⟩ := rowF_spec xs
  refine ⟨⟨b.trans hl, a⟩, ?_⟩
  rw [c, hl, e48, h]; lia
theorem row_in {ns : List Int} (h : Row ns) : 0 ≤ val ns ∧ val ns < 281474976710656 := by
  have := val_in h.2
  rwa [h.1, e48] at this
theorem sgn_of (v : Int) : ∃ t, v = sgn v + 281474976710656 * t ∧ (t = 0 ∨ t = 1) := by
  unfold sgn
  split
  · exact ⟨0, by lia, .inl rfl⟩
  · exact ⟨1, by lia, .inr rfl⟩
section
variable {ns ms : List Int}
theorem ag_add (h : Row ns) (g : Row ms) : Agree (rowF' ((ns.zip ms).map fun p => p.1 + p.2)) (sgn (val ns) + sgn (val ms)) := by
  obtain ⟨t, ht, _⟩ := sgn_of (val ns)
  obtain ⟨u, hu, _⟩ := sgn_of (val ms)
  refine agree_row (t := t + u) (by rw [List.length_map, List.length_zip, h.1, g.1]; rfl) ?_
  obtain ⟨a0, a1, a2, a3, a4, a5, a6, a7, rfl⟩ := eight h.1
  obtain ⟨b0, b1, b2, b3, b4, b5, b6, b7, rfl⟩ := eight g.1
  have : val (([a0, a1, a2, a3, a4, a5, a6, a7].zip [b0, b1, b2, b3, b4, b5, b6, b7]).map fun p => p.1 + p.2) = val [a0, a1, a2, a3, a4, a5, a6, a7] + val [b0, b1, b2, b3, b4, b5, b6, b7] := by
    simp only [List.zip_cons_cons, List.zip_nil_right, List.map_cons, List.map_nil, val, List.foldl_cons, List.foldl_nil]; lia
  rw [this]; lia
theorem ag_sub (h : Row ns) (g : Row ms) : Agree (rowF' ((ns.zip ms).map fun p => p.1 - p.2)) (sgn (val ns) - sgn (val ms)) := by
  obtain ⟨t, ht, _⟩ := sgn_of (val ns)
  obtain ⟨u, hu, _⟩ := sgn_of (val ms)
  refine agree_row (t := t - u) (by rw [List.length_map, List.length_zip, h.1, g.1]; rfl) ?_
  obtain ⟨a0, a1, a2, a3, a4, a5, a6, a7, rfl⟩ := eight h.1
  obtain ⟨b0, b1, b2, b3, b4, b5, b6, b7, rfl⟩ := eight g.1
  have : val (([a0, a1, a2, a3, a4, a5, a6, a7].zip [b0, b1, b2, b3, b4, b5, b6, b7]).map fun p => p.1 - p.2) = val [a0, a1, a2, a3, a4, a5, a6, a7] - val [b0, b1, b2, b3, b4, b5, b6, b7] := by
    simp only [List.zip_cons_cons, List.zip_nil_right, List.map_cons, List.map_nil, val, List.foldl_cons, List.foldl_nil]; lia
  rw [this]; lia
theorem ag_neg (h : Row ns) : Agree (rowF' (ns.map fun a => -a)) (-(sgn (val ns))) := by
  obtain ⟨t, ht, _⟩ := sgn_of (val ns)
  refine agree_row (t := -t) (by rw [List.length_map, h.1]) ?_
  obtain ⟨a0, a1, a2, a3, a4, a5, a6, a7, rfl⟩ := eight h.1
  have : val ([a0, a1, a2, a3, a4, a5, a6, a7].map fun a => -a) = - val [a0, a1, a2, a3, a4, a5, a6, a7] := by
    simp only [List.map_cons, List.map_nil, val, List.foldl_cons, List.foldl_nil]; lia
  rw [this]; lia
theorem ag_inv (h : Row ns) : Agree (ns.map fun a => 63 - a) (-(sgn (val ns)) - 1) := by
  obtain ⟨t, ht, _⟩ := sgn_of (val ns)
  have hin := row_in h
  have hR : Row (ns.map fun a => 63 - a) := ⟨by rw [List.length_map, h.1], fun d hd => by
    obtain ⟨x, hx, rfl⟩ := List.mem_map.mp hd
    have := h.2 x hx; lia⟩
  refine ⟨hR, ?_⟩
  have hin2 := row_in hR
  obtain ⟨a0, a1, a2, a3, a4, a5, a6, a7, rfl⟩ := eight h.1
  have : val ([a0, a1, a2, a3, a4, a5, a6, a7].map fun a => 63 - a) = 281474976710655 - val [a0, a1, a2, a3, a4, a5, a6, a7] := by
    simp only [List.map_cons, List.map_nil, val, List.foldl_cons, List.foldl_nil]; lia
  lia
theorem val_scale (c : Int) : ∀ l : List Int, val (l.map fun a => a * c) = val l * c := by
  intro l
  rw [val_rev, val_rev, ← List.map_reverse]
  induction l.reverse with
  | nil => simp [lval]
  | cons x r ih => simp only [List.map_cons, lval, ih, Int.add_mul, Int.mul_assoc]
theorem ag_shl (h : Row ns) (n : Nat) : Agree (rowF' (ns.map fun a => a * 2 ^ n)) (sgn (val ns) * 2 ^ n) := by
  obtain ⟨t, ht, _⟩ := sgn_of (val ns)
  refine agree_row (t := t * 2 ^ n) (by rw [List.length_map, h.1]) ?_
  rw [val_scale]
  have : val ns * 2 ^ n = (sgn (val ns) + 281474976710656 * t) * 2 ^ n := by rw [← ht]
  rw [this, Int.add_mul, Int.mul_assoc]
theorem part_len (d : Int) : ∀ (p : List Int) (c : List Int × Int), (p.foldl (partG' d) c).1.length = c.1.length + p.length
  | [], c => by simp
  | v :: r, c => by rw [List.foldl_cons, part_len d r]; simp [partG']; lia
theorem ag_div (h : Row ns) {d : Int} (hd : d ≠ 0) : Agree (rowF' ((signF' ns).foldl (partG' d) ([], 0)).1) ((sgn (val ns)).fdiv d) := by
  refine agree_row (t := 0) (by rw [part_len, signF_len' h.1]; rfl) ?_
  rw [(part_spec hd _).1, sign_val h.1 h.2]; lia
theorem ag_one (z : Int) : Agree (rowF' ([0, 0, 0, 0, 0, 0, 0] ++ [z])) z := by
  refine agree_row (t := 0) rfl ?_
  rw [val_snoc, show val [0, 0, 0, 0, 0, 0, 0] = 0 by decide]; lia
theorem ag_mod (h : Row ns) {d : Int} (hd : d ≠ 0) : Agree (rowF' ([0, 0, 0, 0, 0, 0, 0] ++ [((signF' ns).foldl (partG' d) ([], 0)).2])) ((sgn (val ns)).fmod d) := by
  rw [(part_spec hd _).2, sign_val h.1 h.2]
  exact ag_one _
end
end Mine
end
-- M9
section
set_option linter.all false
set_option maxRecDepth 20000
namespace Mine
open PySem PySem.W PyProof.Rows
noncomputable def mulF' (ns ms : List Int) : List Int := (rangeInts 0 1 8).map fun k => ((rangeInts k 1 (8 - k).toNat).map fun i => ns.getD i.toNat 0 * ms.getD (7 + k - i).toNat 0).sum
section
variable {a0 a1 a2 a3 a4 a5 a6 a7 b0 b1 b2 b3 b4 b5 b6 b7 : Int}
theorem val8 (c0 c1 c2 c3 c4 c5 c6 c7 : Int) : val [c0, c1, c2, c3, c4, c5, c6, c7] = c0 * 4398046511104 + c1 * 68719476736 + c2 * 1073741824 + c3 * 16777216 + c4 * 262144 + c5 * 4096 + c6 * 64 + c7 * 1 := by
  simp only [val, List.foldl_cons, List.foldl_nil]; lia
theorem mul_digs : mulF' [a0, a1, a2, a3, a4, a5, a6, a7] [b0, b1, b2, b3, b4, b5, b6, b7] = [a0 * b7 + (a1 * b6 + (a2 * b5 + (a3 * b4 + (a4 * b3 + (a5 * b2 + (a6 * b1 + (a7 * b0 + 0))))))), a1 * b7 + (a2 * b6 + (a3 * b5 + (a4 * b4 + (a5 * b3 + (a6 * b2 + (a7 * b1 + 0)))))), a2 * b7 + (a3 * b6 + (a4 * b5 + (a5 * b4 + (a6 * b3 + (a7 * b2 + 0))))), a3 * b7 + (a4 * b6 + (a5 * b5 + (a6 * b4 + (a7 * b3 + 0)))), a4 * b7 + (a5 * b6 + (a6 * b5 + (a7 * b4 + 0))), a5 * b7 + (a6 * b6 + (a7 * b5 + 0)), a6 * b7 + (a7 * b6 + 0), a7 * b7 + 0] := by
  rfl
theorem mul_val : val [a0, a1, a2, a3, a4, a5, a6, a7] * val [b0, b1, b2, b3, b4, b5, b6, b7] = val (mulF' [a0, a1, a2, a3, a4, a5, a6, a7] [b0, b1, b2, b3, b4, b5, b6, b7]) + 281474976710656 * (a0 * b0 * 68719476736 + a0 * b1 * 1073741824 + a0 * b2 * 16777216 + a0 * b3 * 262144 + a0 * b4 * 4096 + a0 * b5 * 64 + a0 * b6 * 1 + a1 * b0 * 1073741824 + a1 * b1 * 16777216 + a1 * b2 * 262144 + a1 * b3 * 4096 + a1 * b4 * 64 + a1 * b5 * 1 + a2 * b0 * 16777216 + a2 * b1 * 262144 + a2 * b2 * 4096 + a2 * b3 * 64 + a2 * b4 * 1 + a3 * b0 * 262144 + a3 * b1 * 4096 + a3 * b2 * 64 + a3 * b3 * 1 + a4 * b0 * 4096 + a4 * b1 * 64 + a4 * b2 * 1 + a5 * b0 * 64 + a5 * b1 * 1 + a6 * b0 * 1) := by
  rw [mul_digs]
  simp only [val, List.foldl_cons, List.foldl_nil]
  grind
end
theorem mul_more {ns ms : List Int} (h : Row ns) (g : Row ms) : ∃ R, val ns * val ms = val (mulF' ns ms) + 281474976710656 * R := by
  obtain ⟨a0, a1, a2, a3, a4, a5, a6, a7, rfl⟩ := eight h.1
  obtain ⟨b0, b1, b2, b3, b4, b5, b6, b7, rfl⟩ := eight g.1
  exact ⟨_, mul_val⟩
theorem mul_len {ns ms : List Int} : (mulF' ns ms).length = 8 := by rw [mulF', List.length_map]; rfl
theorem ag_mul {ns ms : List Int} (h : Row ns) (g : Row ms) : Agree (rowF' (mulF' ns ms)) (sgn (val ns) * sgn (val ms)) := by
  obtain ⟨t, ht, _⟩ := sgn_of (val ns)
  obtain ⟨u, hu, _⟩ := sgn_of (val ms)
  obtain ⟨R, hR⟩ := mul_more h g
  generalize val ns = x at *
  generalize val ms = y at *
  generalize sgn x = p at *
  generalize sgn y = q at *
  refine agree_row (t := t * q + u * x - R) mul_len ?_
  subst ht hu
  grind
end Mine
end
-- M10
section
set_option linter.all false
set_option maxRecDepth 20000
namespace Mine
open PySem PySem.W PyProof.Rows
theorem and_split : ∀ (m : Nat) (a b d e : Int), 0 ≤ d → d < 2 ^ m → 0 ≤ e → e < 2 ^ m → Builtin.bitAnd (a * 2 ^ m + d) (b * 2 ^ m + e) = Builtin.bitAnd a b * 2 ^ m + Builtin.bitAnd d e
  | 0, a, b, d, e, h0, h1, g0, g1 => by
    have hd : d = 0 := by simp at h1; lia
    have he : e = 0 := by simp at g1; lia
    subst hd he
    have : Builtin.bitAnd 0 0 = 0 := by decide
    simp [this]
  | m + 1, a, b, d, e, h0, h1, g0, g1 => by
    rw [kbt_halves, kbt_halves d e]
    have p : (2 : Int) ^ (m + 1) = 2 * 2 ^ m := by rw [Int.pow_succ, Int.mul_comm]
    rw [p] at h1 g1 ⊢
    have x1 : (a * (2 * 2 ^ m) + d) / 2 = a * 2 ^ m + d / 2 := by rw [Int.mul_left_comm]; lia
    have y1 : (b * (2 * 2 ^ m) + e) / 2 = b * 2 ^ m + e / 2 := by rw [Int.mul_left_comm]; lia
    have x2 : (a * (2 * 2 ^ m) + d) % 2 = d % 2 := by rw [Int.mul_left_comm]; lia
    have y2 : (b * (2 * 2 ^ m) + e) % 2 = e % 2 := by rw [Int.mul_left_comm]; lia
    rw [x1, y1, x2, y2, and_split m a b (d / 2) (e / 2) (by lia) (by lia) (by lia) (by lia), Int.mul_add, Int.mul_left_comm (Builtin.bitAnd a b) 2]
    lia
theorem and64 {a b d e : Int} (h : 0 ≤ d ∧ d < 64) (g : 0 ≤ e ∧ e < 64) : Builtin.bitAnd (a * 64 + d) (b * 64 + e) = Builtin.bitAnd a b * 64 + Builtin.bitAnd d e := and_split 6 a b d e h.1 h.2 g.1 g.2
noncomputable def bitsP' (ks : List Int) (a b k : Int) : Bool := ks.any (· == (a.fdiv (2 ^ k.toNat)).fmod 2 + (b.fdiv (2 ^ k.toNat)).fmod 2)
noncomputable def bitsV' (ks : List Int) (a b : Int) : Int := (((rangeInts 0 1 6).filter (bitsP' ks a b)).map fun k => 2 ^ k.toNat).sum
noncomputable def bitsF' (ks ns ms : List Int) : List Int := (ns.zip ms).map fun p => bitsV' ks p.1 p.2
noncomputable def bitG (ks : List Int) (x y : Int) : Int := if ks.any (· == x + y) then 1 else 0
noncomputable def bitW (ks : List Int) : Nat → Int → Int → Int
  | 0, _, _ => 0
  | m + 1, d, e => 2 * bitW ks m (d / 2) (e / 2) + bitG ks (d % 2) (e % 2)
theorem filt_sum (p : Int → Bool) (f : Int → Int) : ∀ l : List Int, ((l.filter p).map f).sum = (l.map fun k => if p k then f k else 0).sum
  | [] => rfl
  | k :: l => by
    rw [List.filter_cons, List.map_cons, List.sum_cons, ← filt_sum p f l]
    split
    · rw [List.map_cons, List.sum_cons]
    · rw [Int.zero_add]
theorem bitW_in (ks : List Int) : ∀ (m : Nat) (d e : Int), 0 ≤ bitW ks m d e ∧ bitW ks m d e < 2 ^ m
  | 0, d, e => ⟨Int.le_refl 0, Int.zero_lt_one⟩
  | m + 1, d, e => by
    have i := bitW_in ks m (d / 2) (e / 2)
    have g : 0 ≤ bitG ks (d % 2) (e % 2) ∧ bitG ks (d % 2) (e % 2) ≤ 1 := by unfold bitG; split <;> decide
    rw [Int.pow_succ]
    show 0 ≤ 2 * bitW ks m (d / 2) (e / 2) + bitG ks (d % 2) (e % 2) ∧ 2 * bitW ks m (d / 2) (e / 2) + bitG ks (d % 2) (e % 2) < _
    lia
theorem bit_cases : ∀ x y : Fin 2, bitG [2] (x.val : Nat) (y.val : Nat) = (if ((x.val : Nat) : Int) = 1 ∧ ((y.val : Nat) : Int) = 1 then 1 else 0) ∧ bitG [1, 2] (x.val : Nat) (y.val : Nat) = x.val + y.val - bitG [2] (x.val : Nat) (y.val : Nat) ∧ bitG [1] (x.val : Nat) (y.val : Nat) = x.val + y.val - 2 * bitG [2] (x.val : Nat) (y.val : Nat) := by decide
theorem bitW_is : ∀ (m : Nat) (d e : Int), 0 ≤ d → d < 2 ^ m → 0 ≤ e → e < 2 ^ m → bitW [2] m d e = Builtin.bitAnd d e ∧ bitW [1, 2] m d e = d + e - Builtin.bitAnd d e ∧ bitW [1] m d e = d + e - 2 * Builtin.bitAnd d e
  | 0, d, e, h0, h1, g0, g1 => by
    obtain rfl : d = 0 := by simp at h1; lia
    obtain rfl : e = 0 := by simp at g1; lia
    decide
  | m + 1, d, e, h0, h1, g0, g1 => by
    rw [Int.pow_succ] at h1 g1
    obtain ⟨i, j, k⟩ := bitW_is m (d / 2) (e / 2) (by lia) (by lia) (by lia) (by lia)
    have c := bit_cases ⟨(d % 2).toNat, by lia⟩ ⟨(e % 2).toNat, by lia⟩
    simp only [Int.toNat_of_nonneg (Int.emod_nonneg d (by decide : (2 : Int) ≠ 0)), Int.toNat_of_nonneg (Int.emod_nonneg e (by decide : (2 : Int) ≠ 0))] at c
    obtain ⟨c1, c2, c3⟩ := c
    show 2 * bitW [2] m (d / 2) (e / 2) + bitG [2] (d % 2) (e % 2) = _ ∧ 2 * bitW [1, 2] m (d / 2) (e / 2) + bitG [1, 2] (d % 2) (e % 2) = _ ∧ 2 * bitW [1] m (d / 2) (e / 2) + bitG [1] (d % 2) (e % 2) = _
    rw [kbt_halves d e, ← c1, i, j, k, c2, c3]
    lia
theorem six_terms (a b c d e f : Int) : 1 * a + (2 * b + (4 * c + (8 * d + (16 * e + (32 * f + 0))))) = 2 * (2 * (2 * (2 * (2 * (2 * 0 + f) + e) + d) + c) + b) + a := by lia
theorem bits_W (ks : List Int) (d e : Int) : bitsV' ks d e = bitW ks 6 d e := by
  have s : ∀ k : Int, (if bitsP' ks d e k then (2 : Int) ^ k.toNat else 0) = 2 ^ k.toNat * bitG ks (d / 2 ^ k.toNat % 2) (e / 2 ^ k.toNat % 2) := by
    intro k
    have q : ∀ z : Int, (z.fdiv (2 ^ k.toNat)).fmod 2 = z / 2 ^ k.toNat % 2 := fun z => by
      rw [Int.fdiv_eq_ediv_of_nonneg _ (Int.le_of_lt (Int.pow_pos (by decide))), Int.fmod_eq_emod_of_nonneg _ (by decide)]
    unfold bitsP' bitG
    rw [q, q]
    split
    · rw [Int.mul_one]
    · rw [Int.mul_zero]
  have t : ∀ z : Int, z / 2 / 2 = z / 4 ∧ z / 4 / 2 = z / 8 ∧ z / 8 / 2 = z / 16 ∧ z / 16 / 2 = z / 32 := fun z => ⟨Int.ediv_ediv_of_nonneg (by decide), Int.ediv_ediv_of_nonneg (by decide), Int.ediv_ediv_of_nonneg (by decide), Int.ediv_ediv_of_nonneg (by decide)⟩
  unfold bitsV'
  rw [filt_sum, List.map_congr_left fun k _ => s k]
  show _ = 2 * (2 * (2 * (2 * (2 * (2 * 0 + bitG ks (d / 2 / 2 / 2 / 2 / 2 % 2) (e / 2 / 2 / 2 / 2 / 2 % 2)) + bitG ks (d / 2 / 2 / 2 / 2 % 2) (e / 2 / 2 / 2 / 2 % 2)) + bitG ks (d / 2 / 2 / 2 % 2) (e / 2 / 2 / 2 % 2)) + bitG ks (d / 2 / 2 % 2) (e / 2 / 2 % 2)) + bitG ks (d / 2 % 2) (e / 2 % 2)) + bitG ks (d % 2) (e % 2)
  rw [(t d).1, (t d).2.1, (t d).2.2.1, (t d).2.2.2, (t e).1, (t e).2.1, (t e).2.2.1, (t e).2.2.2, ← show bitG ks (d / 1 % 2) (e / 1 % 2) = bitG ks (d % 2) (e % 2) by rw [Int.ediv_one, Int.ediv_one]]
  exact six_terms (bitG ks (d / 1 % 2) (e / 1 % 2)) _ _ _ _ _
theorem bits_of {d e : Int} (h : 0 ≤ d ∧ d < 64) (g : 0 ≤ e ∧ e < 64) : bitsV' [2] d e = Builtin.bitAnd d e ∧ bitsV' [1, 2] d e = d + e - Builtin.bitAnd d e ∧ bitsV' [1] d e = d + e - 2 * Builtin.bitAnd d e ∧ (0 ≤ bitsV' [2] d e ∧ bitsV' [2] d e < 64) ∧ (0 ≤ bitsV' [1, 2] d e ∧ bitsV' [1, 2] d e < 64) ∧ (0 ≤ bitsV' [1] d e ∧ bitsV' [1] d e < 64) := by
  rw [bits_W, bits_W, bits_W]
  obtain ⟨i, j, k⟩ := bitW_is 6 d e h.1 h.2 g.1 g.2
  exact ⟨i, j, k, bitW_in _ 6 d e, bitW_in _ 6 d e, bitW_in _ 6 d e⟩
/-- and, figure by figure -/
theorem and_rows {a0 a1 a2 a3 a4 a5 a6 a7 b0 b1 b2 b3 b4 b5 b6 b7 : Int} (h : ∀ d ∈ [a0, a1, a2, a3, a4, a5, a6, a7], 0 ≤ d ∧ d < 64) (g : ∀ d ∈ [b0, b1, b2, b3, b4, b5, b6, b7], 0 ≤ d ∧ d < 64) :
    ∃ t, Builtin.bitAnd (sgn (val [a0, a1, a2, a3, a4, a5, a6, a7])) (sgn (val [b0, b1, b2, b3, b4, b5, b6, b7])) = val [Builtin.bitAnd a0 b0, Builtin.bitAnd a1 b1, Builtin.bitAnd a2 b2, Builtin.bitAnd a3 b3, Builtin.bitAnd a4 b4, Builtin.bitAnd a5 b5, Builtin.bitAnd a6 b6, Builtin.bitAnd a7 b7] + 281474976710656 * t := by
  have ha := sign_val rfl h
  have hb := sign_val rfl g
  simp only [List.mem_cons, List.not_mem_nil, or_false, forall_eq_or_imp, forall_eq] at h g
  obtain ⟨x0, x1, x2, x3, x4, x5, x6, x7⟩ := h
  obtain ⟨y0, y1, y2, y3, y4, y5, y6, y7⟩ := g
  have sa : ∃ t, signF' [a0, a1, a2, a3, a4, a5, a6, a7] = (t * 64 + a0) :: [a1, a2, a3, a4, a5, a6, a7] := by
    have hm : (a0 + 32).fmod 64 = (a0 + 32) % 64 := fmod_pos (by decide)
    by_cases c : a0 < 32
    · exact ⟨0, by show ((a0 + 32).fmod 64 - 32) :: _ = _; rw [hm]; congr 1; lia⟩
    · exact ⟨-1, by show ((a0 + 32).fmod 64 - 32) :: _ = _; rw [hm]; congr 1; lia⟩
  have sb : ∃ t, signF' [b0, b1, b2, b3, b4, b5, b6, b7] = (t * 64 + b0) :: [b1, b2, b3, b4, b5, b6, b7] := by
    have hm : (b0 + 32).fmod 64 = (b0 + 32) % 64 := fmod_pos (by decide)
    by_cases c : b0 < 32
    · exact ⟨0, by show ((b0 + 32).fmod 64 - 32) :: _ = _; rw [hm]; congr 1; lia⟩
    · exact ⟨-1, by show ((b0 + 32).fmod 64 - 32) :: _ = _; rw [hm]; congr 1; lia⟩
  obtain ⟨t, ht⟩ := sa
  obtain ⟨u, hu⟩ := sb
  rw [← ha, ← hb, ht, hu]
  refine ⟨Builtin.bitAnd t u, ?_⟩
  simp only [val, List.foldl_cons, List.foldl_nil, Int.zero_mul, Int.zero_add]
  rw [and64 x7 y7, and64 x6 y6, and64 x5 y5, and64 x4 y4, and64 x3 y3, and64 x2 y2, and64 x1 y1, and64 x0 y0]
  lia
theorem bits_row {ks ns ms : List Int} (h : Row ns) (g : Row ms) (k : ∀ d e, (0 ≤ d ∧ d < 64) → (0 ≤ e ∧ e < 64) → 0 ≤ bitsV' ks d e ∧ bitsV' ks d e < 64) : Row (bitsF' ks ns ms) :=
  ⟨by rw [bitsF', List.length_map, List.length_zip, h.1, g.1]; rfl, fun d hd => by
    obtain ⟨p, hp, rfl⟩ := List.mem_map.mp hd
    have := List.of_mem_zip hp
    exact k _ _ (h.2 _ this.1) (g.2 _ this.2)⟩
theorem ag_and {ns ms : List Int} (h : Row ns) (g : Row ms) : Agree (bitsF' [2] ns ms) (Builtin.bitAnd (sgn (val ns)) (sgn (val ms))) := by
  have hR := bits_row (ks := [2]) h g fun d e hx hy => (bits_of hx hy).2.2.2.1
  refine ⟨hR, ?_⟩
  have hin := row_in hR
  obtain ⟨tn, htn, _⟩ := sgn_of (val ns)
  obtain ⟨tm, htm, _⟩ := sgn_of (val ms)
  obtain ⟨a0, a1, a2, a3, a4, a5, a6, a7, rfl⟩ := eight h.1
  obtain ⟨b0, b1, b2, b3, b4, b5, b6, b7, rfl⟩ := eight g.1
  obtain ⟨t, ht⟩ := and_rows h.2 g.2
  have hh := h.2
  have gg := g.2
  simp only [List.mem_cons, List.not_mem_nil, or_false, forall_eq_or_imp, forall_eq] at hh gg
  obtain ⟨x0, x1, x2, x3, x4, x5, x6, x7⟩ := hh
  obtain ⟨y0, y1, y2, y3, y4, y5, y6, y7⟩ := gg
  have e : bitsF' [2] [a0, a1, a2, a3, a4, a5, a6, a7] [b0, b1, b2, b3, b4, b5, b6, b7] = [bitsV' [2] a0 b0, bitsV' [2] a1 b1, bitsV' [2] a2 b2, bitsV' [2] a3 b3, bitsV' [2] a4 b4, bitsV' [2] a5 b5, bitsV' [2] a6 b6, bitsV' [2] a7 b7] := rfl
  
  rw [ht]
  rw [e] at hin ⊢
  rw [(bits_of x0 y0).1, (bits_of x1 y1).1, (bits_of x2 y2).1, (bits_of x3 y3).1, (bits_of x4 y4).1, (bits_of x5 y5).1, (bits_of x6 y6).1, (bits_of x7 y7).1] at hin ⊢
  simp only [val8] at *
  lia
theorem ag_or {ns ms : List Int} (h : Row ns) (g : Row ms) : Agree (bitsF' [1, 2] ns ms) (Builtin.bitOr (sgn (val ns)) (sgn (val ms))) := by
  have hR := bits_row (ks := [1, 2]) h g fun d e hx hy => (bits_of hx hy).2.2.2.2.1
  refine ⟨hR, ?_⟩
  have hin := row_in hR
  obtain ⟨tn, htn, _⟩ := sgn_of (val ns)
  obtain ⟨tm, htm, _⟩ := sgn_of (val ms)
  obtain ⟨a0, a1, a2, a3, a4, a5, a6, a7, rfl⟩ := eight h.1
  obtain ⟨b0, b1, b2, b3, b4, b5, b6, b7, rfl⟩ := eight g.1
  obtain ⟨t, ht⟩ := and_rows h.2 g.2
  have hh := h.2
  have gg := g.2
  simp only [List.mem_cons, List.not_mem_nil, or_false, forall_eq_or_imp, forall_eq] at hh gg
  obtain ⟨x0, x1, x2, x3, x4, x5, x6, x7⟩ := hh
  obtain ⟨y0, y1, y2, y3, y4, y5, y6, y7⟩ := gg
  have e : bitsF' [1, 2] [a0, a1, a2, a3, a4, a5, a6, a7] [b0, b1, b2, b3, b4, b5, b6, b7] = [bitsV' [1, 2] a0 b0, bitsV' [1, 2] a1 b1, bitsV' [1, 2] a2 b2, bitsV' [1, 2] a3 b3, bitsV' [1, 2] a4 b4, bitsV' [1, 2] a5 b5, bitsV' [1, 2] a6 b6, bitsV' [1, 2] a7 b7] := rfl
  rw [bitOr_and]
  rw [ht]
  rw [e] at hin ⊢
  rw [(bits_of x0 y0).2.1, (bits_of x1 y1).2.1, (bits_of x2 y2).2.1, (bits_of x3 y3).2.1, (bits_of x4 y4).2.1, (bits_of x5 y5).2.1, (bits_of x6 y6).2.1, (bits_of x7 y7).2.1] at hin ⊢
  simp only [val8] at *
  lia
theorem ag_xor {ns ms : List Int} (h : Row ns) (g : Row ms) : Agree (bitsF' [1] ns ms) (Builtin.bitXor (sgn (val ns)) (sgn (val ms))) := by
  have hR := bits_row (ks := [1]) h g fun d e hx hy => (bits_of hx hy).2.2.2.2.2
  refine ⟨hR, ?_⟩
  have hin := row_in hR
  obtain ⟨tn, htn, _⟩ := sgn_of (val ns)
  obtain ⟨tm, htm, _⟩ := sgn_of (val ms)
  obtain ⟨a0, a1, a2, a3, a4, a5, a6, a7, rfl⟩ := eight h.1
  obtain ⟨b0, b1, b2, b3, b4, b5, b6, b7, rfl⟩ := eight g.1
  obtain ⟨t, ht⟩ := and_rows h.2 g.2
  have hh := h.2
  have gg := g.2
  simp only [List.mem_cons, List.not_mem_nil, or_false, forall_eq_or_imp, forall_eq] at hh gg
  obtain ⟨x0, x1, x2, x3, x4, x5, x6, x7⟩ := hh
  obtain ⟨y0, y1, y2, y3, y4, y5, y6, y7⟩ := gg
  have e : bitsF' [1] [a0, a1, a2, a3, a4, a5, a6, a7] [b0, b1, b2, b3, b4, b5, b6, b7] = [bitsV' [1] a0 b0, bitsV' [1] a1 b1, bitsV' [1] a2 b2, bitsV' [1] a3 b3, bitsV' [1] a4 b4, bitsV' [1] a5 b5, bitsV' [1] a6 b6, bitsV' [1] a7 b7] := rfl
  rw [bitXor_and]
  rw [ht]
  rw [e] at hin ⊢
  rw [(bits_of x0 y0).2.2.1, (bits_of x1 y1).2.2.1, (bits_of x2 y2).2.2.1, (bits_of x3 y3).2.2.1, (bits_of x4 y4).2.2.1, (bits_of x5 y5).2.2.1, (bits_of x6 y6).2.2.1, (bits_of x7 y7).2.2.1] at hin ⊢
  simp only [val8] at *
  lia
end Mine
end
-- M11
section
open PySem PySem.W
set_option linter.all false
namespace Mine
/-- what the two sides tell of one deed -/
noncomputable def Same (r : DRes) (q : Res) : Prop := match r, q with
  | .row x, .num z => Agree x z
  | .word a, .word b => a = b
  | _, _ => False
theorem due_told {k p : Int} {ns ms : List Int} (h0 : 0 ≤ k) (h1 : k < 13) (h : Row ns) (g : Row ms) : Same (dueF k ns ms p) (toldF k (sgn (val ns)) (sgn (val ms)) p) := by
  have hk : k = 0 ∨ k = 1 ∨ k = 2 ∨ k = 3 ∨ k = 4 ∨ k = 5 ∨ k = 6 ∨ k = 7 ∨ k = 8 ∨ k = 9 ∨ k = 10 ∨ k = 11 ∨ k = 12 := by lia
  rcases hk with rfl | rfl | rfl | rfl | rfl | rfl | rfl | rfl | rfl | rfl | rfl | rfl | rfl
  · exact ag_add h g
  · exact ag_sub h g
  · exact ag_mul h g
  · exact ag_and h g
  · exact ag_or h g
  · exact ag_xor h g
  · exact ag_inv h
  · exact ag_neg h
  · by_cases x : p.fmod 54 - 3 < 0
    · have e : toldF 8 (sgn (val ns)) (sgn (val ms)) p = .word (Str.ofString "shift") := if_pos x
      rw [due8w x, e]; exact rfl
    · have e : toldF 8 (sgn (val ns)) (sgn (val ms)) p = .num (sgn (val ns) * 2 ^ (p.fmod 54 - 3).toNat) := if_neg x
      rw [due8n (Int.not_lt.mp x), e]; exact ag_shl h _
  · by_cases x : p.fmod 54 - 3 < 0
    · have e : toldF 9 (sgn (val ns)) (sgn (val ms)) p = .word (Str.ofString "shift") := if_pos x
      rw [due9w x, e]; exact rfl
    · have e : toldF 9 (sgn (val ns)) (sgn (val ms)) p = .num ((sgn (val ns)).fdiv (2 ^ (p.fmod 54 - 3).toNat)) := if_neg x
      rw [due9n (Int.not_lt.mp x), e]; exact ag_div h (Int.ne_of_gt (Int.pow_pos (by decide)))
  · by_cases x : p.fmod 40 - 20 = 0
    · have e : toldF 10 (sgn (val ns)) (sgn (val ms)) p = .word (Str.ofString "nought") := if_pos x
      rw [due10w x, e]; exact rfl
    · have e : toldF 10 (sgn (val ns)) (sgn (val ms)) p = .num ((sgn (val ns)).fdiv (p.fmod 40 - 20)) := if_neg x
      rw [due10n x, e]; exact ag_div h x
  · by_cases x : p.fmod 40 - 20 = 0
    · have e : toldF 11 (sgn (val ns)) (sgn (val ms)) p = .word (Str.ofString "nought") := if_pos x
      rw [due11w x, e]; exact rfl
    · have e : toldF 11 (sgn (val ns)) (sgn (val ms)) p = .num ((sgn (val ns)).fmod (p.fmod 40 - 20)) := if_neg x
      rw [due11n x, e]; exact ag_mod h x
  · exact ag_one _
end Mine
end
-- M12
section
set_option linter.all false
set_option maxRecDepth 20000
namespace Mine
open PySem PySem.W
/-- the four alphabets' last two signs -/
noncomputable def Two (x y : Int) : Prop := (x = 43 ∧ y = 47) ∨ (x = 45 ∧ y = 95) ∨ (x = 33 ∧ y = 126) ∨ (x = 47 ∧ y = 43)
noncomputable def signL (x y : Int) : List Int := ((B64.take 62).map fun c => ((c.toNat : Nat) : Int)) ++ [x, y]
noncomputable def letter (x y d : Int) : Int := trI 43 47 x y (b64c d)
theorem fin_of {d : Int} (h : 0 ≤ d ∧ d < 64) : ∃ n : Fin 64, d = ((n.val : Nat) : Int) := ⟨⟨d.toNat, by (first | lia | omega)⟩, (Int.toNat_of_nonneg h.1).symm⟩
theorem letter_back {x y d : Int} (t : Two x y) (h : 0 ≤ d ∧ d < 64) : trI x y 43 47 (letter x y d) = b64c d := by
  obtain ⟨n, rfl⟩ := fin_of h
  have k : ∀ p ∈ [((43 : Int), (47 : Int)), (45, 95), (33, 126), (47, 43)], ∀ n : Fin 64, trI p.1 p.2 43 47 (letter p.1 p.2 ((n.val : Nat) : Int)) = b64c ((n.val : Nat) : Int) := by decide +kernel
  rcases t with ⟨rfl, rfl⟩ | ⟨rfl, rfl⟩ | ⟨rfl, rfl⟩ | ⟨rfl, rfl⟩
  · exact k (43, 47) (by simp) n
  · exact k (45, 95) (by simp) n
  · exact k (33, 126) (by simp) n
  · exact k (47, 43) (by simp) n
theorem letter_sign {x y d : Int} (t : Two x y) (h : 0 ≤ d ∧ d < 64) : (signL x y).getD d.toNat 0 = letter x y d := by
  obtain ⟨n, rfl⟩ := fin_of h
  have k : ∀ p ∈ [((43 : Int), (47 : Int)), (45, 95), (33, 126), (47, 43)], ∀ n : Fin 64, (signL p.1 p.2).getD (((n.val : Nat) : Int)).toNat 0 = letter p.1 p.2 ((n.val : Nat) : Int) := by decide +kernel
  rcases t with ⟨rfl, rfl⟩ | ⟨rfl, rfl⟩ | ⟨rfl, rfl⟩ | ⟨rfl, rfl⟩
  · exact k (43, 47) (by simp) n
  · exact k (45, 95) (by simp) n
  · exact k (33, 126) (by simp) n
  · exact k (47, 43) (by simp) n
theorem letter_in {x y d : Int} (t : Two x y) (h : 0 ≤ d ∧ d < 64) : 0 ≤ letter x y d ∧ letter x y d < 256 := by
  obtain ⟨n, rfl⟩ := fin_of h
  have k : ∀ p ∈ [((43 : Int), (47 : Int)), (45, 95), (33, 126), (47, 43)], ∀ n : Fin 64, 0 ≤ letter p.1 p.2 ((n.val : Nat) : Int) ∧ letter p.1 p.2 ((n.val : Nat) : Int) < 256 := by decide +kernel
  rcases t with ⟨rfl, rfl⟩ | ⟨rfl, rfl⟩ | ⟨rfl, rfl⟩ | ⟨rfl, rfl⟩
  · exact k (43, 47) (by simp) n
  · exact k (45, 95) (by simp) n
  · exact k (33, 126) (by simp) n
  · exact k (47, 43) (by simp) n
theorem letter_inj {x y d e : Int} (t : Two x y) (h : 0 ≤ d ∧ d < 64) (g : 0 ≤ e ∧ e < 64) (q : letter x y d = letter x y e) : d = e := by
  have a := letter_back t h
  have b := letter_back t g
  rw [q, b] at a
  have c := v_of_c h.1 h.2
  have d' := v_of_c g.1 g.2
  rw [← a, d'] at c
  exact c.symm
/-- the letters of a row are valid, and mean its figures -/
theorem row_letters {x y : Int} {ns : List Int} (t : Two x y) (h : Row ns) : (ns.map (letter x y)).map (trI x y 43 47) = ns.map b64c := by
  rw [List.map_map]
  exact List.map_congr_left fun d hd => letter_back t (h.2 d hd)
theorem row_valid {x y : Int} {ns : List Int} (t : Two x y) (h : Row ns) : ∀ k ∈ (ns.map (letter x y)).map (trI x y 43 47), k ≠ 61 ∧ b64v k < 64 := by
  rw [row_letters t h]
  intro k hk
  obtain ⟨d, hd, rfl⟩ := List.mem_map.mp hk
  have hd := h.2 d hd
  have hv := v_of_c hd.1 hd.2
  refine ⟨fun e => ?_, by (first | lia | omega)⟩
  rw [e] at hv
  have : b64v 61 = 64 := by decide
  (first | lia | omega)
theorem id_letters (c : Int) : trI 43 47 43 47 c = c := by unfold trI; split <;> (try split) <;> (first | lia | omega)
/-- counting and finding a letter in the writing is counting and finding the figure in the row -/
theorem count_letters {x y f : Int} (t : Two x y) (hf : 0 ≤ f ∧ f < 64) : ∀ (ns : List Int) (c : Int), (∀ d ∈ ns, 0 ≤ d ∧ d < 64) → (ns.map (letter x y)).foldl (fun c k => if k = letter x y f then c + 1 else c) c = ns.foldl (fun c k => if k = f then c + 1 else c) c
  | [], _, _ => rfl
  | d :: r, c, h => by
    have hd := h d (.head _)
    have e : (letter x y d = letter x y f) ↔ d = f := ⟨fun q => letter_inj t hd hf q, fun q => by rw [q]⟩
    rw [List.map_cons, List.foldl_cons, List.foldl_cons, count_letters t hf r _ fun z hz => h z (.tail _ hz)]
    simp only [e]
theorem any_letters {x y f : Int} (t : Two x y) (hf : 0 ≤ f ∧ f < 64) : ∀ (ns : List Int), (∀ d ∈ ns, 0 ≤ d ∧ d < 64) → (ns.map (letter x y)).any (· == letter x y f) = ns.any (· == f)
  | [], _ => rfl
  | d :: r, h => by
    have hd := h d (.head _)
    have e : (letter x y d == letter x y f) = (d == f) := by
      rw [Bool.eq_iff_iff, beq_iff_eq, beq_iff_eq]
      exact ⟨fun q => letter_inj t hd hf q, fun q => by rw [q]⟩
    rw [List.map_cons, List.any_cons, List.any_cons, e, any_letters t hf r fun z hz => h z (.tail _ hz)]
end Mine
end
-- LoopT
section
open PySem PySem.W PySem.Calls PyProof.Rows PyProof.V PySem.Spec
set_option linter.all false
set_option maxRecDepth 100000
namespace Mine
section
variable {prog : Program} {w : World} {A : Around} {E : Value → Shared → Prop} {s : Shared} {env : Env} {h₀ : Heap} {x : Str} {body : List Stmt} {Q : Flow → Shared → Prop}
/-- what a for-loop over bytes asks, when the items' tokens matter -/
noncomputable def BytesRest (prog : Program) (w : World) (A : Around) (E : Value → Shared → Prop) (h₀ : Heap) (env : Env) (x : Str) (body : List Stmt) (Q : Flow → Shared → Prop) (n0 : Nat) (xv : Value) (s : Shared) : Prop :=
  ∃ (σ : Type) (R : σ → (Str → Option Value) → List (Addr × Obj) → Prop) (g : σ → Int → σ) (c₀ : σ) (b : Array UInt8) (tb : Tok) (ks : List Int) (m₀ : Str → Option Value) (news : List (Addr × Obj)), xv = .bytes b tb ∧ KBw.bInts b = ks ∧ A.handled = none ∧ Fr h₀ env.locals s.heap m₀ ∧ News h₀ env.locals s.heap news ∧ n0 ≤ s.toks ∧ R c₀ m₀ news ∧
    (∀ i k t a m₁ nx h tk own, ks[i]? = some k → a = (ks.take i).foldl g c₀ → 0 ≤ k → k < 256 → @LE.le Nat _ n0 t → @LT.lt Nat _ t tk → OwnOff own (news.map (·.1)) → R a m₁ nx → Fr h₀ env.locals h (fun y => if y = x then some (.int k t) else m₁ y) → News h₀ env.locals h (nx ++ own) →
      wpAny (model prog w) A (execs body env) (InvPostN h₀ env.locals (R (g a k)) own (news.map (·.1)) { s with heap := h, toks := tk } Q) E { s with heap := h, toks := tk }) ∧
    (∀ m₁ nx h tk, R (ks.foldl g c₀) m₁ nx → Fr h₀ env.locals h m₁ → News h₀ env.locals h nx → Q .next { s with heap := h, toks := tk })
open KBw in
theorem for_bytesT {px pos : Pos} {iter : Expr} {n0 : Nat} (hx : env.kindOf x = some .local) (hp : (env.scope.kind == .class || (env.scope.kind == .module && env.locals != env.globals)) = false)
    (h : wpAny (model prog w) A (eval iter env) (fun xv s₁ => BytesRest prog w A E h₀ env x body Q n0 xv s₁) E s) (hs : ∀ x, foldedSetIterable iter env x = pure x := by intro _; rfl) (hE : PassesOwn (model prog w) A env E := by passes_own) :
    wpAny (model prog w) A (exec (.For (.Name x px) iter body [] pos) env) Q E s := by
  refine wpAny_For (wpAny_mono h (fun xv s₁ h₁ => ?_) fun _ _ e => e) hs
  obtain ⟨σ, R, g, c₀, b, tb, ks, m₀, news, rfl, rfl, hh, F, N, ht0, hR, turn, done⟩ := h₁
  refine pyIter_bytes ?_
  have hIs : s₁.heap.objs.size = s₁.heap.objs.size := rfl
  generalize hI : s₁.heap.objs.size = I at *
  have hnI : ∀ p ∈ news, p.1 ≠ I := fun p hp => by
    have := Heap.lt_size (N p hp).1
    rw [hI] at this
    exact Nat.ne_of_lt this
  have hLI : env.locals ≠ I := by
    have := F.ns.lt
    rw [hI] at this
    exact Nat.ne_of_lt this
  have hI0 : h₀.get? I = none := by
    cases e : h₀.get? I with
    | none => rfl
    | some o => exact absurd (Heap.lt_size (F.keep _ _ e)) (by rw [hI]; exact Nat.lt_irrefl _)
  have hlen : (bInts b).length = b.size := ints_length b
  refine codeAny_forLoop
    (fun k s' => ∃ h' tk m' nx i, s' = { s₁ with heap := h', toks := tk } ∧ n0 ≤ tk ∧ IsBytesIter h' I b tb i ∧ Fr h₀ env.locals h' m' ∧ News h₀ env.locals h' nx ∧ nx.map (·.1) = news.map (·.1) ∧ R (((bInts b).take i).foldl g c₀) m' nx ∧ i ≤ b.size ∧ k = b.size + 1 - i) ?_ (b.size + 1)
    ⟨_, s₁.toks, m₀, news, 0, rfl, ht0, ⟨_, hI ▸ Heap.get?_push_size _ rfl, rfl, rfl⟩, F.push _, fun p hp => ⟨Heap.get?_push_of_some _ (N p hp).1, (N p hp).2⟩, rfl, hR, Nat.zero_le _, rfl⟩
  rintro k s' ⟨h', tk, m', nx, i, rfl, htk, hit, F', N', hadr, hJ, hi, rfl⟩
  have hnx : ∀ p ∈ nx, p.1 ≠ I := fun p hp q => by
    have h1 : p.1 ∈ nx.map (·.1) := List.mem_map.mpr ⟨p, hp, rfl⟩
    rw [hadr] at h1
    obtain ⟨r, hr, he⟩ := List.mem_map.mp h1
    exact hnI r hr (he.trans q)
  by_cases hlt : i < b.size
  · refine next_item hit (c := b[i]) (by simp [hlt]) fun h₁ hit₁ hs₁ => ?_
    have F₁ : Fr h₀ env.locals h₁ m' := ⟨F'.ns.sameBut hs₁ hLI, fun b o e => hs₁.extBut b o (fun q => by rw [q, hI0] at e; cases e) (F'.keep b o e), F'.above⟩
    have N₁ : News h₀ env.locals h₁ nx := fun p hp => ⟨hs₁.extBut _ _ (hnx p hp) (N' p hp).1, (N' p hp).2⟩
    refine wpAny_assign_Name (wpAny_storeName_local hx F₁.ns (fun h₂ hn₂ hs₂ => ?_) hp)
    have F₂ := F₁.set hn₂ hs₂
    obtain ⟨oI, hoI, hIc, hId⟩ := id hit₁
    have hoI₂ : h₂.get? I = some oI := hs₂.extBut _ _ (Ne.symm hLI) hoI
    have N₂ : News h₀ env.locals h₂ (nx ++ [(I, oI)]) := fun p hp => by
      rcases List.mem_append.mp hp with hp | hp
      · exact (N₁.set hs₂) p hp
      · rw [List.mem_singleton.mp hp]; exact ⟨hoI₂, Ne.symm hLI, hI0⟩
    have hg : (bInts b)[i]? = some ((b[i].toNat : Nat) : Int) := ints_get (by simp [hlt])
    have hin := ints_in (b := b) (List.mem_of_getElem? hg)
    have hsep : OwnOff [(I, oI)] (news.map (·.1)) := fun p hp b hb e => by
      obtain ⟨q, hq, rfl⟩ := List.mem_map.mp hb
      rw [List.mem_singleton.mp hp] at e
      exact hnI q hq e.symm
    have ht := turn i _ tk _ m' nx h₂ (tk + 1 + 1) [(I, oI)] hg rfl hin.1 hin.2 htk (by show tk < tk + 1 + 1; (first | lia | omega)) hsep hJ F₂ N₂
    refine wpAny_mono (wpAny_toks_of (n := n0) (by show n0 ≤ tk + 1 + 1; (first | lia | omega)) (wpAny_passesOwn hE ht)) (fun f s₃ h₃ => ?_) fun _ _ e => e.2
    obtain ⟨htoks, h₃⟩ := h₃
    have hst : ((bInts b).take (i + 1)).foldl g c₀ = g (((bInts b).take i).foldl g c₀) ((b[i].toNat : Nat) : Int) := by
      rw [List.take_add_one, hg]; simp
    have fin : InvEndN h₀ env.locals (R (g (((bInts b).take i).foldl g c₀) ((b[i].toNat : Nat) : Int))) [(I, oI)] (news.map (·.1)) { s₁ with heap := h₂, toks := tk + 1 + 1 } s₃ →
        ∃ m, m < b.size + 1 - i ∧ ∃ h' tk m' nx i, s₃ = { s₁ with heap := h', toks := tk } ∧ n0 ≤ tk ∧ IsBytesIter h' I b tb i ∧ Fr h₀ env.locals h' m' ∧ News h₀ env.locals h' nx ∧ nx.map (·.1) = news.map (·.1) ∧ R (((bInts b).take i).foldl g c₀) m' nx ∧ i ≤ b.size ∧ m = b.size + 1 - i := by
      rintro ⟨h₄, tk₄, m₄, news₄, nx₄, rfl, F₄, N₄, hn₄, ho₄, ha₄, hj₄⟩
      refine ⟨b.size + 1 - (i + 1), by (first | lia | omega), h₄, tk₄, m₄, nx₄, i + 1, rfl, htoks, ⟨oI, (N₄ _ (ho₄ _ (.head _))).1, hIc, hId⟩, F₄, fun p hp => N₄ p (hn₄ p hp), ha₄, ?_, hlt, rfl⟩
      rw [hst]; exact hj₄
    cases f with
    | ret v => exact h₃
    | brk => exact h₃
    | next => exact fin h₃
    | cont => exact fin h₃
  · obtain rfl : i = b.size := Nat.le_antisymm hi (Nat.not_lt.mp hlt)
    refine next_end hh hit (by simp) fun h₁ he₁ => ?_
    refine wpAny_execs_nil ?_
    rw [← hlen, List.take_length] at hJ
    exact done m' nx h₁ _ hJ ⟨F'.ns.at' fun o e => he₁ _ o hLI e, fun b o e => he₁ b o (fun q => by rw [q, hI0] at e; cases e) (F'.keep b o e), F'.above⟩ fun p hp => ⟨he₁ _ _ (hnx p hp) (N' p hp).1, (N' p hp).2⟩
end
end Mine
end
-- InB
section
open PySem PySem.W PySem.Calls PyProof.Rows PyProof.V PySem.Spec
set_option linter.all false
set_option maxRecDepth 100000
namespace Mine
theorem has_byte (b : Array UInt8) {x : Int} (h0 : 0 ≤ x) (h1 : x < 256) : b.contains x.toNat.toUInt8 = (KBw.bInts b).any (· == x) := by
  obtain ⟨l⟩ := b
  show (List.toArray l).contains _ = (l.map fun c => ((c.toNat : Nat) : Int)).any (· == x)
  rw [List.contains_toArray]
  induction l with
  | nil => rfl
  | cons c r ih =>
    rw [List.contains_cons, List.map_cons, List.any_cons, ih]
    congr 1
    have : (x.toNat.toUInt8 == c) = (((c.toNat : Nat) : Int) == x) := by
      rw [Bool.eq_iff_iff, beq_iff_eq, beq_iff_eq]
      have e : x.toNat.toUInt8.toNat = x.toNat := by
        show (UInt8.ofNat x.toNat).toNat = x.toNat
        rw [UInt8.toNat_ofNat']; (first | lia | omega)
      constructor
      · rintro rfl; rw [e]; (first | lia | omega)
      · intro h; apply UInt8.toNat.inj; rw [e]; (first | lia | omega)
    exact this
section
variable {prog : Program} {w : World} {A : Around} {E : Value → Shared → Prop} {s : Shared}
theorem bytes_type {b : Array UInt8} {t : Tok} : s.TypeIs (.bytes b t) "bytes" := PySem.W.typeIs_bytes _ _ _
theorem in_bytes {b : Array UInt8} {t u : Tok} {x : Int} {Q : Value → Shared → Prop} (h0 : 0 ≤ x := by assumption) (h1 : x < 256 := by assumption) (h : Q (.bool ((KBw.bInts b).any (· == x))) s) : wpAny (model prog w) A (compareOp .In (.int x u) (.bytes b t)) Q E s := by
  show wpAny _ _ (do return .bool (← contains (.bytes b t) (.int x u))) Q E s
  refine wpAny_bind (contains_slot bytes_type PySem.W.FB.slot_bytes_contains (wpAny_call_entry PySem.W.FB.slot_bytes_contains bytes_type PySem.W.FB.entry_bytes_contains ?_ (PySem.W.FB.args_bytes_contains_2 _ _)))
  unfold Builtin.«bytes.__contains__»
  refine wpAny_bind (wpAny_of_eq (a := (.bytes b t, [.int x u])) (by first | rfl | kernel_rfl) ?_)
  refine wpAny_bind ?_
  unfold Builtin.Bytes.containsIn
  refine wpAny_bind (wpAny_attempt (wpAny_of_eq (a := x) rfl ?_))
  refine wpAny_bind (wpAny_of_eq (a := some b) (by first | rfl | kernel_rfl) ?_)
  dsimp only
  rw [if_neg (by simp only [Bool.or_eq_true, decide_eq_true_eq]; (first | lia | omega))]
  refine wpAny_pure ?_
  rw [has_byte b h0 h1]
  exact wpAny_pure ⟨_, rfl, wpAny_truthy_bool (wpAny_pure h)⟩
end
end Mine
end
-- T9
section
open PySem PySem.W PySem.Calls PyProof.Rows
set_option linter.all false
set_option maxRecDepth 100000
namespace Mine
local macro_rules | `(tactic| k_room) => `(tactic| k_call_by "m_room" x x)
local macro_rules | `(tactic| walk_at $k) => if ["exec For Name Name cons nil", "InvEndN", "BytesRest"].contains k.getString then `(tactic| refine Mine.stop ?_) else Lean.Macro.throwUnsupported
local macro_rules | `(tactic| walk_at "compareOp In int bytes") => `(tactic| refine Mine.in_bytes (h := ?_))
local macro_rules | `(tactic| walk_at "compareOp Is int int") => `(tactic| refine Mine.is_small (h := ?_))
/-- the count stands -/
noncomputable def AtStart (g : Heap) (L : Addr) (m : Str → Option Value) (s : Shared) (f : Flow) (s' : Shared) : Prop := f = .next ∧ ∃ h tk tc, s' = { s with heap := h, toks := tk } ∧ Fr g L h (fun y => if y = Str.ofString "count" then some (.int 0 tc) else m y) ∧ News g L h []
theorem execs_first {M : Model} {A : Around} {E : Value → Shared → Prop} {s : Shared} {env : Env} {st : Stmt} {rest : List Stmt} {Q : Flow → Shared → Prop} {P : Flow → Shared → Prop} {n : Nat} (hn : n ≤ s.toks) (h : wpAny M A (exec st env) (fun f s' => P f s') E s)
    (k : ∀ f s', P f s' → n ≤ s'.toks → f = .next ∧ wpAny M A (execs rest env) Q E s') : wpAny M A (execs (st :: rest) env) Q E s := by
  rw [execs_cons]
  refine wpAny_bind (wpAny_mono (wpAny_toks_of hn h) (fun f s' x => ?_) fun _ _ e => e.2)
  obtain ⟨rfl, y⟩ := k f s' x.2 x.1
  exact y
theorem count_first {M : Model} {A : Around} {E : Value → Shared → Prop} {s : Shared} {env : Env} {st : Stmt} {rest : List Stmt} {Q : Flow → Shared → Prop} {n : Nat} {g : Heap} {L : Addr} {m : Str → Option Value} (_F : Fr g L s.heap m) (hn : n ≤ s.toks) (h : wpAny M A (exec st env) (fun f s' => AtStart g L m s f s') E s)
    (k : ∀ h1 tk1 tc, Fr g L h1 (fun y => if y = Str.ofString "count" then some (.int 0 tc) else m y) → News g L h1 [] → n ≤ tk1 → wpAny M A (execs rest env) Q E { s with heap := h1, toks := tk1 }) : wpAny M A (execs (st :: rest) env) Q E s :=
  execs_first hn h fun f s' x ht => by
    obtain ⟨rfl, h1, tk1, tc, rfl, F1, N1⟩ := x
    exact ⟨rfl, k h1 tk1 tc F1 N1 ht⟩
noncomputable def countG (x : Int) (c : Int) (k : Int) : Int := if k = x then c + 1 else c
set_option maxHeartbeats 3000000
section
variable {w : World} {loose : List Str} {mean : ExcName → Option Value} {mg mb : Str → Option Value} {base : Heap} {env : Env} {outer : List Env} {A : Around} {s : Shared}
theorem contains_tells (C : CanB w loose mean mg mb base env outer A s.heap) (hr : A.depth + 10 < recursionLimit) {b : Array UInt8} {t : Tok} {x : Int} {u : Tok} (h0 : 0 ≤ x) (h1 : x < 256) :
   wpAny (model pr w) A (call (.ref 161) [.bytes b t, .int x u]) (Out s (RBool ((KBw.bInts b).any (· == x)))) NoE s := by
  obtain ⟨hd0, dp, fr, gd, un⟩ := A
  have hr0 : dp < recursionLimit := by simp only at hr; (first | lia | omega)
  k_call_by "m_enter" C [(Str.ofString "a", Value.bytes b t), (Str.ofString "b", Value.int x u)]
  obtain rfl : fr = some (env :: outer) := by assumption
  k_fold
  k_steps
  exact out_bool (by assumption)
theorem countOf_tells (C : CanB w loose mean mg mb base env outer A s.heap) (hr : A.depth + 10 < recursionLimit) (hh : A.handled = none) {b : Array UInt8} {t : Tok} {ks : List Int} (hk : KBw.bInts b = ks) (hlen : ks.length ≤ 20) {x : Int} {u : Tok} (h0 : 0 ≤ x) (h1 : x < 256) (hu0 : u ≠ 0) (hu : @LT.lt Nat _ u s.toks) :
   wpAny (model pr w) A (call (.ref 168) [.bytes b t, .int x u]) (Out s (RInt (ks.foldl (countG x) 0))) NoE s := by
  obtain ⟨hd0, dp, fr, gd, un⟩ := A
  obtain rfl : hd0 = none := hh
  have hr0 : dp < recursionLimit := by simp only at hr; (first | lia | omega)
  k_call_by "m_enter" C [(Str.ofString "a", Value.bytes b t), (Str.ofString "b", Value.int x u)]
  obtain rfl : fr = some (env :: outer) := by assumption
  rename Fr _ _ _ _ => F0
  refine count_first (n := Nat.succ u) F0 (Nat.le_trans (Nat.succ_le_of_lt hu) (Nat.le_add_right _ _)) ?_ ?_
  rotate_left
  · intro h1' tk1 tc1 F1 N1 htk
    clear F0
    have htk' : @LT.lt Nat _ u tk1 := htk
    show wpAny _ _ _ _ _ _
    k_fold
    k_steps
    rename Fr _ _ _ _ => F2
    refine Stop.go (for_bytesT (h₀ := s.heap) (n0 := Nat.succ u) rfl rfl ?_)
    k_steps
    rename Fr _ _ _ _ => F3
    rename News _ _ _ _ => N3
    have hMk := kstMark
    refine Stop.go ⟨Int, fun c m nx => (∃ tc, Sees m [(Str.ofString "count", .int c tc), (Str.ofString "b", .int x u)]) ∧ nx = [], countG x, 0, b, t, ks, _, _, rfl, hk, rfl, F3, N3, htk, ⟨⟨_, sees_cons rfl (sees_cons rfl sees_nil)⟩, rfl⟩, ?_, ?_⟩
    · rintro i k t5 a m₁ nx h5 tk5 own hki hac hk0 hk1 ht0 ht1 hoff ⟨⟨tc, hs⟩, rfl⟩ F5 N5
      have hne : t5 ≠ u := fun e => by rw [e] at ht0; exact Nat.not_succ_le_self _ ht0
      have hnz : t5 ≠ 0 := fun e => by rw [e] at ht0; exact Nat.not_succ_le_zero _ ht0
      replace F5 := fr_over hs F5
      simp only [over, List.map_cons, List.map_nil] at F5 hoff
      clear F3 N3 hs
      show wpAny _ _ _ _ _ _
      k_fold
      k_steps
      · rename Fr _ _ _ _ => F6
        rename News _ _ _ _ => N6
        have e : countG x a k = a + 1 := if_pos (by assumption)
        rw [e]
        exact Stop.go (InvEndN.intro (nx := []) F6 N6 ⟨⟨_, sees_cons rfl (sees_cons rfl sees_nil)⟩, rfl⟩ rfl (fun p hp => nomatch hp) (fun p hp => by simpa using hp))
      · exfalso
        exact absurd (by assumption : k = x) (by assumption)
      · rename Fr _ _ _ _ => F6
        rename News _ _ _ _ => N6
        have e : countG x a k = a := if_neg (by assumption)
        rw [e]
        exact Stop.go (InvEndN.intro (nx := []) F6 N6 ⟨⟨_, sees_cons rfl (sees_cons rfl sees_nil)⟩, rfl⟩ rfl (fun p hp => nomatch hp) (fun p hp => by simpa using hp))
    · rintro m₁ nx h5 tk5 ⟨⟨tc, hs⟩, rfl⟩ F5 N5
      replace F5 := fr_overD hs F5
      simp only [over] at F5
      clear F3 N3 hs
      k_steps
      exact out_int (by assumption)
  · clear hu
    show wpAny _ _ _ _ _ _
    k_fold
    k_steps
    exact ⟨rfl, _, _, _, rfl, by assumption, by assumption⟩
end
end Mine
end
-- EnumB
section
open PySem PySem.W PySem.Calls PyProof.Rows PyProof.V PySem.Spec
set_option linter.all false
set_option maxRecDepth 100000
namespace Mine
open KBw (IsBytesIter iter_typeIs slot_next entry_next args_next pyIter_bytes)
theorem sub_enum : isSubtype (.type "enumerate") (.type "enumerate") = pure true := sub_enumerate
noncomputable abbrev enumNew (I : Addr) : Obj := { cls := .type "enumerate", data := .fields #[.none, .bool false, .ref I, rawInt 0, .none, .none] }
noncomputable abbrev iterNew (b : Array UInt8) (t : Tok) : Obj := { cls := .type "bytes_iterator", data := .fields #[.bytes b t, .int 0 0] }
set_option maxHeartbeats 1000000 in
theorem meets_enum_bytes (b : Array UInt8) (t : Tok) :
    Meets (Builtin.«enumerate.__new__» ⟨[.type "enumerate", .bytes b t], []⟩) (fun _ R s =>
      R (.ok (.ret (.ref (s.heap.push (iterNew b t)).objs.size))) { s with heap := (s.heap.push (iterNew b t)).push (enumNew s.heap.objs.size) }) :=
  .of_wp fun prog w A R s h => by
    obtain ⟨hp, g, d, tk, os⟩ := s
    have hsub := sub_enum
    wp_walk
    refine wpAny_stack_any fun st => wpAny_pure ?_
    split
    · rename_i c _ _ _ _ _
      cases (c == Value.type "enumerate")
      · wp_walk using pyIter_bytes
        exact ⟨_, rfl, h⟩
      · wp_walk using pyIter_bytes
        exact ⟨_, rfl, h⟩
    · wp_walk using pyIter_bytes
      exact ⟨_, rfl, h⟩
section
variable {prog : Program} {w : World} {A : Around} {E : Value → Shared → Prop} {s : Shared} {b : Array UInt8} {t : Tok}
theorem call_enum_bytes {Q : Value → Shared → Prop}
    (h : ∀ h', IsEnum h' (s.heap.objs.size + 1) s.heap.objs.size 0 .none → IsBytesIter h' s.heap.objs.size b t 0 → h'.objs.size = s.heap.objs.size + 2 →
      (∀ b o, s.heap.get? b = some o → h'.get? b = some o) → Q (.ref (s.heap.objs.size + 1)) { s with heap := h' }) :
    wpAny (model prog w) A (call (.type "enumerate") [.bytes b t]) Q E s := by
  refine callType_new F.called_enumerate (by decide) (F.typeCall_enumerate_1 _) (F.newCall_enumerate_1 _) (fun obj => F.args_object_init_2 obj _) F.entry_enumerate_new (meets_enum_bytes b t) ?_
  have hz : (s.heap.push (iterNew b t)).objs.size = s.heap.objs.size + 1 := Heap.size_push ..
  show _ ∧ _
  rw [hz]
  have he : IsEnum ((s.heap.push (iterNew b t)).push (enumNew s.heap.objs.size)) (s.heap.objs.size + 1) s.heap.objs.size 0 .none := by
    have := Heap.get?_push_size (s.heap.push (iterNew b t)) (o := enumNew s.heap.objs.size) rfl
    rw [hz] at this; exact this
  exact ⟨⟨_, he, rfl⟩, h _ he ⟨_, Heap.get?_push_of_some _ (Heap.get?_push_size _ rfl), rfl, rfl⟩ (by rw [Heap.size_push, hz]) fun b o x => Heap.get?_push_of_some _ (Heap.get?_push_of_some _ x)⟩
theorem nextOf_byte {it : Addr} {i : Nat} {c : UInt8} {Q : Value → Shared → Prop} (hit : IsBytesIter s.heap it b t i) (hx : b[i]? = some c)
    (hQ : ∀ h', IsBytesIter h' it b t (i + 1) → Heap.SameBut it s.heap h' → Q (.int (c.toNat : Int) s.toks) { s with heap := h', toks := s.toks + 1 }) :
    wpAny (model prog w) A (Builtin.SmallTypes.nextOf (.ref it)) Q E s := by
  obtain ⟨o, ho, hc, hd⟩ := id hit
  unfold Builtin.SmallTypes.nextOf
  refine wpAny_bind (wpAny_callSpecial?_slot (name := Str.ofString "__next__") (iter_typeIs hit) slot_next (wpAny_call_entry slot_next (iter_typeIs hit) entry_next ?_ (args_next _)))
  show wpAny _ _ (field (.ref it) 0 >>= _) _ _ s
  refine wpAny_bind (wpAny_field ho hd (x := .bytes b t) rfl ?_)
  show wpAny _ _ (if (Value.bytes b t == Value.none) = true then _ else _) _ _ s
  rw [if_neg (show ¬ ((Value.bytes b t == Value.none) = true) from Bool.false_ne_true)]
  show wpAny _ _ (field (.ref it) 1 >>= _) _ _ s
  refine wpAny_bind (wpAny_field ho hd (x := .int i 0) rfl ?_)
  refine wpAny_bind (wpAny_of_eq (a := b) rfl ?_)
  simp only [Int.toNat_natCast, hx]
  refine wpAny_bind (wpAny_setField ho hd (by simp) (wpAny_bind (wpAny_mkInt (wpAny_pure ⟨_, rfl, wpAny_pure (hQ _ ?_ (Heap.SameBut.update ..))⟩))))
  exact ⟨_, Heap.get?_update_self _ ho (Obj.isFreed_of_fields (Obj.data_mapFields hd _)), (Obj.cls_mapFields ..).trans hc, by
    rw [Obj.data_mapFields hd]; simp [rawInt]⟩
end
end Mine
end
-- EnumC
section
open PySem PySem.W PySem.Calls PyProof.Rows PyProof.V PySem.Spec
set_option linter.all false
set_option maxRecDepth 100000
namespace Mine
open KBw (IsBytesIter iter_typeIs)
theorem iter_but {h h' : Heap} {a c : Addr} {b : Array UInt8} {t : Tok} {i : Nat} (x : IsBytesIter h a b t i) (hs : Heap.ExtBut c h h') (hac : a ≠ c) : IsBytesIter h' a b t i := let ⟨o, ho, r⟩ := x; ⟨o, hs a o hac ho, r⟩
section
variable {prog : Program} {w : World} {A : Around} {E : Value → Shared → Prop} {s : Shared} {b : Array UInt8} {t : Tok}
theorem enum_byte {e it : Addr} {i : Nat} {c : UInt8} {old : Value} {Q : Value → Shared → Prop}
    (he : IsEnum s.heap e it i old) (hit : IsBytesIter s.heap it b t i) (hx : b[i]? = some c) (hne : e ≠ it)
    (hQ : ∀ h', IsEnumOut h' e it ((i : Int) + 1) (.int (c.toNat : Int) s.toks) s.heap.objs.size → IsBytesIter h' it b t (i + 1) →
      h'.get? s.heap.objs.size = some { cls := .type "tuple", data := .seq #[.int i (s.toks + 1), .int (c.toNat : Int) s.toks] } → h'.objs.size = s.heap.objs.size + 1 →
      (∀ b o, b ≠ e → b ≠ it → s.heap.get? b = some o → h'.get? b = some o) → Q (.ref s.heap.objs.size) { s with heap := h', toks := s.toks + 1 + 1 }) :
    wpAny (model prog w) A (Builtin.«enumerate.__next__» ⟨[.ref e], []⟩) (fun fin s' => ∃ v, fin = .done (.ret v) ∧ Q v s') E s := by
  obtain ⟨hp, g, d, tk, os⟩ := s
  show wpAny _ _ (field (.ref e) 2 >>= _) _ _ _
  refine wpAny_bind (wpAny_field he rfl (x := .ref it) rfl ?_)
  refine wpAny_bind (nextOf_byte hit hx fun h₁ hit₁ hs₁ => ?_)
  replace hs₁ : Heap.SameBut it hp h₁ := hs₁
  have he₁ : IsEnum h₁ e it i old := (hs₁.2 e hne).trans he
  show wpAny _ _ (field (.ref e) 3 >>= _) _ _ ⟨h₁, g, d, tk + 1, os⟩
  refine wpAny_bind (wpAny_field he₁ rfl (x := rawInt i) rfl ?_)
  show wpAny _ _ (field (.ref e) 4 >>= _) _ _ ⟨h₁, g, d, tk + 1, os⟩
  refine wpAny_bind (wpAny_field he₁ rfl (x := .none) rfl ?_)
  show wpAny _ _ (mkInt i >>= _) _ _ ⟨h₁, g, d, tk + 1, os⟩
  refine wpAny_bind (wpAny_mkInt ?_)
  show wpAny _ _ (setField (.ref e) 3 (rawInt ((i : Int) + 1)) >>= _) _ _ ⟨h₁, g, d, tk + 1 + 1, os⟩
  refine wpAny_bind (wpAny_setField_rec he₁ (by simp) fun h₂ he₂ hs₂ => ?_)
  replace hs₂ : Heap.SameBut e h₁ h₂ := hs₂
  replace he₂ : IsEnum h₂ e it ((i : Int) + 1) old := he₂
  show wpAny _ _ (setField (.ref e) 4 .none >>= _) _ _ ⟨h₂, g, d, tk + 1 + 1, os⟩
  refine wpAny_bind (wpAny_setField_rec he₂ (by simp) fun h₃ he₃ hs₃ => ?_)
  replace hs₃ : Heap.SameBut e h₂ h₃ := hs₃
  replace he₃ : IsEnum h₃ e it ((i : Int) + 1) old := he₃
  show wpAny _ _ (newTuple [.int i (tk + 1), .int (c.toNat : Int) tk] >>= _) _ _ ⟨h₃, g, d, tk + 1 + 1, os⟩
  refine wpAny_bind (wpAny_newTuple ?_)
  have he₄ : IsEnum (h₃.push { cls := .type "tuple", data := .seq #[.int i (tk + 1), .int (c.toNat : Int) tk] }) e it ((i : Int) + 1) old := Heap.get?_push_of_some _ he₃
  generalize hh₄ : h₃.push { cls := .type "tuple", data := .seq #[.int i (tk + 1), .int (c.toNat : Int) tk] } = h₄ at he₄
  have hsz : h₃.objs.size = hp.objs.size := by rw [hs₃.1, hs₂.1, hs₁.1]
  have hel : e < hp.objs.size := Heap.lt_size he
  have ht₄ : h₄.get? hp.objs.size = some { cls := .type "tuple", data := .seq #[.int i (tk + 1), .int (c.toNat : Int) tk] } := by rw [← hh₄, ← hsz]; exact Heap.get?_push_size _ rfl
  have hz₄ : h₄.objs.size = hp.objs.size + 1 := by rw [← hh₄, Heap.size_push, hsz]
  have hk₄ : ∀ b o, b ≠ e → b ≠ it → hp.get? b = some o → h₄.get? b = some o := fun b o hbe hbi hb => by
    rw [← hh₄]; exact Heap.get?_push_of_some _ (hs₃.extBut b o hbe (hs₂.extBut b o hbe (hs₁.extBut b o hbi hb)))
  have hit₄ : IsBytesIter h₄ it b t (i + 1) := by
    rw [← hh₄]; obtain ⟨o, ho, r⟩ := iter_but (iter_but hit₁ hs₂.extBut (Ne.symm hne)) hs₃.extBut (Ne.symm hne); exact ⟨o, Heap.get?_push_of_some _ ho, r⟩
  show wpAny _ _ (Builtin.SmallTypes.ownedTupleIsFree (.ref e) >>= _) _ _ ⟨h₄, g, d, tk + 1 + 1, os⟩
  rw [hsz]
  clear hh₄ he₃ hs₃ he₂ hs₂ he₁ hs₁ hit₁ hsz h₃ h₂ h₁
  refine wpAny_bind ?_
  unfold Builtin.SmallTypes.ownedTupleIsFree
  refine wpAny_bind (wpAny_field he₄ rfl (x := .none) rfl (wpAny_pure ?_))
  simp only [if_true]
  refine wpAny_bind (wpAny_rule ?_)
  refine wpAny_bind (wpAny_field he₄ rfl (x := old) rfl ?_)
  refine wpAny_bind (wpAny_setField_rec he₄ (by simp) fun h₅ he₅ hs₅ => ?_)
  replace hs₅ : Heap.SameBut e h₄ h₅ := hs₅
  replace he₅ : IsEnum h₅ e it ((i : Int) + 1) (.int (c.toNat : Int) tk) := he₅
  show wpAny _ _ (Builtin.SmallTypes.ownedTupleHandOut (.ref e) (.ref hp.objs.size) >>= _) _ _ ⟨h₅, g, d, tk + 1 + 1, os⟩
  refine wpAny_bind ?_
  unfold Builtin.SmallTypes.ownedTupleHandOut
  refine wpAny_bind (wpAny_setField_rec he₅ (by simp) fun h₆ he₆ hs₆ => ?_)
  replace hs₆ : Heap.SameBut e h₅ h₆ := hs₆
  replace he₆ : IsEnumOut h₆ e it ((i : Int) + 1) (.int (c.toNat : Int) tk) hp.objs.size := he₆
  refine wpAny_setField_rec he₆ (by simp) fun h₇ he₇ hs₇ => ?_
  replace hs₇ : Heap.SameBut e h₆ h₇ := hs₇
  replace he₇ : IsEnumOut h₇ e it ((i : Int) + 1) (.int (c.toNat : Int) tk) hp.objs.size := he₇
  refine wpAny_bind (wpAny_letGo (wpAny_pure ⟨_, rfl, hQ h₇ he₇ ?_ ?_ ?_ ?_⟩))
  · exact iter_but (iter_but (iter_but hit₄ hs₅.extBut (Ne.symm hne)) hs₆.extBut (Ne.symm hne)) hs₇.extBut (Ne.symm hne)
  · exact hs₇.extBut _ _ (Nat.ne_of_gt hel) (hs₆.extBut _ _ (Nat.ne_of_gt hel) (hs₅.extBut _ _ (Nat.ne_of_gt hel) ht₄))
  · rw [hs₇.1, hs₆.1, hs₅.1, hz₄]
  · exact fun b o hbe hbi hb => hs₇.extBut b o hbe (hs₆.extBut b o hbe (hs₅.extBut b o hbe (hk₄ b o hbe hbi hb)))
theorem next_enum_byte {e it : Addr} {i : Nat} {c : UInt8} {old : Value} {Q : Option Value → Shared → Prop}
    (he : IsEnum s.heap e it i old) (hit : IsBytesIter s.heap it b t i) (hx : b[i]? = some c) (hne : e ≠ it)
    (hQ : ∀ h', IsEnumOut h' e it ((i : Int) + 1) (.int (c.toNat : Int) s.toks) s.heap.objs.size → IsBytesIter h' it b t (i + 1) →
      h'.get? s.heap.objs.size = some { cls := .type "tuple", data := .seq #[.int i (s.toks + 1), .int (c.toNat : Int) s.toks] } → h'.objs.size = s.heap.objs.size + 1 →
      (∀ b o, b ≠ e → b ≠ it → s.heap.get? b = some o → h'.get? b = some o) → Q (some (.ref s.heap.objs.size)) { s with heap := h', toks := s.toks + 1 + 1 }) :
    wpAny (model prog w) A (pyNext (.ref e)) Q E s := by
  have hT : s.TypeIs (.ref e) "enumerate" := ⟨_, he, rfl⟩
  unfold pyNext
  exact wpAny_bind (wpAny_attempt (wpAny_callSpecial?_slot (name := Str.ofString "__next__") hT F.slot_enumerate_next
    (wpAny_call_entry F.slot_enumerate_next hT F.entry_enumerate_next
      (enum_byte he hit hx hne fun h' a b c d k => wpAny_pure (hQ h' a b c d k)) (F.args_enumerate_next_1 _))))
theorem next_enum_over {e it : Addr} {i : Nat} {old : Value} {Q : Option Value → Shared → Prop} (hh : A.handled = none)
    (he : IsEnum s.heap e it i old) (hit : IsBytesIter s.heap it b t i) (hx : b[i]? = none)
    (hQ : ∀ h', Heap.ExtBut it s.heap h' → Q none { s with heap := h' }) : wpAny (model prog w) A (pyNext (.ref e)) Q E s := by
  have hT : s.TypeIs (.ref e) "enumerate" := ⟨_, he, rfl⟩
  unfold pyNext
  refine wpAny_bind (wpAny_attempt (wpAny_callSpecial?_slot (name := Str.ofString "__next__") hT F.slot_enumerate_next
    (wpAny_call_entry F.slot_enumerate_next hT F.entry_enumerate_next ?_ (F.args_enumerate_next_1 _))))
  show wpAny _ _ (field (.ref e) 2 >>= _) _ _ _
  refine wpAny_bind (wpAny_field he rfl (x := .ref it) rfl ?_)
  refine wpAny_bind ?_
  obtain ⟨o, ho, hc, hd⟩ := id hit
  unfold Builtin.SmallTypes.nextOf
  refine wpAny_bind (wpAny_callSpecial?_slot (name := Str.ofString "__next__") (iter_typeIs hit) KBw.slot_next (wpAny_call_entry KBw.slot_next (iter_typeIs hit) KBw.entry_next ?_ (KBw.args_next _)))
  show wpAny _ _ (field (.ref it) 0 >>= _) _ _ s
  refine wpAny_bind (wpAny_field ho hd (x := .bytes b t) rfl ?_)
  show wpAny _ _ (if (Value.bytes b t == Value.none) = true then _ else _) _ _ s
  rw [if_neg (show ¬ ((Value.bytes b t == Value.none) = true) from Bool.false_ne_true)]
  show wpAny _ _ (field (.ref it) 1 >>= _) _ _ s
  refine wpAny_bind (wpAny_field ho hd (x := .int i 0) rfl ?_)
  refine wpAny_bind (wpAny_of_eq (a := b) rfl ?_)
  simp only [Int.toNat_natCast, hx]
  refine wpAny_bind (wpAny_rule (wpAny_bind (wpAny_setField ho hd (by simp) ?_)))
  refine wpAny_bind (m := newExc (.type "StopIteration") []) ?_
  simp only [newExc, newTuple]
  refine wpAny_bind (wpAny_newObj_type ?_ (by size_fits))
  refine wpAny_bind (m := firstArgMember _ _) (wpAny_of_eq (a := Value.none) (by first | rfl | (simp only [firstArgMember]; rfl)) ?_)
  refine wpAny_newObj_type ?_ (by size_fits)
  simp only [raiseNew]
  refine wpAny_bind (wpAny_handled ?_)
  first | rw [show A.in1.in1.handled = none from hh] | rw [show A.in1.handled = none from hh] | rw [hh]
  refine wpAny_bind (wpAny_pure (wpAny_throw ?_))
  refine wpAny_bind (wpAny_isInstance (T := "StopIteration") (b := true) ⟨_, Heap.get?_push_size _ rfl, rfl⟩ isSubtype_stop ?_)
  exact wpAny_pure (hQ _ (((Heap.SameBut.update ..).extBut.push _).push _))
end
end Mine
end
-- EnumL
section
open PySem PySem.W PySem.Calls PyProof.Rows PyProof.V PySem.Spec
set_option linter.all false
set_option maxRecDepth 100000
namespace Mine
section
variable {prog : Program} {w : World} {A : Around} {E : Value → Shared → Prop} {s : Shared} {env : Env} {h₀ : Heap} {xi xj : Str} {body orelse : List Stmt} {Q : Flow → Shared → Prop}
/-- what a for-loop over enumerate(bytes) asks -/
noncomputable def EnumRest (prog : Program) (w : World) (A : Around) (E : Value → Shared → Prop) (h₀ : Heap) (env : Env) (xi xj : Str) (body orelse : List Stmt) (Q : Flow → Shared → Prop) (n0 : Nat) (xv : Value) (s : Shared) : Prop :=
  ∃ (J : Nat → (Str → Option Value) → List (Addr × Obj) → Prop) (e it : Addr) (b : Array UInt8) (tb : Tok) (ks : List Int) (m₀ : Str → Option Value) (news : List (Addr × Obj)), xv = .ref e ∧ KBw.bInts b = ks ∧ A.handled = none ∧
    IsEnum s.heap e it 0 .none ∧ KBw.IsBytesIter s.heap it b tb 0 ∧ e ≠ it ∧ e ≠ env.locals ∧ it ≠ env.locals ∧ h₀.get? e = none ∧ h₀.get? it = none ∧ (∀ p ∈ news, p.1 ≠ e ∧ p.1 ≠ it) ∧
    Fr h₀ env.locals s.heap m₀ ∧ News h₀ env.locals s.heap news ∧ n0 ≤ s.toks ∧ J 0 m₀ news ∧
    (∀ i k t ti m₁ nx h tk own, ks[i]? = some k → 0 ≤ k → k < 256 → @LE.le Nat _ n0 t → @LT.lt Nat _ t tk → OwnOff own (news.map (·.1)) → J i m₁ nx →
      Fr h₀ env.locals h (fun y => if y = xj then some (.int k t) else if y = xi then some (.int i ti) else m₁ y) → News h₀ env.locals h (nx ++ own) →
      wpAny (model prog w) A (execs body env) (InvPostN h₀ env.locals (J (i + 1)) own (news.map (·.1)) { s with heap := h, toks := tk } Q) E { s with heap := h, toks := tk }) ∧
    (∀ m₁ nx h tk, J ks.length m₁ nx → Fr h₀ env.locals h m₁ → News h₀ env.locals h nx → wpAny (model prog w) A (execs orelse env) Q E { s with heap := h, toks := tk })
open KBw in
theorem for_enumT {pi pj pt pos : Pos} {x1} {iter : Expr} {n0 : Nat} (hxi : env.kindOf xi = some .local) (hxj : env.kindOf xj = some .local) (hp : (env.scope.kind == .class || (env.scope.kind == .module && env.locals != env.globals)) = false)
    (h : wpAny (model prog w) A (eval iter env) (fun xv s₁ => EnumRest prog w A E h₀ env xi xj body orelse Q n0 xv s₁) E s) (hs : ∀ x, foldedSetIterable iter env x = pure x := by intro _; rfl) (hE : PassesOwn (model prog w) A env E := by passes_own) :
    wpAny (model prog w) A (exec (.For (.Tuple [.Name xi pi, .Name xj pj] x1 pt) iter body orelse pos) env) Q E s := by
  refine wpAny_For (wpAny_mono h (fun xv s₁ h₁ => ?_) fun _ _ e => e) hs
  obtain ⟨J, e, it, b, tb, ks, m₀, news, rfl, rfl, hh, he, hit, hei, heL, hiL, he0, hi0, hnn, F, N, ht0, hJ, turn, done⟩ := h₁
  refine wpAny_pyIter_enum he ?_
  have hlen : (bInts b).length = b.size := ints_length b
  refine codeAny_forLoop_any
    (fun k s' => ∃ h' tk m' nx i old, s' = { s₁ with heap := h', toks := tk } ∧ n0 ≤ tk ∧ IsEnum h' e it ((i : Nat) : Int) old ∧ IsBytesIter h' it b tb i ∧ Fr h₀ env.locals h' m' ∧ News h₀ env.locals h' nx ∧ nx.map (·.1) = news.map (·.1) ∧ J i m' nx ∧ i ≤ b.size ∧ k = b.size + 1 - i) ?_ (b.size + 1)
    ⟨_, s₁.toks, m₀, news, 0, _, rfl, ht0, he, hit, F, N, rfl, hJ, Nat.zero_le _, rfl⟩
  rintro k s' ⟨H, tk, m', nx, i, old, rfl, htk, he', hit', F', N', hadr, hJ', hi, rfl⟩
  have hnx : ∀ p ∈ nx, p.1 ≠ e ∧ p.1 ≠ it := fun p hp => by
    have h1 : p.1 ∈ nx.map (·.1) := List.mem_map.mpr ⟨p, hp, rfl⟩
    rw [hadr] at h1
    obtain ⟨r, hr, hre⟩ := List.mem_map.mp h1
    exact hre ▸ hnn r hr
  by_cases hlt : i < b.size
  · have heH : e < H.objs.size := Heap.lt_size he'
    have hLH : env.locals < H.objs.size := F'.ns.lt
    obtain ⟨oi, hoi, _⟩ := id hit'
    have hiH : it < H.objs.size := Heap.lt_size hoi
    refine next_enum_byte he' hit' (c := b[i]) (by simp [hlt]) hei fun h₁ heo hit₁ ht₁ hz₁ hk₁ => ?_
    refine wpAny_letOwnedTupleGo_enum heo fun h₂ he₂ hs₂ => ?_
    replace hs₂ : Heap.SameBut e h₁ h₂ := hs₂
    have ht₂ : h₂.IsTuple H.objs.size #[.int i (tk + 1), .int (b[i].toNat : Int) tk] := ⟨_, (hs₂.2 _ (Nat.ne_of_gt heH)).trans ht₁, rfl, _, rfl⟩
    have hz₂ : h₂.objs.size = H.objs.size + 1 := hs₂.1.trans hz₁
    have hit₂ : IsBytesIter h₂ it b tb (i + 1) := iter_but hit₁ hs₂.extBut (Ne.symm hei)
    refine wpAny_assign_Tuple hh ht₂ rfl rfl fun h₃ hx₃ => ?_
    replace hx₃ : Heap.ExtBut h₂.objs.size h₂ h₃ := hx₃
    have old₃ : ∀ b o, b < H.objs.size → h₂.get? b = some o → h₃.get? b = some o := fun b o hb x => hx₃ b o (by rw [hz₂]; exact Nat.ne_of_lt (Nat.lt_succ_of_lt hb)) x
    have up : ∀ a o, a ≠ e → a ≠ it → H.get? a = some o → h₃.get? a = some o := fun a o hae hai x => old₃ a o (Heap.lt_size x) (hs₂.extBut a o hae (hk₁ a o hae hai x))
    have hne0 : ∀ a o, h₀.get? a = some o → a ≠ e ∧ a ≠ it := fun a o x => ⟨fun q => (by rw [q, he0] at x; cases x), fun q => (by rw [q, hi0] at x; cases x)⟩
    have F₃ : Fr h₀ env.locals h₃ m' := ⟨F'.ns.at' fun o x => up _ o (Ne.symm heL) (Ne.symm hiL) x, fun a o x => up a o (hne0 a o x).1 (hne0 a o x).2 (F'.keep a o x), F'.above⟩
    have he₃ := old₃ _ _ heH he₂
    have hit₃ : IsBytesIter h₃ it b tb (i + 1) := by obtain ⟨o, ho, r⟩ := hit₂; exact ⟨o, old₃ _ _ hiH ho, r⟩
    have N₃ : News h₀ env.locals h₃ nx := fun p hp => ⟨up _ _ (hnx p hp).1 (hnx p hp).2 (N' p hp).1, (N' p hp).2⟩
    show wpAny _ A (do holding [.int (b[i].toNat : Int) tk] (assign (.Name xi pi) env (.int i (tk + 1))); do holding [] (assign (.Name xj pj) env (.int (b[i].toNat : Int) tk)); pure ()) _ _ _
    refine wpAny_bind (wpAny_holding (wpAny_assign_Name (wpAny_storeName_local hxi F₃.ns (fun h₄ hn₄ hs₄ => ?_) hp)))
    have F₄ := F₃.set hn₄ hs₄
    refine wpAny_bind (wpAny_holding (wpAny_assign_Name (wpAny_storeName_local hxj F₄.ns (fun h₅ hn₅ hs₅ => wpAny_pure ?_) hp)))
    have F₅ := F₄.set hn₅ hs₅
    obtain ⟨oI, hoI, hIc, hId⟩ := id hit₃
    have hoI₅ : h₅.get? it = some oI := hs₅.extBut _ _ hiL (hs₄.extBut _ _ hiL hoI)
    obtain ⟨oE, hoE₅, hoEq⟩ : ∃ oE, h₅.get? e = some oE ∧ oE = _ := ⟨_, hs₅.extBut _ _ heL (hs₄.extBut _ _ heL he₃), rfl⟩
    have N₅ : News h₀ env.locals h₅ (nx ++ [(e, oE), (it, oI)]) := fun p hp => by
      rcases List.mem_append.mp hp with hp | hp
      · exact ((N₃.set hs₄).set hs₅) p hp
      · rcases List.mem_cons.mp hp with rfl | hp
        · exact ⟨hoE₅, heL, he0⟩
        · rw [List.mem_singleton.mp hp]; exact ⟨hoI₅, hiL, hi0⟩
    have hg : (bInts b)[i]? = some ((b[i].toNat : Nat) : Int) := ints_get (by simp [hlt])
    have hin := ints_in (b := b) (List.mem_of_getElem? hg)
    refine wpAny_mono (wpAny_toks_of (n := n0) ?hnt (wpAny_passesOwn hE (turn i _ tk _ m' nx h₅ _ _ hg hin.1 hin.2 htk ?hlt ?hsep hJ' F₅ N₅))) (fun f s₃ h₃ => ?_) fun _ _ e => e.2
    case hnt => show n0 ≤ tk + 1 + 1 + 1 + 1; (first | lia | omega)
    case hlt => show tk < tk + 1 + 1 + 1 + 1; (first | lia | omega)
    case hsep =>
      intro p hp b hb q
      obtain ⟨r, hr, rfl⟩ := List.mem_map.mp hb
      rcases List.mem_cons.mp hp with rfl | hp
      · exact (hnn r hr).1 q.symm
      · rw [List.mem_singleton.mp hp] at q; exact (hnn r hr).2 q.symm
    obtain ⟨htoks, h₃⟩ := h₃
    have fin : InvEndN h₀ env.locals (J (i + 1)) [(e, oE), (it, oI)] (news.map (·.1)) { s₁ with heap := h₅, toks := tk + 1 + 1 + 1 + 1 } s₃ →
        ∃ m, m < b.size + 1 - i ∧ ∃ h' tk m' nx i old, s₃ = { s₁ with heap := h', toks := tk } ∧ n0 ≤ tk ∧ IsEnum h' e it ((i : Nat) : Int) old ∧ IsBytesIter h' it b tb i ∧ Fr h₀ env.locals h' m' ∧ News h₀ env.locals h' nx ∧ nx.map (·.1) = news.map (·.1) ∧ J i m' nx ∧ i ≤ b.size ∧ m = b.size + 1 - i := by
      rintro ⟨h₆, tk₆, m₆, news₆, nx₆, rfl, F₆, N₆, hn₆, ho₆, ha₆, hj₆⟩
      have hE₆ := (N₆ _ (ho₆ _ (.head _))).1
      have hI₆ := (N₆ _ (ho₆ _ (.tail _ (.head _)))).1
      have ec : ((i + 1 : Nat) : Int) = (i : Int) + 1 := by push_cast; rfl
      exact ⟨b.size + 1 - (i + 1), by (first | lia | omega), h₆, tk₆, m₆, nx₆, i + 1, _, rfl, htoks, by rw [ec]; rw [hoEq] at hE₆; exact hE₆, ⟨oI, hI₆, hIc, hId⟩, F₆, fun p hp => N₆ p (hn₆ p hp), ha₆, hj₆, hlt, rfl⟩
    cases f with
    | ret v => exact h₃
    | brk => exact h₃
    | next => exact fin h₃
    | cont => exact fin h₃
  · obtain rfl : i = b.size := Nat.le_antisymm hi (Nat.not_lt.mp hlt)
    refine next_enum_over hh he' hit' (by simp) fun h₁ he₁ => ?_
    rw [← hlen] at hJ'
    have hne0 : ∀ a o, h₀.get? a = some o → a ≠ it := fun a o x q => by rw [q, hi0] at x; cases x
    exact wpAny_passesOwn hE (done m' nx h₁ tk hJ' ⟨F'.ns.at' fun o x => he₁ _ o (Ne.symm hiL) x, fun a o x => he₁ a o (hne0 a o x) (F'.keep a o x), F'.above⟩ fun p hp => ⟨he₁ _ _ (hnx p hp).2 (N' p hp).1, (N' p hp).2⟩)
end
end Mine
end
-- T10
section
open PySem PySem.W PySem.Calls PyProof.Rows
set_option linter.all false
set_option maxRecDepth 100000
namespace Mine
section
variable {prog : Program} {w : World} {A : Around} {E : Value → Shared → Prop} {s : Shared} {env : Env} {h₀ : Heap} {xi xj : Str} {body orelse : List Stmt} {Q : Flow → Shared → Prop}
/-- enumerate(b) made, the loop over it -/
theorem call_enumRest {n0 : Nat} {b : Array UInt8} {tb : Tok} {ks : List Int} {m₀ : Str → Option Value} {news : List (Addr × Obj)} (J : Nat → (Str → Option Value) → List (Addr × Obj) → Prop) (hk : KBw.bInts b = ks) (hh : A.handled = none)
    (F : Fr h₀ env.locals s.heap m₀) (N : News h₀ env.locals s.heap news) (ht : n0 ≤ s.toks) (hJ : J 0 m₀ news)
    (turn : ∀ i k t ti m₁ nx h tk own, ks[i]? = some k → 0 ≤ k → k < 256 → @LE.le Nat _ n0 t → @LT.lt Nat _ t tk → OwnOff own (news.map (·.1)) → J i m₁ nx →
      Fr h₀ env.locals h (fun y => if y = xj then some (.int k t) else if y = xi then some (.int i ti) else m₁ y) → News h₀ env.locals h (nx ++ own) →
      wpAny (model prog w) A (execs body env) (InvPostN h₀ env.locals (J (i + 1)) own (news.map (·.1)) { s with heap := h, toks := tk } Q) E { s with heap := h, toks := tk })
    (done : ∀ m₁ nx h tk, J ks.length m₁ nx → Fr h₀ env.locals h m₁ → News h₀ env.locals h nx → wpAny (model prog w) A (execs orelse env) Q E { s with heap := h, toks := tk }) :
    wpAny (model prog w) A (call (.type "enumerate") [.bytes b tb]) (fun xv s₁ => EnumRest prog w A E h₀ env xi xj body orelse Q n0 xv s₁) E s := by
  refine call_enum_bytes fun h' he hit hz hk' => ?_
  have hL := F.ns.lt
  have hlt : ∀ p ∈ news, p.1 < s.heap.objs.size := fun p hp => Heap.lt_size (N p hp).1
  exact ⟨J, _, _, b, tb, ks, m₀, news, rfl, hk, hh, he, hit, Nat.succ_ne_self _, (fun q => absurd hL (by rw [← q]; exact Nat.not_lt.mpr (Nat.le_succ _))), (fun q => absurd hL (by rw [← q]; exact Nat.lt_irrefl _)),
    ktu_new F (Nat.le_succ _), ktu_new F (Nat.le_refl _), fun p hp => ⟨fun q => absurd (hlt p hp) (by rw [q]; exact Nat.not_lt.mpr (Nat.le_succ _)), fun q => absurd (hlt p hp) (by rw [q]; exact Nat.lt_irrefl _)⟩, F.keeps hk', N.grown hk', ht, hJ, turn, done⟩
end
theorem idx_found {ks : List Int} {x : Int} {i : Nat} (h : i ≤ ks.idxOf x) (hk : ks[i]? = some x) : ((i : Nat) : Int) = ((ks.idxOf x : Nat) : Int) := by
  have hlt : i < ks.length := (List.getElem?_eq_some_iff.mp hk).1
  have hm : x ∈ ks := List.mem_of_getElem? hk
  rcases Nat.lt_or_eq_of_le h with h | h
  · have := ne_of_lt_idxOf h hlt
    rw [List.getElem?_eq_getElem hlt] at hk
    rw [Option.some.inj hk] at this; simp at this
  · rw [h]
theorem idx_next {ks : List Int} {x k : Int} {i : Nat} (h : i ≤ ks.idxOf x) (hk : ks[i]? = some k) (hne : ¬ k = x) : i + 1 ≤ ks.idxOf x := by
  rcases Nat.lt_or_eq_of_le h with h | h
  · exact h
  · have hlt : i < ks.length := (List.getElem?_eq_some_iff.mp hk).1
    rw [List.getElem?_eq_getElem hlt] at hk
    have : ks[ks.idxOf x]'(h ▸ hlt) = x := List.getElem_idxOf _
    exact absurd ((Option.some.inj hk).symm.trans (by simpa [h] using this)) hne
local macro_rules | `(tactic| k_room) => `(tactic| k_call_by "m_room" x x)
local macro_rules | `(tactic| walk_at $k) => if ["exec For Tuple Call cons nil", "exec For", "InvEndN", "call type:enumerate"].contains k.getString then `(tactic| refine Mine.stop ?_) else Lean.Macro.throwUnsupported
local macro_rules | `(tactic| walk_at "compareOp Is int int") => `(tactic| refine Mine.is_small (h := ?_))
set_option maxHeartbeats 3000000
section
variable {w : World} {loose : List Str} {mean : ExcName → Option Value} {mg mb : Str → Option Value} {base : Heap} {env : Env} {outer : List Env} {A : Around} {s : Shared}
theorem index_tells (C : CanB w loose mean mg mb base env outer A s.heap) (hr : A.depth + 10 < recursionLimit) (hh : A.handled = none) {b : Array UInt8} {t : Tok} {ks : List Int} (hk : KBw.bInts b = ks) (hlen : ks.length ≤ 20) {x : Int} {u : Tok} (h0 : 0 ≤ x) (h1 : x < 256) (hu0 : u ≠ 0) (hu : @LT.lt Nat _ u s.toks) (hx : x ∈ ks) :
   wpAny (model pr w) A (call (.ref 175) [.bytes b t, .int x u]) (Out s (RInt (ks.idxOf x))) NoE s := by
  obtain ⟨hd0, dp, fr, gd, un⟩ := A
  obtain rfl : hd0 = none := hh
  have hr0 : dp < recursionLimit := by simp only at hr; omega
  k_call_by "m_enter" C [(Str.ofString "a", Value.bytes b t), (Str.ofString "b", Value.int x u)]
  obtain rfl : fr = some (env :: outer) := by assumption
  obtain ⟨tk1, htk1, htk⟩ : ∃ tk1, s.toks + (0 + 1 + 1) = tk1 ∧ @LE.le Nat _ (Nat.succ u) tk1 := ⟨_, rfl, Nat.le_trans (Nat.succ_le_of_lt hu) (Nat.le_add_right _ _)⟩
  rw [htk1]
  clear htk1 hu
  show wpAny _ _ _ _ _ _
  k_fold
  k_steps
  rename Fr _ _ _ _ => F2
  rename News _ _ _ _ => N2
  refine Stop.go (for_enumT (h₀ := s.heap) (n0 := Nat.succ u) rfl rfl rfl ?_)
  k_steps
  rename Fr _ _ _ _ => F3
  rename News _ _ _ _ => N3
  have hMk := kstMark
  refine Stop.go (call_enumRest (fun i m nx => Sees m [(Str.ofString "b", .int x u)] ∧ nx = [] ∧ i ≤ ks.idxOf x) hk rfl F3 N3 htk ⟨sees_cons rfl sees_nil, rfl, Nat.zero_le _⟩ ?_ ?_)
  · rintro i k t5 ti m₁ nx h5 tk5 own hki hk0 hk1 ht0 ht1 hoff ⟨hs, rfl, hil⟩ F5 N5
    have hne : t5 ≠ u := fun e => by rw [e] at ht0; exact Nat.not_succ_le_self _ ht0
    have hnz : t5 ≠ 0 := fun e => by rw [e] at ht0; exact Nat.not_succ_le_zero _ ht0
    rw [← over_eq hs] at F5
    simp only [over, List.map_cons, List.map_nil] at F5 hoff
    clear F3 N3 hs
    show wpAny _ _ _ _ _ _
    k_fold
    k_steps
    · have e : k = x := by assumption
      rw [e] at hki
      exact out_intE (by assumption) (idx_found hil hki)
    · exfalso
      exact absurd (by assumption : k = x) (by assumption)
    · rename Fr _ _ _ _ => F6
      rename News _ _ _ _ => N6
      exact Stop.go (InvEndN.intro (nx := []) F6 N6 ⟨sees_cons rfl sees_nil, rfl, idx_next hil hki (by assumption)⟩ rfl (fun p hp => nomatch hp) (fun p hp => by simpa using hp))
  · rintro m₁ nx h5 tk5 ⟨hs, rfl, hil⟩ F5 N5
    exact absurd (List.idxOf_lt_length_iff.mpr hx) (Nat.not_lt.mpr hil)
end
end Mine
end
-- M13
section
set_option linter.all false
set_option maxRecDepth 20000
namespace Mine
open PySem PySem.W
theorem letter_eq {x y d f : Int} (t : Two x y) (hd : 0 ≤ d ∧ d < 64) (hf : 0 ≤ f ∧ f < 64) : (letter x y d = letter x y f) ↔ d = f := ⟨fun q => letter_inj t hd hf q, fun q => by rw [q]⟩
theorem count_row {x y f : Int} (t : Two x y) (hf : 0 ≤ f ∧ f < 64) {ns : List Int} (h : ∀ d ∈ ns, 0 ≤ d ∧ d < 64) : (ns.map (letter x y)).foldl (countG (letter x y f)) 0 = ((ns.count f : Nat) : Int) := by
  have e := count_letters t hf ns 0 h
  have g : ∀ (l : List Int) (c : Int), l.foldl (fun c k => if k = f then c + 1 else c) c = c + ((l.count f : Nat) : Int) := by
    intro l
    induction l with
    | nil => intro c; simp
    | cons a r ih =>
      intro c
      rw [List.foldl_cons, ih, List.count_cons]
      by_cases q : a = f
      · rw [if_pos q, if_pos (by simpa using q)]; push_cast; (first | lia | omega)
      · rw [if_neg q, if_neg (by simpa using q)]; push_cast; (first | lia | omega)
  show (ns.map (letter x y)).foldl (fun c k => if k = letter x y f then c + 1 else c) 0 = _
  rw [e, g, Int.zero_add]
theorem mem_row {x y f : Int} (t : Two x y) (hf : 0 ≤ f ∧ f < 64) {ns : List Int} (h : ∀ d ∈ ns, 0 ≤ d ∧ d < 64) : letter x y f ∈ ns.map (letter x y) ↔ f ∈ ns := by
  constructor
  · intro m
    obtain ⟨d, hd, e⟩ := List.mem_map.mp m
    rw [← (letter_eq t (h d hd) hf).mp e]; exact hd
  · exact fun m => List.mem_map.mpr ⟨f, m, rfl⟩
theorem idx_row {x y f : Int} (t : Two x y) (hf : 0 ≤ f ∧ f < 64) : ∀ {ns : List Int}, (∀ d ∈ ns, 0 ≤ d ∧ d < 64) → (ns.map (letter x y)).idxOf (letter x y f) = ns.idxOf f
  | [], _ => rfl
  | d :: r, h => by
    have e : (letter x y d == letter x y f) = (d == f) := by
      rw [Bool.eq_iff_iff, beq_iff_eq, beq_iff_eq]; exact letter_eq t (h d (.head _)) hf
    rw [List.map_cons, List.idxOf_cons, List.idxOf_cons, e, idx_row t hf fun z hz => h z (.tail _ hz)]
theorem any_mem {ns : List Int} {f : Int} : ns.any (· == f) = true ↔ f ∈ ns := by
  rw [List.any_eq_true]
  constructor
  · rintro ⟨d, hd, e⟩; rw [← (beq_iff_eq.mp e)]; exact hd
  · exact fun m => ⟨f, m, beq_self_eq_true _⟩
end Mine
end
-- Cont
section
open PySem PySem.W PySem.Calls PyProof.Rows
set_option linter.all false
set_option maxRecDepth 100000
namespace Mine
/-- the rest of a suite, the tokens minded -/
noncomputable def Cont (n : Nat) (M : Model) (A : Around) (rest : List Stmt) (env : Env) (Q : Flow → Shared → Prop) (E : Value → Shared → Prop) : Flow → Shared → Prop := fun f s' => n ≤ s'.toks → match f with
  | .next => wpAny M A (execs rest env) Q E s'
  | f => Q f s'
theorem execs_T {M : Model} {A : Around} {E : Value → Shared → Prop} {s : Shared} {env : Env} {st : Stmt} {rest : List Stmt} {Q : Flow → Shared → Prop} {n : Nat} (hn : n ≤ s.toks) (h : wpAny M A (exec st env) (Cont n M A rest env Q E) E s) : wpAny M A (execs (st :: rest) env) Q E s := by
  rw [execs_cons]
  refine wpAny_bind (wpAny_mono (wpAny_toks_of hn h) (fun f s' x => ?_) fun _ _ e => e.2)
  obtain ⟨a, b⟩ := x
  have c := b a
  cases f with
  | next => exact c
  | brk => exact wpAny_pure c
  | cont => exact wpAny_pure c
  | ret v => exact wpAny_pure c
theorem Cont.next {M : Model} {A : Around} {E : Value → Shared → Prop} {s : Shared} {env : Env} {rest : List Stmt} {Q : Flow → Shared → Prop} {n : Nat} (h : n ≤ s.toks → wpAny M A (execs rest env) Q E s) : Cont n M A rest env Q E .next s := h
theorem Cont.nextT {M : Model} {A : Around} {E : Value → Shared → Prop} {env : Env} {rest : List Stmt} {Q : Flow → Shared → Prop} {n : Nat} {h : Heap} {g d tk0 o} (k : ∀ tk, n ≤ tk → wpAny M A (execs rest env) Q E ⟨h, g, d, tk, o⟩) : Cont n M A rest env Q E .next ⟨h, g, d, tk0, o⟩ := k tk0
end Mine
end
-- T11
section
open PySem PySem.W PySem.Calls PyProof.Rows
set_option linter.all false
set_option maxRecDepth 100000
namespace Mine
local macro_rules | `(tactic| k_room) => `(tactic| k_call_by "m_room" x x)
local macro_rules | `(tactic| walk_at "Cont") => `(tactic| refine Mine.stop ?_)
/-- the first place of an int in a short list -/
theorem index_few {prog : Program} {w : World} {A : Around} {E : Value → Shared → Prop} {s : Shared} {l : Addr} {vs : List Value} {ns : List Int} {k : Int} {t : Tok} {Q : Value → Shared → Prop} (hl : s.heap.IsList l vs.toArray) (hi : IntsAre vs ns) (hfew : ns.length ≤ 1000) (hk : k ∈ ns)
    (h : Q (.int (ns.idxOf k : Nat) s.toks) { s with toks := s.toks + 1 }) : wpAny (model prog w) A (call (.builtin "list.index") [.ref l, .int k t]) Q E s := by
  obtain ⟨o, ho, hc, n, hd⟩ := id hl
  obtain ⟨cls, dd, data, sl⟩ := o
  obtain rfl : cls = .type "list" := hc
  obtain rfl : data = .seq vs.toArray n := hd
  have hj : ns.idxOf k < ns.length := List.idxOf_lt_length_iff.mpr hk
  have hv : vs.length = ns.length := hi.length
  have M := PySem.SeqAt.list_indexAt l vs.toArray n dd sl (.int k t) (isInt k) (ns.idxOf k) (by rw [List.size_toArray, hv]; exact hj) (by omega)
    (by show isInt k vs[ns.idxOf k] = true; rw [isInt_at k hi _ (by omega) hj]; simpa using List.getElem_idxOf hj)
    (fun j hjs hlt => by show isInt k vs[j] = false; rw [isInt_at k hi j (by simpa using hjs) (by omega)]; exact ne_of_lt_idxOf hlt _)
  exact call_meets PySem.F.slot_list_index ⟨_, ho, rfl⟩ PySem.F.entry_list_index (PySem.F.args_list_index_2 _ _) M ⟨ho, fun y hy => (eq_isInt k t hi y (by simpa using hy)).at _ _, h⟩
theorem for_enumTF {prog : Program} {w : World} {A : Around} {E : Value → Shared → Prop} {s : Shared} {env : Env} {h₀ : Heap} {xi xj : Str} {body orelse : List Stmt} {Q : Flow → Shared → Prop} {m : Str → Option Value} (_F : Fr h₀ env.locals s.heap m) {pi pj pt pos : Pos} {x1} {iter : Expr} {n0 : Nat} (hxi : env.kindOf xi = some .local) (hxj : env.kindOf xj = some .local) (hp : (env.scope.kind == .class || (env.scope.kind == .module && env.locals != env.globals)) = false)
    (h : wpAny (model prog w) A (eval iter env) (fun xv s₁ => EnumRest prog w A E h₀ env xi xj body orelse Q n0 xv s₁) E s) (hs : ∀ x, foldedSetIterable iter env x = pure x := by intro _; rfl) (hE : PassesOwn (model prog w) A env E := by passes_own) :
    wpAny (model prog w) A (exec (.For (.Tuple [.Name xi pi, .Name xj pj] x1 pt) iter body orelse pos) env) Q E s := for_enumT hxi hxj hp h hs hE
theorem turn_list {fs : List Addr} {g g' : Heap} {l : Addr} {items : Array Value} (T : KtsTurn fs g g') (x : g.IsList l items) : g'.IsList l items := by
  obtain ⟨o, ho, hc, n, hd⟩ := x
  obtain ⟨sl, hs⟩ := T.up ho
  exact ⟨_, hs, hc, n, hd⟩
theorem turn_dict {fs : List Addr} {g g' : Heap} {l : Addr} (T : KtsTurn fs g g') (x : g.NoDictAt (.ref l)) : g'.NoDictAt (.ref l) := by
  obtain ⟨o, ho, hc⟩ := x
  obtain ⟨sl, hs⟩ := T.up ho
  exact ⟨_, hs, hc⟩
theorem meth_list {prog : Program} {w : World} {A : Around} {E : Value → Shared → Prop} {s : Shared} {g : Heap} {L : Addr} {m : Str → Option Value} {name : Str} {id : String} {pl : Sem Bool} {l : Addr} {items : Array Value} {Q : Value × List Value → Shared → Prop} (F : Fr g L s.heap m := by assumption) (hl : g.IsList l items := by assumption) (hd : g.NoDictAt (.ref l) := by assumption) (slot : Slot "list" name id)
    (hty : typeOf (.builtin id) = pure (.type "method_descriptor") := by exact rfl) (h : Q (.builtin id, [.ref l]) s) : wpAny (model prog w) A (getMethod (.ref l) name pl) Q E s :=
  getMethod_list_of slot hty (hl.at fun o e => F.keep l o e) (hd.keeps F.keep) h
local macro_rules | `(tactic| walk_at "getMethod ref") => `(tactic| ((with_reducible refine Mine.at_meth "index" ?_); refine Mine.meth_list (slot := PySem.F.slot_list_index) (h := ?_)))
local macro_rules | `(tactic| walk_at "getMethod ref") => `(tactic| ((with_reducible refine Mine.at_meth "count" ?_); refine Mine.meth_list (slot := PySem.F.slot_list_count) (h := ?_)))
local macro_rules | `(tactic| walk_at "call builtin:list.index") => `(tactic| refine Mine.stop ?_)
local macro_rules | `(tactic| walk_at "call builtin:list.count") => `(tactic| refine Mine.stop ?_)
noncomputable def InMark : Prop := True
theorem stop_in {M : Model} {A : Around} {E : Value → Shared → Prop} {s : Shared} {Q : Value → Shared → Prop} {b : Array UInt8} {t : Tok} {v : Value} {kws : List (Str × Value)} (hm : InMark := by assumption) (h : Stop (wpAny M A (call (Value.ref 175) [Value.bytes b t, v] kws) Q E s)) : wpAny M A (call (Value.ref 175) [Value.bytes b t, v] kws) Q E s := h
local macro_rules | `(tactic| walk_at "call ref") => `(tactic| with_reducible refine Mine.stop_in (h := ?_))
local macro_rules | `(tactic| walk_at "execs cons") => `(tactic| with_reducible refine Mine.stop_for ?_)
local macro_rules | `(tactic| walk_at "InvEndN") => `(tactic| refine Mine.stop ?_)
local macro_rules | `(tactic| walk_at "call type:enumerate") => `(tactic| refine Mine.stop ?_)
local macro_rules | `(tactic| walk_at "compareOp Is int int") => `(tactic| refine Mine.is_small (h := ?_))
local macro_rules | `(tactic| walk_at "call ref") => `(tactic| with_reducible refine Mine.stop_ref 168 ?_)
local macro_rules | `(tactic| walk_at "call ref") => `(tactic| with_reducible refine Mine.stop_ref 161 ?_)
theorem sign_at {prog : Program} {w : World} {A : Around} {E : Value → Shared → Prop} {s : Shared} {x y f : Int} {b : Array UInt8} {tg tf : Tok} {value slice : Expr} {Q : Value → Shared → Prop} (hg : KBw.bInts b = signL x y := by assumption) (two : Two x y := by assumption) (h0 : 0 ≤ f := by assumption) (h1 : f < 64 := by assumption) (h : Q (.int (letter x y f) s.toks) { s with toks := s.toks + 1 })
    (hs : subscripted slice false (.bytes b tg) (.int f tf) = operate [.bytes b tg, .int f tf] (getItem (.bytes b tg) (.int f tf)) := by with_unfolding_all rfl) (ht : ∀ r, letTemporaryGo value (.bytes b tg) r = pure () := by intro _; with_unfolding_all rfl) :
    wpAny (model prog w) A (subscriptTail value slice (.bytes b tg) (.int f tf)) Q E s := by
  have hl : (signL x y).length = 64 := rfl
  have hb : b.toList.length = 64 := by rw [← hl, ← hg, KBw.ints_length]; simp
  have hget : wpAny (model prog w) A (getItem (.bytes b.toList.toArray tg) (.int f tf)) Q E s := by
    refine getItem_bytes (l := b.toList) (by rw [hb]; decide) h0 (by rw [hb]; exact h1) ?_
    have hg' : List.map (fun c : UInt8 => ((c.toNat : Nat) : Int)) b.toList = signL x y := hg
    rw [KBw.getD_ints, hg', letter_sign two ⟨h0, h1⟩]
    exact h
  rw [Array.toArray_toList] at hget
  exact tail_of_ItemOn ⟨"bytes", _, FB.slot_bytes_getitem.lookup, typeIs_bytes _ _ _, hget⟩ hs ht
local macro_rules | `(tactic| walk_at "subscriptTail") => `(tactic| ((with_reducible refine Mine.at_sub_bytes ?_); refine Mine.sign_at (h := ?_)))
set_option maxHeartbeats 3000000
/-- the figure stands -/
noncomputable def AtFig (g : Heap) (L : Addr) (m : Str → Option Value) (s : Shared) (f : Flow) (s' : Shared) : Prop := f = .next ∧ ∃ h tk x tx, s' = { s with heap := h, toks := tk } ∧ Fr g L h (fun y => if y = Str.ofString "figure" then some (.int x tx) else m y) ∧ News g L h [] ∧ 0 ≤ x ∧ x < 64
theorem fig_first {M : Model} {A : Around} {E : Value → Shared → Prop} {s : Shared} {env : Env} {st : Stmt} {rest : List Stmt} {Q : Flow → Shared → Prop} {n : Nat} {g : Heap} {L : Addr} {m : Str → Option Value} (_F : Fr g L s.heap m) (hn : n ≤ s.toks) (h : wpAny M A (exec st env) (fun f s' => AtFig g L m s f s') E s)
    (k : ∀ h1 tk1 x tx, Fr g L h1 (fun y => if y = Str.ofString "figure" then some (.int x tx) else m y) → News g L h1 [] → 0 ≤ x → x < 64 → n ≤ tk1 → wpAny M A (execs rest env) Q E { s with heap := h1, toks := tk1 }) : wpAny M A (execs (st :: rest) env) Q E s :=
  execs_first hn h fun f s' y ht => by
    obtain ⟨rfl, h1, tk1, x, tx, rfl, F1, N1, a, b⟩ := y
    exact ⟨rfl, k h1 tk1 x tx F1 N1 a b ht⟩
section
variable {w : World} {loose : List Str} {mean : ExcName → Option Value} {mg mb : Str → Option Value} {base : Heap} {env : Env} {outer : List Env} {A : Around} {s : Shared}
theorem signs_tells (C : CanS w loose mean mg mb base env outer A s.heap) (hr : A.depth + 30 < recursionLimit) (hh : A.handled = none) {x y : Int} {ns : List Int} (two : Two x y) (hrow : Row ns) {b : Array UInt8} {t : Tok} (hk : KBw.bInts b = ns.map (letter x y))
   {l : Addr} {vs : List Value} (hl : s.heap.IsList l vs.toArray) (hld : s.heap.NoDictAt (.ref l)) (hi : IntsAre vs ns) {g : Array UInt8} {tg : Tok} (hg : KBw.bInts g = signL x y) {p : Int} {t3 : Tok} (hp : 0 ≤ p) :
   wpAny (model pr w) A (call (.ref 313) [.bytes b t, .ref l, .bytes g tg, .int p t3]) (OutS env outer s (RBool true)) NoE s := by
  have hlen : ns.length = 8 := hrow.1
  have hdig : ∀ n ∈ ns, 0 ≤ n ∧ n < 64 := hrow.2
  obtain ⟨hd0, dp, fr, gd, un⟩ := A
  obtain rfl : hd0 = none := hh
  have hr0 : dp < recursionLimit := by simp only at hr; omega
  k_call_by "m_enterS" C [(Str.ofString "writing", Value.bytes b t), (Str.ofString "row", Value.ref l), (Str.ofString "signs", Value.bytes g tg), (Str.ofString "p", Value.int p t3)]
  obtain rfl : fr = some (env :: outer) := by assumption
  rename Fr _ _ _ _ => F0
  refine fig_first (n := 1) F0 (Nat.le_trans (by decide) (Nat.le_add_left _ _)) ?_ ?_
  · show wpAny _ _ _ _ _ _
    k_fold
    k_steps
    · refine ⟨rfl, _, _, _, _, rfl, by assumption, by assumption, ?_⟩
      have hb : (p.fmod 8).toNat < ns.length := by
        have := Int.fmod_lt_of_pos p (b := 8) (by decide); have := Int.fmod_nonneg_of_pos p (b := 8) (by decide); omega
      rw [List.getD_eq_getElem?_getD, List.getElem?_eq_getElem hb]
      exact hdig _ (List.getElem_mem hb)
    · exact ⟨rfl, _, _, _, _, rfl, by assumption, by assumption, Int.fmod_nonneg_of_pos p (by decide), Int.fmod_lt_of_pos p (by decide)⟩
  · intro h1' tk1 f tf F1 N1 hf0 hf1 htk
    clear F0
    refine execs_T htk ?_
    show wpAny _ _ _ _ _ _
    k_fold
    k_steps
    · have hmark : InMark := trivial
      have hin : f ∈ ns := by
        rename _ = true => hx
        exact Mine.any_mem.mp hx
      refine Stop.go (index_few (hl.at fun o e => F1.keep l o e) hi (by omega) hin ?_)
      k_steps
      rename Fr _ _ _ _ => F2
      rename News _ _ _ _ => N2
      refine Stop.go (Cont.nextT fun tk2 htk2 => ?_)
      refine execs_T htk2 ?_
      show wpAny _ _ _ _ _ _
      k_fold
      k_steps
      rename Fr _ _ _ _ => F3
      rename News _ _ _ _ => N3
      have hx := letter_in two ⟨hf0, hf1⟩
      refine Stop.go (use_int F3 N3 (index_tells (by exact Mine.can_of) (by k_call_by "m_room" x x) rfl hk (by rw [List.length_map]; omega) hx.1 hx.2 (Nat.ne_of_gt htk2) (Nat.lt_succ_self _) ((mem_row two ⟨hf0, hf1⟩ hdig).mpr hin)) ?_)
      intro ti h4 tk4 F4 N4
      rw [idx_row two ⟨hf0, hf1⟩ hdig]
      clear F3 N3
      k_steps
      refine Stop.go (Cont.nextT fun tk5 htk5 => ?_)
      show wpAny _ _ _ _ _ _
      k_fold
      k_steps
      · exact absurd rfl (by assumption)
      · rename Fr _ _ _ _ => F6
        rename News _ _ _ _ => N6
        refine Stop.go (use_int F6 N6 (countOf_tells (by exact Mine.can_of) (by k_call_by "m_room" x x) rfl hk (by rw [List.length_map]; omega) hx.1 hx.2 (Nat.ne_of_gt htk5) (Nat.lt_succ_self _)) ?_)
        intro ti7 h7 tk7 F7 N7
        rw [count_row two ⟨hf0, hf1⟩ hdig]
        clear F6 N6
        k_steps
        refine Stop.go (count_list_ints (hl.at fun o e => F7.keep l o e) hi ?_)
        k_steps
        · exact absurd rfl (by assumption)
        · rename Fr _ _ _ _ => F8
          rename News _ _ _ _ => N8
          refine Stop.go (use_bool F8 N8 (contains_tells (by exact Mine.can_of) (by k_call_by "m_room" x x) hx.1 hx.2) ?_)
          intro h9 tk9 F9 N9
          rw [hk, any_letters two ⟨hf0, hf1⟩ ns hdig]
          clear F8 N8
          k_steps
          exact outS_of (out_boolE (by assumption) (beq_self_eq_true _))
    · rename _ = false => hnin
      have hni : ¬ f ∈ ns := fun q => by rw [Mine.any_mem.mpr q] at hnin; cases hnin
      refine Stop.go (Cont.nextT fun tk2 htk2 => ?_)
      refine execs_T htk2 ?_
      show wpAny _ _ _ _ _ _
      k_fold
      k_steps
      rename Fr s.heap _ _ _ => FG
      rename Fr _ _ _ _ => F2
      rename News _ _ _ _ => N2
      have hx := letter_in two ⟨hf0, hf1⟩
      have hxk : ¬ letter x y f ∈ ns.map (letter x y) := fun q => hni ((mem_row two ⟨hf0, hf1⟩ hdig).mp q)
      refine Stop.go (execs_T (n := tk2 + 1) (Nat.le_add_right _ _) ?_)
      refine for_enumTF F2 (n0 := tk2 + 1) rfl rfl rfl ?_
      show wpAny _ _ _ _ _ _
      k_steps
      have hMk := kstMark
      rename Fr s.heap _ _ _ => FG
      rename Fr _ _ _ _ => F3
      rename News _ _ _ _ => N3
      refine Stop.go (call_enumRest (fun i m nx => Sees m [(Str.ofString "b", .int (letter x y f) tk2)] ∧ nx = []) hk rfl F3 N3 (Nat.le_add_right _ _) ⟨sees_cons rfl sees_nil, rfl⟩ ?_ ?_)
      · rintro i k t5 ti m₁ nx h5 tk5 own hki hk0 hk1 ht0 ht1 hoff ⟨hs, rfl⟩ F5 N5
        have hne : t5 ≠ tk2 := fun e => by rw [e] at ht0; exact Nat.not_succ_le_self _ ht0
        have hnz : t5 ≠ 0 := fun e => by rw [e] at ht0; exact Nat.not_succ_le_zero _ ht0
        have hz2 : tk2 ≠ 0 := Nat.ne_of_gt htk2
        have hkx : ¬ k = letter x y f := fun e => hxk (e ▸ List.mem_of_getElem? hki)
        rw [← over_eq hs] at F5
        simp only [over, List.map_cons, List.map_nil] at F5 hoff
        clear F3 N3 hs
        show wpAny _ _ _ _ _ _
        k_fold
        k_steps
        · exact absurd (by assumption) hkx
        · exact absurd (by assumption) hkx
        · rename Fr s.heap _ _ _ => FG
          rename Fr _ _ _ _ => F6
          rename News _ _ _ _ => N6
          exact Stop.go (InvEndN.intro (nx := []) F6 N6 ⟨sees_cons rfl sees_nil, rfl⟩ rfl (fun p hp => nomatch hp) (fun p hp => by simpa using hp))
      · rintro m₁ nx h5 tk5 ⟨hs, rfl⟩ F5 N5
        clear F3 N3
        show wpAny _ _ _ _ _ _
        k_fold
        k_steps
        rename Fr _ _ _ _ => F6
        rename News _ _ _ _ => N6
        rename KtsTurn _ _ _ => T6
        have hl6 := turn_list T6 hl
        have hld6 := turn_dict T6 hld
        refine Stop.go (Cont.nextT fun tk7 htk7 => ?_)
        show wpAny _ _ _ _ _ _
        k_fold
        k_steps
        · rename Fr _ _ _ _ => F7
          rename News _ _ _ _ => N7
          refine Stop.go (use_int F7 N7 (countOf_tells (by exact Mine.can_of) (by k_call_by "m_room" x x) rfl hk (by rw [List.length_map]; omega) hx.1 hx.2 (Nat.ne_of_gt htk7) (Nat.lt_succ_self _)) ?_)
          intro ti8 h8 tk8 F8 N8
          rw [count_row two ⟨hf0, hf1⟩ hdig]
          clear F7 N7
          k_steps
          refine Stop.go (count_list_ints (hl6.at fun o e => F8.keep l o e) hi ?_)
          k_steps
          · exact absurd rfl (by assumption)
          · rename Fr _ _ _ _ => F9
            rename News _ _ _ _ => N9
            refine Stop.go (use_bool F9 N9 (contains_tells (by exact Mine.can_of) (by k_call_by "m_room" x x) hx.1 hx.2) ?_)
            intro h10 tk10 F10 N10
            rw [hk, any_letters two ⟨hf0, hf1⟩ ns hdig]
            clear F9 N9
            k_steps
            exact outS T6 (by assumption) (congrArg Value.bool (beq_self_eq_true _))
end
end Mine
end
-- Rules
section
open PySem PySem.W PySem.Calls PyProof.Rows PySem.Spec PySem.Builtin
set_option linter.all false
set_option maxRecDepth 100000
namespace Mine
theorem mk_check (a b : Value) : checkBuiltinCall "bytes.maketrans" ⟨[a, b], []⟩ = pure () := by kernel_rfl
theorem mk_plain : plainId "bytes.maketrans" = true := by decide +kernel
theorem mk_entry : entryFor table "bytes.maketrans" = some Builtin.«bytes.maketrans» := entryFor_of_tree (by kernel_rfl)
/-- the table that bytes.maketrans writes of two signs -/
noncomputable def tabOf (x y u v : UInt8) : Array UInt8 := (((Array.range 256).map (·.toUInt8)).setIfInBounds x.toNat u).setIfInBounds y.toNat v
theorem tabOf_size (x y u v : UInt8) : (tabOf x y u v).size = 256 := by simp [tabOf]
section
variable {prog : Program} {w : World} {A : Around} {E : Value → Shared → Prop} {s : Shared} {t u : Tok}
theorem like_eq {id : String} {b : Array UInt8} : Bytes.bytesLike id (.bytes b t) = pure b := KBd.like_eq
theorem call_maketrans {x y p q : UInt8} {Q : Value → Shared → Prop} (h : ∀ t' k, Q (.bytes (tabOf x y p q) t') { s with toks := k }) :
    wpAny (model prog w) A (call (.builtin "bytes.maketrans") [.bytes #[x, y] t, .bytes #[p, q] u]) Q E s := by
  refine wpAny_call (codeAny_call_builtin mk_plain mk_entry ?_)
  rw [mk_check]
  refine wpAny_pure ?_
  refine wpAny_mono (Q := fun fin s' => ∃ v, fin = .done (.ret v) ∧ Q v s') (E := E) ?_ (fun fin s' h' => by obtain ⟨v, rfl, hv⟩ := h'; exact hv) fun _ _ h' => h'
  show wpAny _ _ (noKeywords _ _ >>= fun _ => _) _ _ s
  refine wpAny_bind (wpAny_of_eq (a := ()) rfl ?_)
  refine wpAny_bind (wpAny_of_eq (a := ()) rfl ?_)
  refine wpAny_bind (wpAny_of_eq like_eq ?_)
  refine wpAny_bind (wpAny_of_eq like_eq ?_)
  rw [if_neg (by simp)]
  exact wpAny_bind (wpAny_mkBytes (wpAny_pure ⟨_, rfl, h _ _⟩) (by show (tabOf x y p q).size ≤ sizeLine; rw [tabOf_size, sizeLine_eq]; decide))
theorem slot_translate : Slot "bytes" "translate" "bytes.translate" :=
  .of (owner := "bytes") (n := "translate") (by rw [typeLookup_type, builtinLookup_eq_fast]; kernel_rfl) (by decide +kernel) (by decide +kernel) (by decide +kernel)
    (by first | exact .inl (by decide +kernel) | exact .inr (by decide +kernel)) (by rw [isSubtype_type]; kernel_rfl)
theorem type_translate : typeOf (.builtin "bytes.translate") = pure (.type "method_descriptor") := by show builtinType _ = _; rw [builtinType_eq_fast]; kernel_rfl
theorem entry_translate : entryFor table "bytes.translate" = some Builtin.«bytes.translate» := entryFor_of_tree (by kernel_rfl)
theorem args_translate (a b : Value) : argsOk "bytes.translate" ⟨[a, b], []⟩ := by unfold argsOk; kernel_rfl
theorem meth_translate {M : Model} {b : Array UInt8} {pl : Sem Bool} {Q : Value × List Value → Shared → Prop} (h : Q (.builtin "bytes.translate", [.bytes b t]) s) : wpAny M A (getMethod (.bytes b t) (Str.ofString "translate") pl) Q E s := by
  with_reducible exact KBd.method_of (.bytes b t) (typeIs_bytes _ _ _) slot_translate type_translate KBd.noRef h
theorem call_translate {b tab : Array UInt8} {Q : Value → Shared → Prop} (ht : tab.size = 256) (hb : b.size ≤ 16777216) (h : ∀ t' k, Q (.bytes (b.map fun c => tab.getD c.toNat c) t') { s with toks := k }) :
    wpAny (model prog w) A (call (.builtin "bytes.translate") [.bytes b t, .bytes tab u]) Q E s := by
  refine wpAny_call_entry slot_translate (typeIs_bytes _ _ _) entry_translate ?_ (args_translate _ _)
  unfold Builtin.«bytes.translate» Bytes.translateM
  dsimp only [List.length_cons, List.length_nil]
  refine wpAny_ite (KBy.ite_no (by decide) ?_)
  refine KTBy.if_not rfl ?_
  refine KTBy.if_not rfl ?_
  refine wpAny_bind (wpAny_of_eq like_eq ?_)
  refine KTBy.if_not (by simp [ht]) ?_
  refine wpAny_bind (wpAny_pure ?_)
  refine wpAny_bind (wpAny_pure ?_)
  refine wpAny_bind (wpAny_of_eq (a := b) rfl ?_)
  have e : (b.filter (fun c => !(#[] : Array UInt8).contains c)).map (fun c => tab.getD c.toNat c) = b.map fun c => tab.getD c.toNat c := by
    congr 1
    rw [Array.filter_eq_self]
    simp
  dsimp only
  rw [e]
  by_cases hq : ((b.map fun c => tab.getD c.toNat c) == b) = true
  · rw [if_pos hq]
    refine wpAny_bind (wpAny_rule ?_)
    have hq' : (b.map fun c => tab.getD c.toNat c) = b := by simpa using hq
    rw [hq'] at h
    refine wpAny_bind (wpAny_of_eq (a := Value.bytes b t) rfl (wpAny_pure ⟨_, rfl, ?_⟩))
    exact h t s.toks
  · rw [if_neg hq]
    exact wpAny_bind (wpAny_mkBytes (wpAny_pure ⟨_, rfl, h _ _⟩) (by rw [Array.size_map, sizeLine_eq]; exact hb))
end
theorem tab_get (p q x y c : UInt8) : (((tabOf p q x y).getD c.toNat c).toNat : Int) = trI p.toNat q.toNat x.toNat y.toNat c.toNat := by
  have hc := c.toNat_lt
  unfold tabOf trI
  rw [Array.getD_eq_getD_getElem?, Array.getElem?_setIfInBounds, Array.getElem?_setIfInBounds]
  simp only [Array.size_setIfInBounds, Array.size_map, Array.size_range, Array.getElem?_map]
  by_cases h1 : q.toNat = c.toNat
  · rw [if_pos h1, if_pos (by (first | lia | omega) : (c.toNat : Int) = q.toNat), if_pos (by (first | lia | omega))]; rfl
  · rw [if_neg h1, if_neg (by (first | lia | omega) : ¬ (c.toNat : Int) = q.toNat)]
    by_cases h2 : p.toNat = c.toNat
    · rw [if_pos (by (first | lia | omega) : (c.toNat : Int) = p.toNat), if_pos h2]
      rw [if_pos (by (first | lia | omega))]; rfl
    · rw [if_neg (by (first | lia | omega) : ¬ (c.toNat : Int) = p.toNat), if_neg h2]
      simp [hc]
theorem tr_ints {b : Array UInt8} {ks : List Int} (h : KBw.bInts b = ks) (p q x y : UInt8) : KBw.bInts (b.map fun c => (tabOf p q x y).getD c.toNat c) = ks.map (trI p.toNat q.toNat x.toNat y.toNat) := by
  subst h
  unfold KBw.bInts
  rw [Array.toList_map, List.map_map, List.map_map]
  refine List.map_congr_left fun c _ => ?_
  exact tab_get p q x y c
end Mine
end
-- C3
section
open PySem PySem.W PySem.Calls PyProof.Rows
set_option linter.all false
set_option maxRecDepth 100000
namespace Mine
local macro_rules | `(tactic| walk_at "call ref") => `(tactic| with_reducible refine Mine.stop_ref 240 ?_)
local macro_rules | `(tactic| walk_at "getMethod bytes") => `(tactic| (with_reducible refine meth_translate ?_))
local macro_rules | `(tactic| walk_at "getMethod type:bytes") => `(tactic| (refine' method_type ?F ?X (by first | rfl | kernel_rfl) (by decide +kernel) ?e ?h ?_; (case F => k_asm); (case X => k_asm); (case e => k_dflt k_is); (case h => k_handed)))
local macro_rules | `(tactic| walk_at "call builtin:bytes.maketrans") => `(tactic| (refine call_maketrans ?_; intro _ _))
local macro_rules | `(tactic| walk_at "call builtin:bytes.translate") => `(tactic| (refine call_translate (tabOf_size _ _ _ _) (by assumption) ?_; intro _ _))
set_option maxHeartbeats 8000000
section
variable {w : World} {loose : List Str} {mean : ExcName → Option Value} {mg mb : Str → Option Value} {base : Heap} {env : Env} {outer : List Env} {A : Around} {s : Shared}
theorem b64encode_tells0 (C : CanB w loose mean mg mb base env outer A s.heap) (hr : A.depth + 30 < recursionLimit) (hh : A.handled = none) {b : Array UInt8} {t : Tok} {ks : List Int} (hk : KBw.bInts b = ks) (hlen : ks.length = 6) :
   wpAny (model pr w) A (call (.ref 248) [.bytes b t, .none]) (Out s (RBytes (b2aF ks))) NoE s := by
  obtain ⟨hd0, dp, fr, gd, un⟩ := A
  obtain rfl : hd0 = none := hh
  have hr0 : dp < recursionLimit := by simp only at hr; (first | lia | omega)
  k_call_by "m_enter" C [(Str.ofString "s", Value.bytes b t), (Str.ofString "altchars", Value.none)]
  obtain rfl : fr = some (env :: outer) := by assumption
  k_fold
  k_steps
  rename Fr _ _ _ _ => F1
  rename News _ _ _ _ => N1
  refine Stop.go (use_bytes F1 N1 (b2a_tells (by exact Mine.can_of) (by k_call_by "m_room" x x) rfl hk hlen) ?_)
  intro b2 t2 h2 tk2 hb2 F2 N2
  clear F1 N1
  k_steps
  exact out_bytes (by assumption) hb2
theorem b64encode_tells2 (C : CanB w loose mean mg mb base env outer A s.heap) (hr : A.depth + 30 < recursionLimit) (hh : A.handled = none) {b : Array UInt8} {t : Tok} {ks : List Int} (hk : KBw.bInts b = ks) (hlen : ks.length = 6) {x y : UInt8} {u : Tok} :
   wpAny (model pr w) A (call (.ref 248) [.bytes b t, .bytes #[x, y] u]) (Out s (RBytes ((b2aF ks).map (trI 43 47 x.toNat y.toNat)))) NoE s := by
  obtain ⟨hd0, dp, fr, gd, un⟩ := A
  obtain rfl : hd0 = none := hh
  have hr0 : dp < recursionLimit := by simp only at hr; (first | lia | omega)
  k_call_by "m_enter" C [(Str.ofString "s", Value.bytes b t), (Str.ofString "altchars", Value.bytes #[x, y] u)]
  obtain rfl : fr = some (env :: outer) := by assumption
  k_fold
  k_steps
  rename Fr _ _ _ _ => F1
  rename News _ _ _ _ => N1
  refine Stop.go (use_bytes F1 N1 (b2a_tells (by exact Mine.can_of) (by k_call_by "m_room" x x) rfl hk hlen) ?_)
  intro b2 t2 h2 tk2 hb2 F2 N2
  clear F1 N1
  have hsz : b2.size ≤ 16777216 := by rw [← KBw.ints_length, hb2]; exact Nat.le_trans (b2aG_len ks ([], 0, 0)) (by show 0 + 2 * ks.length ≤ _; (first | lia | omega))
  k_steps
  · exact out_bytes (by assumption) (tr_ints hb2 _ _ _ _)
  all_goals (exfalso; (rename ¬ _ => hx); exact hx rfl)
end
end Mine
end
-- HdList
section
open PySem PySem.W PySem.Calls PyProof.Rows PyProof.V PySem.Spec
set_option linter.all false
set_option maxRecDepth 100000
namespace Mine
section
variable {prog : Program} {w : World} {A : Around} {E : Value → Shared → Prop} {s : Shared}
/-- a list's iterator comes to its end, whatever is being handled -/
theorem list_end_hd {it l : Addr} {i : Nat} {items : Array Value} {Q : Option Value → Shared → Prop} (hh : A.handled = none ∨ ∃ e, A.handled = some (.ref e) ∧ e ≠ it ∧ NoCtx s.heap e) (hit : s.heap.IsListIter it l i) (hl : s.heap.IsList l items) (hx : items[i]? = none)
    (hQ : ∀ h', Heap.ExtBut it s.heap h' → Q none { s with heap := h' }) : wpAny (model prog w) A (pyNext (.ref it)) Q E s := by
  rcases hh with hh | ⟨e, hh, hne, hc⟩
  · exact wpAny_pyNext_list_end hh hit hl hx hQ
  obtain ⟨o, ho, hcl, hd⟩ := id hit
  obtain ⟨ol, hol, _, nl, hdl⟩ := hl
  unfold pyNext
  refine wpAny_bind (wpAny_attempt (wpAny_callSpecial?_slot (name := Str.ofString "__next__") hit.typeIs slot_listiter_next (wpAny_call_entry slot_listiter_next hit.typeIs entry_listiter_next ?_ (args_listiter_next _))))
  show wpAny _ _ (field (.ref it) 0 >>= _) _ _ s
  refine wpAny_bind (wpAny_field ho hd (x := .ref l) rfl ?_)
  show wpAny _ _ (if (Value.ref l == Value.none) = true then _ else _) _ _ s
  rw [if_neg (show ¬ ((Value.ref l == Value.none) = true) from Bool.false_ne_true)]
  show wpAny _ _ (field (.ref it) 1 >>= _) _ _ s
  refine wpAny_bind (wpAny_field ho hd (x := .int i 0) rfl ?_)
  show wpAny _ _ (seqItems? (.ref l) >>= _) _ _ s
  refine wpAny_bind (wpAny_seqItems hol hdl ?_)
  simp only [Int.toNat_natCast, hx]
  refine wpAny_bind (wpAny_rule (wpAny_bind (wpAny_setField ho hd (by simp) ?_)))
  refine wpAny_bind (m := newExc (.type "StopIteration") []) ?_
  simp only [newExc, newTuple]
  refine wpAny_bind (wpAny_newObj_type ?_ (by size_fits))
  refine wpAny_bind (m := firstArgMember _ _) (wpAny_of_eq (a := Value.none) (by first | rfl | (simp only [firstArgMember]; rfl)) ?_)
  refine wpAny_newObj_type ?_ (by size_fits)
  have hlt := Heap.lt_size hc.choose_spec.choose_spec.1
  refine raise_hd (x := e) (A := A.in1) hh (hc.at fun o q => ?_) (Heap.get?_push_size _ rfl) rfl (by simp [ownMembersOf]) ?_ ?_
  · exact Heap.get?_push_of_some _ (Heap.get?_push_of_some _ ((Heap.get?_update_ne _ _ _ _ hne).trans q))
  · refine Nat.ne_of_lt (Nat.lt_trans hlt ?_)
    show _ < (Heap.push _ _).objs.size
    rw [push_size, Heap.size_update]
    exact Nat.lt_succ_self _
  refine wpAny_bind (wpAny_isInstance (T := "StopIteration") (b := true) ⟨_, Heap.get?_update_self _ (Heap.get?_push_size _ rfl) (Obj.isFreed_of_fields (Obj.data_mapFields rfl _)), Obj.cls_mapFields _ _⟩ isSubtype_stop ?_)
  refine wpAny_pure (hQ _ fun a oa hai hao => ?_)
  have h1 : ∀ o', ((s.heap.update it (Obj.mapFields (·.setIfInBounds 0 .none))).push o').get? a = some oa := fun o' => ((Heap.SameBut.update s.heap it (Obj.mapFields (·.setIfInBounds 0 .none))).extBut.push o') a oa hai hao
  refine (Heap.get?_update_ne _ _ _ _ (Nat.ne_of_lt (Nat.lt_trans (Heap.lt_size hao) ?_))).trans (Heap.get?_push_of_some _ (h1 _))
  show _ < (Heap.push _ _).objs.size
  rw [push_size, Heap.size_update]
  exact Nat.lt_succ_self _
noncomputable abbrev bArr (ns : List Int) : Obj := { cls := .type "bytearray", data := .bytearray (byteArr ns) }
/-- the turns of bytes(list) -/
theorem bytes_turns {R : Result → Shared → Prop} {l I S : Addr} {vs : List Value} {ns : List Int} (hi : IntsAre vs ns) (hr : ∀ n ∈ ns, 0 ≤ n ∧ n < 256) (hz : ns.length ≤ sizeLine) (hIS : I ≠ S) (hlI : l ≠ I) (hlS : l ≠ S) :
    ∀ (k i : Nat) (s : Shared), ns.length - i = k → i ≤ ns.length → (A.handled = none ∨ ∃ e, A.handled = some (.ref e) ∧ e ≠ I ∧ e ≠ S ∧ NoCtx s.heap e) → s.heap.IsList l vs.toArray → s.heap.IsListIter I l i → s.heap.get? S = some (bArr (ns.take i)) →
      (∀ h' t k', (∀ b o, b ≠ I → b ≠ S → s.heap.get? b = some o → h'.get? b = some o) → R (.ok (.ret (.bytes (byteArr ns) t))) { s with heap := h', toks := k' }) →
      codeAny (model prog w) A (.builtin "bytes.__new__.loop" ⟨[.type "bytes", .ref I, .ref S], []⟩) R s
  | 0, i, s, hk, hle, hh, hl, hit, hS, hR => by
    obtain rfl : i = ns.length := by (first | lia | omega)
    refine codeAny_builtin F.bm_entry_loop ?_
    rw [Around.under_plainId F.bm_plain_loop _]
    show wpAny _ A.in1 (pyNext (.ref I) >>= _) _ _ s
    refine wpAny_bind (list_end_hd (A := A.in1) (hh.imp id fun ⟨e, a, b, _, c⟩ => ⟨e, a, b, c⟩) hit hl (by simp [hi.length]) fun h' he => ?_)
    refine wpAny_bind ?_
    unfold Builtin.Bytes.payload Builtin.Bytes.payload?
    refine wpAny_bind (wpAny_bind (wpAny_load (he S _ (Ne.symm hIS) hS) ?_))
    refine wpAny_pure (wpAny_pure ?_)
    rw [List.take_length]
    refine wpAny_bind (wpAny_mkBytes ?_ (by rw [byteArr_size]; exact hz))
    refine bm_if_true (by decide) ?_
    first
      | exact wpAny_pure (hR h' _ _ fun b o hb _ e => he b o hb e)
      | exact wpAny_bind (wpAny_pure (wpAny_pure (hR h' _ _ fun b o hb _ e => he b o hb e)))
  | k + 1, i, s, hk, hle, hh, hl, hit, hS, hR => by
    have hlt : i < ns.length := by (first | lia | omega)
    have hvl : i < vs.length := by rw [hi.length]; exact hlt
    obtain ⟨n, t, hv, hn⟩ := IntsAre.at hi i _ (List.getElem?_eq_getElem hvl)
    have hb := hr n (List.mem_of_getElem? hn)
    refine codeAny_builtin F.bm_entry_loop ?_
    rw [Around.under_plainId F.bm_plain_loop _]
    show wpAny _ A.in1 (pyNext (.ref I) >>= _) _ _ s
    refine wpAny_bind (wpAny_pyNext_list_item (x := .int n t) hit hl (by simp [List.getElem?_eq_getElem hvl, hv]) fun h' hit' hs => ?_)
    have hS' := (hs.2 S (Ne.symm hIS)).trans hS
    refine wpAny_bind (wpAny_holding (wpAny_of_eq (rfl : asIndex (.int n t) = pure n) ?_))
    refine wpAny_bind (wpAny_letGo ?_)
    refine bm_if_false (by simp only [Bool.or_eq_false_iff, decide_eq_false_iff_not]; (first | lia | omega)) ?_
    refine wpAny_bind ?_
    show wpAny _ _ (updateBytearray S (·.push n.toNat.toUInt8)) _ _ _
    unfold updateBytearray
    refine wpAny_bind (wpAny_load hS' ?_)
    show wpAny _ _ (update S (Obj.mapBytearray (·.push n.toNat.toUInt8)) >>= fun _ => lookBehind S) _ _ _
    refine wpAny_bind (wpAny_update hS' ?_)
    have hS₂ : (h'.update S (Obj.mapBytearray (·.push n.toNat.toUInt8))).get? S = some (bArr (ns.take (i + 1))) := by
      have := Heap.get?_update_self (Obj.mapBytearray (·.push n.toNat.toUInt8)) hS' rfl
      rw [bArr, byteArr_take hn]
      exact this
    refine wpAny_lookBehind hS₂ ?_ ?_
    · show (if (byteArr (ns.take (i + 1))).size > sizeLine then some "bytearray:memory" else none) = none
      rw [if_neg (by rw [byteArr_size, List.length_take]; (first | lia | omega))]
    · refine wpAny_pure ⟨plainId_quiet F.bm_plain_loop _, bytes_turns hi hr hz hIS hlI hlS k (i + 1) { s with heap := h'.update S (Obj.mapBytearray (·.push n.toNat.toUInt8)) } (by (first | lia | omega)) hlt ?_ ?_ ?_ hS₂ fun h3 t' k' hk3 => ?_⟩
      · refine hh.imp id fun ⟨e, a, b, c, d⟩ => ⟨e, a, b, c, d.at fun o q => (Heap.get?_update_other _ _ (Ne.symm c)).trans (hs.extBut e o b q)⟩
      · exact (hl.extBut hs.extBut hlI).extBut (Heap.SameBut.update ..).extBut hlS
      · exact hit'.extBut (Heap.SameBut.update ..).extBut hIS
      · exact hR h3 t' k' fun b o hbI hbS e => hk3 b o hbI hbS ((Heap.get?_update_other _ _ (Ne.symm hbS)).trans (hs.extBut b o hbI e))
theorem bytes_new_hd {l : Addr} {vs : List Value} {ns : List Int} {Q : Value → Shared → Prop} (hh : HdOk A s.heap) (hl : s.heap.IsList l vs.toArray) (hi : IntsAre vs ns) (hr : ∀ n ∈ ns, 0 ≤ n ∧ n < 256) (hz : ns.length ≤ sizeLine)
    (hQ : ∀ h' t k, (∀ b o, s.heap.get? b = some o → h'.get? b = some o) → Q (.bytes (byteArr ns) t) { s with heap := h', toks := k }) :
    codeAny (model prog w) A (.call (.builtin "bytes.__new__") ⟨[.type "bytes", .ref l], []⟩) (wants Q E) s := by
  refine codeAny_of_tree ?_
  show wpAny _ A.in1 (do checkBuiltinCall "bytes.__new__" ⟨[.type "bytes", .ref l], []⟩; again (.builtin "bytes.__new__" ⟨[.type "bytes", .ref l], []⟩)) _ _ s
  refine wpAny_bind (wpAny_of_eq (F.bm_newCall _) (wpAny_pure ⟨plainId_quiet F.bm_plain _, codeAny_builtin F.bm_entry ?_⟩))
  rw [Around.under_plainId F.bm_plain _]
  have hT : s.TypeIs (.ref l) "list" := hl.typeIs
  obtain ⟨ol, hol, hoc, nl, hod⟩ := id hl
  unfold Builtin.«bytes.__new__»
  refine wpAny_bind (wpAny_of_eq (a := true) rfl (bm_if_false rfl ?_))
  refine wpAny_bind (wpAny_of_eq F.bm_sub (bm_if_false rfl ?_))
  refine wpAny_bind (wpAny_of_eq (F.bm_bind _) ?_)
  refine wpAny_bind (wpAny_of_eq (a := ()) rfl (wpAny_bind (wpAny_of_eq (a := ()) rfl (bm_if_false rfl ?_))))
  refine wpAny_bind (wpAny_specialOf hT F.bm_no_bytes (wpAny_bind (wpAny_bind ?_)))
  show wpAny _ _ (load l >>= _) _ _ _
  refine wpAny_bind (wpAny_load hol ?_)
  rw [hod]
  refine wpAny_pure (wpAny_pure (bm_if_false rfl ?_))
  refine wpAny_bind (wpAny_specialOf hT F.bm_no_index (bm_if_true rfl ?_))
  first
    | show wpAny _ _ (Builtin.Bytes.buffer? "bytes.__new__" (.ref l) true >>= _) _ _ _
    | (refine wpAny_bind ?_; show wpAny _ _ (Builtin.Bytes.buffer? "bytes.__new__" (.ref l) true >>= _) _ _ _)
  refine wpAny_bind ?_
  unfold Builtin.Bytes.buffer?
  refine wpAny_bind (wpAny_specialOf hT F.bm_no_buffer (wpAny_bind (wpAny_specialOf hT F.bm_no_buffer (wpAny_pure ?_))))
  refine wpAny_bind (wpAny_tryCatch (wpAny_pyIter_list hl ?_))
  have hl₁ := hl.push { cls := .type "list_iterator", data := .fields #[.ref l, .int 0 0] }
  have hT₁ : ({ s with heap := s.heap.push { cls := .type "list_iterator", data := .fields #[.ref l, .int 0 0] } } : Shared).TypeIs (.ref l) "list" := Heap.IsList.typeIs (s := { s with heap := s.heap.push { cls := .type "list_iterator", data := .fields #[.ref l, .int 0 0] } }) hl₁
  refine wpAny_bind (wpAny_holding ?_)
  unfold Builtin.Bytes.lengthHint
  refine wpAny_bind (wpAny_specialOf hT₁ slot_list_len.lookup ?_)
  dsimp only
  rw [F.bm_split]
  dsimp only
  refine wpAny_bind (wpAny_isInstance hT₁ F.bm_sub_list (bm_if_false rfl (bm_if_true (by decide +kernel) (wpAny_pure (wpAny_bind ?_)))))
  unfold Builtin.Bytes.newBytearray
  refine wpAny_newObj_type ?_ (Nat.zero_le _)
  have hlt : l < s.heap.objs.size := Heap.lt_size hol
  have hsz := push_size s.heap { cls := .type "list_iterator", data := .fields #[.ref l, .int 0 0] }
  have main := bytes_turns (prog := prog) (w := w) (A := A) (R := wants Q E) (l := l) (I := s.heap.objs.size) (S := (s.heap.push { cls := .type "list_iterator", data := .fields #[.ref l, .int 0 0] }).objs.size) hi hr hz (by rw [hsz]; exact Nat.ne_of_lt (Nat.lt_succ_self _)) (Nat.ne_of_lt hlt) (by rw [hsz]; exact Nat.ne_of_lt (Nat.lt_succ_of_lt hlt))
    ns.length 0 { s with heap := (s.heap.push { cls := .type "list_iterator", data := .fields #[.ref l, .int 0 0] }).push { cls := .type "bytearray", data := .bytearray #[] } } rfl (Nat.zero_le _)
    (hh.imp id fun ⟨e, a, c⟩ => by
      obtain ⟨oe, ve, hoe, _⟩ := id c
      have := Heap.lt_size hoe
      exact ⟨e, a, Nat.ne_of_lt this, by rw [hsz]; exact Nat.ne_of_lt (Nat.lt_succ_of_lt this), c.at fun o q => Heap.get?_push_of_some _ (Heap.get?_push_of_some _ q)⟩)
    (hl₁.push _) ⟨_, Heap.get?_push_of_some _ (Heap.get?_push_size _ rfl), rfl, rfl⟩ (Heap.get?_push_size _ rfl)
    fun h' t k hk => hQ h' t k fun b o e => hk b o (Nat.ne_of_lt (Heap.lt_size e)) (by rw [hsz]; exact Nat.ne_of_lt (Nat.lt_succ_of_lt (Heap.lt_size e))) (Heap.get?_push_of_some _ (Heap.get?_push_of_some _ e))
  first
    | exact wpAny_pure ⟨plainId_quiet F.bm_plain_loop _, main⟩
    | exact wpAny_pure (wpAny_pure ⟨plainId_quiet F.bm_plain_loop _, main⟩)
theorem make_hd {D L : Addr} {h₀ : Heap} {m : Str → Option Value} {news : List (Addr × Obj)} {vs : List Value} {ns : List Int} {Q : Value → Shared → Prop} (G : Fr h₀ L s.heap m) (N : News h₀ L s.heap news) (hh : HdOk A s.heap) (hl : s.heap.IsList D vs.toArray) (hi : IntsAre vs ns) (hr : KBa.In ns) (hn : ns.length ≤ 16777216)
    (h : ∀ h' t' k, Fr h₀ L h' m → News h₀ L h' news → KBa.In ns → Q (.bytes (byteArr ns) t') { s with heap := h', toks := k }) : wpAny (model prog w) A (call (.type "bytes") [.ref D]) Q E s := by
  refine callType_codes (Q₁ := fun obj s₁ => s₁.TypeIs obj "bytes" ∧ Q obj s₁) F.bm_called (F.bm_typeCall _) F.entry_object_init
    (bytes_new_hd hh hl hi hr (by rw [sizeLine_eq]; exact hn) fun h' t k hk => ⟨PySem.W.typeIs_bytes _ _ _, h h' t k (G.keptAll hk) (N.grown hk) hr⟩) fun obj s₁ h₁ => ?_
  exact ⟨h₁.1, F.args_object_init_2 obj _, object_init_meets F.bm_called.init.lookup F.bm_called.made (by decide) prog w A.in1 _ s₁ ⟨h₁.1, rfl, h₁.2⟩⟩
end
end Mine
end
-- C4
section
open PySem PySem.W PySem.Calls PyProof.Rows
set_option linter.all false
set_option maxRecDepth 100000
namespace Mine
local macro_rules | `(tactic| walk_at "call ref") => `(tactic| (with_reducible refine Mine.at_ref 203 ?_); k_call_by "m_use" use_val asciibuf_tells)
local macro_rules | `(tactic| walk_at "call ref") => `(tactic| (with_reducible refine Mine.at_ref 217 ?_); k_call_by "m_use" use_bool truth_tells)
local macro_rules | `(tactic| walk_at "call ref") => `(tactic| (with_reducible refine Mine.at_ref 224 ?_); k_call_by "m_use" use_int b64value_tells)
local macro_rules | `(tactic| walk_at $k) => if ["pyIter bytes", "call type:bytes", "InvEndN", "leaving ref"].contains k.getString then `(tactic| refine Mine.stop ?_) else Lean.Macro.throwUnsupported
/-- what a def of the text lets out: the class's own exception, raised in no other's context -/
noncomputable def ERaise (base : Heap) (env : Env) (outer : List Env) (s : Shared) : Value → Shared → Prop := fun v s' =>
  ∃ ea t vs h' tk', v = .ref ea ∧ s' = { s with heap := h', toks := tk' } ∧ RaisedS base s.heap (env :: outer) ea (.ref 193) t vs [] h' ∧ s.heap.UpToSlots h' ∧ NoCtx h' ea
theorem made_noctx {h h' : Heap} {e : Addr} {cls : Value} {vs : List Value} (x : Heap.MadeExcOf h h' e cls vs) : NoCtx h' e := by
  obtain ⟨t, he, _⟩ := x.there
  exact ⟨_, _, he, rfl, rfl⟩
section
variable {M : Model} {A : Around} {E : Value → Shared → Prop} {s : Shared} {base h₁ h₂ : Heap} {env : Env} {outer : List Env} {L a e : Addr} {m : Str → Option Value} {name : Str} {scope : Scope} {cd : Value} {vs : List Value} {tk : Nat}
theorem leave_first (K : Below A base (env :: outer) s.heap) (hx : Heap.MadeExcOf h₁ h₂ e (.ref 193) vs) (F : Fr s.heap L h₁ m) (hk : scope.kind = .function := by rfl) :
    wpAny M (A.deeper (envOf name scope L a cd)) (leaving (envOf name scope L a cd) (.ref e)) (fun _ s'' => ERaise base env outer s (.ref e) s'') E { s with heap := h₂, toks := tk } := by
  refine wpAny_mono (wpAny_safe (e := e) (safe_leaving _ _) (made_noctx hx) (leave_raiseS (Q := fun _ s'' => ∃ h' t, s'' = { s with heap := h', toks := tk } ∧ RaisedS base s.heap (env :: outer) e (.ref 193) t vs [] h' ∧ s.heap.UpToSlots h') (E := E) K hx F News.nil ?_ hk)) ?_ fun _ _ x => x.1
  · exact fun h' t R _ U => ⟨h', t, rfl, R, U⟩
  · rintro _ s'' ⟨⟨h', t, rfl, R, U⟩, hn⟩
    exact ⟨e, t, vs, h', tk, rfl, rfl, R, U, hn⟩
theorem leave_next {s₁ : Shared} {v : Value} (K : Below A base (env :: outer) s.heap) (F : Fr s.heap L s₁.heap m) (hs : ∃ h tk, s₁ = { s with heap := h, toks := tk }) {s' : Shared} (x : ERaise base (envOf name scope L a cd) (env :: outer) s₁ v s') :
    wpAny M (A.deeper (envOf name scope L a cd)) (leaving (envOf name scope L a cd) v) (fun _ s'' => ERaise base env outer s v s'') E s' := by
  obtain ⟨h₁, tk₁, rfl⟩ := hs
  obtain ⟨ea, t, vs, h', tk', rfl, rfl, R, U, hn⟩ := x
  refine wpAny_mono (wpAny_safe (e := ea) (safe_leaving _ _) hn (leave_onS (Q := fun _ s'' => ∃ h', s'' = { s with heap := h', toks := tk' } ∧ RaisedS base s.heap (env :: outer) ea (.ref 193) t vs [] h' ∧ s.heap.UpToSlots h') (E := E) K F R U ?_)) ?_ fun _ _ x => x.1
  · exact fun h' R _ U => ⟨h', rfl, R, U⟩
  · rintro _ s'' ⟨⟨h', rfl, R, U⟩, hn⟩
    exact ⟨ea, t, vs, h', tk', rfl, rfl, R, U, hn⟩
end
noncomputable def a2bH (c : (List Int × Int × Int × Int) × Bool) (k : Int) : (List Int × Int × Int × Int) × Bool := (a2bG c.1 k, c.2 && decide (b64v k < 64))
theorem a2bH_fst : ∀ (ks : List Int) (c), (ks.foldl a2bH c).1 = ks.foldl a2bG c.1
  | [], _ => rfl
  | k :: r, c => a2bH_fst r (a2bH c k)
theorem a2bH_snd : ∀ (ks : List Int) (c), (ks.foldl a2bH c).2 = true → ∀ k ∈ ks, b64v k < 64
  | [], _, _, _, h => nomatch h
  | k :: r, c, h, j, hj => by
    have h2 : ∀ (r : List Int) (c), (r.foldl a2bH c).2 = true → c.2 = true := by
      intro r; induction r with
      | nil => exact fun _ h => h
      | cons k r ih => exact fun c h => by have := ih _ h; simp only [a2bH, Bool.and_eq_true] at this; exact this.1
    rcases List.mem_cons.mp hj with rfl | hj
    · have := h2 r _ h
      simp only [a2bH, Bool.and_eq_true, decide_eq_true_eq] at this
      exact this.2
    · exact a2bH_snd r _ h j hj
set_option maxHeartbeats 8000000
section
variable {w : World} {loose : List Str} {mean : ExcName → Option Value} {mg mb : Str → Option Value} {base : Heap} {env : Env} {outer : List Env} {A : Around} {s : Shared}
theorem a2b_both (C : CanB w loose mean mg mb base env outer A s.heap) (hr : A.depth + 20 < recursionLimit) (hh : HdOk A s.heap) {b : Array UInt8} {t : Tok} {st : Bool} {ks : List Int} (hk : KBw.bInts b = ks) (hlen : ks.length ≤ 20) (hval : ∀ k ∈ ks, k ≠ 61) (hn : A.handled = none ∨ (st = true → ∀ k ∈ ks, b64v k < 64)) (hq : (st = true → ∀ k ∈ ks, b64v k < 64) → (ks.foldl a2bG ([], 0, 0, 0)).2.1 = 0) :
   wpAny (model pr w) A (call (.ref 232) [.bytes b t] [(Str.ofString "strict_mode", Value.bool st)]) (fun v s' => (st = true → ∀ k ∈ ks, b64v k < 64) ∧ Out s (RBytes (ks.foldl a2bG ([], 0, 0, 0)).1) v s') (fun v s' => st = true ∧ (∃ k ∈ ks, 64 ≤ b64v k) ∧ ERaise base env outer s v s') s := by
  obtain ⟨hd0, dp, fr, gd, un⟩ := A
  have hr0 : dp < recursionLimit := by simp only at hr; (first | lia | omega)
  k_call_by "m_enter" C [(Str.ofString "data", Value.bytes b t), (Str.ofString "strict_mode", Value.bool st)]
  obtain rfl : fr = some (env :: outer) := by assumption
  k_fold
  k_steps
  rename_i lr _ _ _ _ _ _ _ F1 N1
  have hMk := kstMark
  refine Stop.go (iter_bytesF (fun (cb : (List Int × Int × Int × Int) × Bool) m nx => (st = true → cb.2 = true) ∧ ∃ tq tl tp ti us n, Sees m [(Str.ofString "quad_pos", .int cb.1.2.1 tq), (Str.ofString "leftchar", .int cb.1.2.2.1 tl), (Str.ofString "pads", .int 0 tp), (Str.ofString "i", .int cb.1.2.2.2 ti), (Str.ofString "out", .ref lr), (Str.ofString "strict_mode", .bool st)] ∧ nx = [(lr, listOf (List.toArray us) n)] ∧ IntsAre us cb.1.1) a2bH (([], 0, 0, 0), true) hk hh F1 N1 ?_ ?_ ?_)
  · exact ⟨fun _ => rfl, _, _, _, _, [], 0, sees_cons rfl (sees_cons rfl (sees_cons rfl (sees_cons rfl (sees_cons rfl (sees_cons rfl sees_nil))))), rfl, .nil⟩
  · rintro i k t ⟨⟨row, q, lc, ix⟩, bb⟩ m₁ nx h5 tk5 own hki hac hk0 hk1 hoff ⟨hbb, tq, tl, tp, ti, us, n, hs, rfl, hus⟩ F5 N5
    have hac := congrArg Prod.fst hac
    rw [a2bH_fst] at hac
    simp only at hac hbb
    have hinv := a2b_fold_inv (ks.take i) ([], 0, 0, 0) a2bI_0
    have hul := a2b_len (ks.take i) ([], 0, 0, 0)
    rw [← hac] at hinv hul
    simp only at hus
    rw [← hus.length] at hul
    have hul1 : us.length ≤ 20 := Nat.le_trans hul.1 (by rw [List.length_take]; show 0 + min i ks.length ≤ 20; (first | lia | omega))
    obtain ⟨_, hlc0, hix0, hqc⟩ := hinv
    simp only at hlc0 hix0 hqc
    have hq0 : 0 ≤ q := by (first | lia | omega)
    have hq3 : q ≤ 3 := by (first | lia | omega)
    have hlc1 : lc < 64 := by (first | lia | omega)
    have hkm := List.mem_of_getElem? hki
    have hne := hval k hkm
    have hv := b64v_in k
    replace F5 := fr_over hs F5
    simp only [over, List.map_cons, List.map_nil] at F5 hoff
    clear F1 N1 hs hac hul hki
    have hgo : ¬ 64 ≤ b64v k → st = true → (bb && decide (b64v k < 64)) = true := fun h hs => by rw [hbb hs]; simp only [Bool.true_and, decide_eq_true_eq]; lia
    show wpAny _ _ _ _ _ _
    k_fold
    k_steps
    · exact absurd (by assumption) hne
    · have hst : st = true := by assumption
      have hkb : 64 ≤ b64v k := by assumption
      obtain rfl : hd0 = none := hn.resolve_right fun h => absurd (h hst k hkm) (by lia)
      k_steps
      exact Stop.go (wpAny_mono (leave_first (by assumption) (by assumption) (by assumption)) (fun _ _ x => ⟨hst, ⟨k, hkm, hkb⟩, x⟩) fun _ _ e => e)
    · rename Fr _ _ _ _ => F6
      rename News _ _ _ _ => N6
      
      rw [a2bH, a2bG_s (by assumption)]
      exact Stop.go (inv_end1 F6 N6 ⟨fun h => (by first | exact absurd h (by assumption) | (subst h; contradiction) | simp_all), _, _, _, _, _, _, sees_cons rfl (sees_cons rfl (sees_cons rfl (sees_cons rfl (sees_cons rfl (sees_cons rfl sees_nil))))), rfl, hus⟩)
    · rename Fr _ _ _ _ => F6
      rename News _ _ _ _ => N6
      
      rw [a2bH, a2bG_a (by assumption) (by assumption)]
      exact Stop.go (inv_end1 F6 N6 ⟨hgo (by assumption), _, _, _, _, _, _, sees_cons rfl (sees_cons rfl (sees_cons rfl (sees_cons rfl (sees_cons rfl (sees_cons rfl sees_nil))))), rfl, hus⟩)
    · rename Fr _ _ _ _ => F6
      rename News _ _ _ _ => N6
      simp only [List.push_toArray] at N6
      rw [a2bH, a2bG_b (by assumption) (by assumption) (by assumption)]
      exact Stop.go (inv_end1 F6 N6 ⟨hgo (by assumption), _, _, _, _, _, _, sees_cons rfl (sees_cons rfl (sees_cons rfl (sees_cons rfl (sees_cons rfl (sees_cons rfl sees_nil))))), rfl, hus.append (.cons _ _ .nil)⟩)
    · rename Fr _ _ _ _ => F6
      rename News _ _ _ _ => N6
      simp only [List.push_toArray] at N6
      rw [a2bH, a2bG_c (by assumption) (by assumption) (by assumption) (by assumption)]
      exact Stop.go (inv_end1 F6 N6 ⟨hgo (by assumption), _, _, _, _, _, _, sees_cons rfl (sees_cons rfl (sees_cons rfl (sees_cons rfl (sees_cons rfl (sees_cons rfl sees_nil))))), rfl, hus.append (.cons _ _ .nil)⟩)
    · rename Fr _ _ _ _ => F6
      rename News _ _ _ _ => N6
      simp only [List.push_toArray] at N6
      rw [a2bH, a2bG_d (by assumption) (by assumption) (by assumption) (by assumption)]
      exact Stop.go (inv_end1 F6 N6 ⟨hgo (by assumption), _, _, _, _, _, _, sees_cons rfl (sees_cons rfl (sees_cons rfl (sees_cons rfl (sees_cons rfl (sees_cons rfl sees_nil))))), rfl, hus.append (.cons _ _ .nil)⟩)
  · rintro m₁ nx h5 tk5 ⟨hbb, tq, tl, tp, ti, us, n, hs, rfl, hus⟩ F5 N5
    have hfine : st = true → ∀ k ∈ ks, b64v k < 64 := fun h => a2bH_snd ks _ (hbb h)
    have hq := hq hfine
    rw [a2bH_fst] at hs hus
    simp only at hs hus
    have hul := (a2b_len ks ([], 0, 0, 0)).1
    rw [← hus.length] at hul
    have hul : us.length ≤ 20 := Nat.le_trans hul (by show 0 + ks.length ≤ 20; (first | lia | omega))
    have hIn : KBa.In (ks.foldl a2bG ([], 0, 0, 0)).1 := (a2b_fold_inv ks _ a2bI_0).1
    rw [hq] at hs
    replace F5 := fr_overD hs F5
    simp only [over] at F5
    clear F1 N1 hs
    k_steps
    rename Fr _ _ _ _ => F6
    rename News _ _ _ _ => N6
    refine Stop.go (make_hd F6 N6 (HdOk.keeps hh F6.keep) (News.isList N6 (by k_mem)) hus hIn (by rw [← hus.length]; (first | lia | omega)) ?_)
    intro h7 t7 k7 F7 N7 _
    exact ⟨hfine, out_bytes (by assumption) (KBa.ints_make (by assumption))⟩
theorem a2b_tells (C : CanB w loose mean mg mb base env outer A s.heap) (hr : A.depth + 20 < recursionLimit) (hh : HdOk A s.heap) {b : Array UInt8} {t : Tok} {st : Bool} {ks : List Int} (hk : KBw.bInts b = ks) (hlen : ks.length ≤ 20) (hval : ∀ k ∈ ks, k ≠ 61 ∧ (st = true → b64v k < 64)) (hq : (ks.foldl a2bG ([], 0, 0, 0)).2.1 = 0) :
   wpAny (model pr w) A (call (.ref 232) [.bytes b t] [(Str.ofString "strict_mode", Value.bool st)]) (Out s (RBytes (ks.foldl a2bG ([], 0, 0, 0)).1)) NoE s := by
  refine wpAny_mono (a2b_both C hr hh hk hlen (fun k h => (hval k h).1) (.inr fun hs k h => (hval k h).2 hs) fun _ => hq) (fun _ _ x => x.2) fun v s' x => ?_
  obtain ⟨hs, ⟨k, h1, h2⟩, _⟩ := x
  exact absurd ((hval k h1).2 hs) (by lia)
theorem a2b_raises (C : CanB w loose mean mg mb base env outer A s.heap) (hr : A.depth + 20 < recursionLimit) (hh : A.handled = none) {b : Array UInt8} {t : Tok} {ks : List Int} (hk : KBw.bInts b = ks) (hlen : ks.length ≤ 20) (hval : ∀ k ∈ ks, k ≠ 61) (hbad : ∃ k ∈ ks, 64 ≤ b64v k) :
   wpAny (model pr w) A (call (.ref 232) [.bytes b t] [(Str.ofString "strict_mode", Value.bool true)]) (fun _ _ => False) (ERaise base env outer s) s := by
  obtain ⟨k, h1, h2⟩ := hbad
  have no : ¬ (true = true → ∀ k ∈ ks, b64v k < 64) := fun h => absurd (h rfl k h1) (by lia)
  exact wpAny_mono (a2b_both C hr (.inl hh) hk hlen hval (.inl hh) fun h => absurd h no) (fun _ _ x => absurd x.1 no) fun _ _ x => x.2.2
end
end Mine
end
-- C5
section
open PySem PySem.W PySem.Calls PyProof.Rows
set_option linter.all false
set_option maxRecDepth 100000
namespace Mine
local macro_rules | `(tactic| walk_at "call ref") => `(tactic| with_reducible refine Mine.stop_ref 232 ?_)
local macro_rules | `(tactic| walk_at "call ref") => `(tactic| (with_reducible refine Mine.at_ref 183 ?_); k_call_by "m_use" use_val bfd_tells)
local macro_rules | `(tactic| walk_at "getMethod bytes") => `(tactic| (with_reducible refine meth_translate ?_))
local macro_rules | `(tactic| walk_at "getMethod type:bytes") => `(tactic| (refine' method_type ?F ?X (by first | rfl | kernel_rfl) (by decide +kernel) ?e ?h ?_; (case F => k_asm); (case X => k_asm); (case e => k_dflt k_is); (case h => k_handed)))
local macro_rules | `(tactic| walk_at "call builtin:bytes.maketrans") => `(tactic| (refine call_maketrans ?_; intro _ _))
local macro_rules | `(tactic| walk_at "call builtin:bytes.translate") => `(tactic| (refine call_translate (tabOf_size _ _ _ _) (by assumption) ?_; intro _ _))
/-- what is decoded: the letters after the alphabet is turned back -/
noncomputable def decF (ks : List Int) : List Int := (ks.foldl a2bG ([], 0, 0, 0)).1
set_option maxHeartbeats 8000000
section
variable {w : World} {loose : List Str} {mean : ExcName → Option Value} {mg mb : Str → Option Value} {base : Heap} {env : Env} {outer : List Env} {A : Around} {s : Shared}
/-- what was told, and that nothing was to be raised -/
noncomputable def Told (P : Prop) (s : Shared) (R : Value → Heap → Prop) (v : Value) (s' : Shared) : Prop := P ∧ Out s R v s'
theorem use_both {g : Heap} {L : Addr} {m : Str → Option Value} {news : List (Addr × Obj)} {P : Prop} {t : Sem Value} {ks : List Int} {Q E E' : Value → Shared → Prop} (F : Fr g L s.heap m) (N : News g L s.heap news) (c : wpAny (model pr w) A t (fun v s' => P ∧ Out s (RBytes ks) v s') E' s)
    (k : P → ∀ b tk h' tk', KBw.bInts b = ks → Fr g L h' m → News g L h' news → Q (.bytes b tk) { s with heap := h', toks := tk' }) (e : ∀ v s', E' v s' → E v s') : wpAny (model pr w) A t Q E s := by
  refine wpAny_mono c (fun v s' o => ?_) e
  obtain ⟨hp, h', tk', rfl, hk, b, tk, rfl, hb⟩ := o
  exact k hp b tk h' tk' hb (Fr.keepK F hk) (News.keepK N hk)
theorem b64decode_both0 (C : CanB w loose mean mg mb base env outer A s.heap) (hr : A.depth + 30 < recursionLimit) (hh : HdOk A s.heap) {b : Array UInt8} {t : Tok} {ks : List Int} (hk : KBw.bInts b = ks) (hlen : ks.length ≤ 20) {vd : Bool} {args : List Value} (hargs : (args = [.bytes b t, Value.none] ∧ vd = false) ∨ (args = [.bytes b t, Value.none, .bool true] ∧ vd = true))
   (hval : ∀ k ∈ ks, k ≠ 61) (hn : A.handled = none ∨ (vd = true → ∀ k ∈ ks, b64v k < 64)) (hq : (vd = true → ∀ k ∈ ks, b64v k < 64) → ((ks).foldl a2bG ([], 0, 0, 0)).2.1 = 0) :
   wpAny (model pr w) A (call (.ref 256) args) (Told (vd = true → ∀ k ∈ ks, b64v k < 64) s (RBytes (decF (ks)))) (fun v s' => vd = true ∧ (∃ k ∈ ks, 64 ≤ b64v k) ∧ ERaise base env outer s v s') s := by
  obtain ⟨hd0, dp, fr, gd, un⟩ := A
  have hr0 : dp < recursionLimit := by simp only at hr; lia
  have hsz : b.size ≤ 16777216 := by rw [← KBw.ints_length, hk]; lia
  refine' Mine.enter (binds := [(Str.ofString "s", Value.bytes b t), (Str.ofString "altchars", Value.none), (Str.ofString "validate", Value.bool vd)]) C ?ho ?hcd ?hroom ?hbind ?hloc ?hbody ?c2 ?c3 ?c4 ?c5
  case ho => k_is
  case hcd => k_is
  case hroom => assumption
  case hbind =>
    intro XB
    rcases hargs with ⟨rfl, rfl⟩ | ⟨rfl, rfl⟩
    · first | exact BindsTo.of_eq rfl | exact binds_K XB rfl (by k_is) rfl rfl rfl
    · first | exact BindsTo.of_eq rfl | exact binds_K XB rfl (by k_is) rfl rfl rfl
  case hloc => exact locs rfl
  case c2 => exact rfl
  case c3 => exact rfl
  case c4 => exact rfl
  case c5 => decide
  intro _ _ _ F' _ _ _ _
  simp only [List.length_cons, List.length_nil, List.reverse_cons, List.reverse_nil, List.nil_append, List.cons_append] at F' ⊢
  obtain rfl : fr = some (env :: outer) := by assumption
  clear hargs
  k_fold
  k_steps
  rename Fr _ _ _ _ => F1
  rename News _ _ _ _ => N1
  refine Stop.go (use_both F1 N1 (a2b_both (by exact Mine.can_of) (by k_call_by "m_room" x x) ?hd hk hlen hval hn hq) ?_ ?_)
  case hd => exact HdOk.keeps (h := s.heap) hh F1.keep
  · intro hf b2 t2 h2 tk2 hb2 F2 N2
    clear F1 N1
    k_steps
    exact ⟨hf, out_bytes (by assumption) hb2⟩
  · rintro v s' ⟨h1, h2, x⟩
    exact wpAny_mono (leave_next (by assumption) F1 ⟨_, _, rfl⟩ x) (fun _ _ x => ⟨h1, h2, x⟩) fun _ _ e => e
theorem b64decode_both1 (C : CanB w loose mean mg mb base env outer A s.heap) (hr : A.depth + 30 < recursionLimit) (hh : HdOk A s.heap) {b : Array UInt8} {t : Tok} {ks : List Int} (hk : KBw.bInts b = ks) (hlen : ks.length ≤ 20) {x y : UInt8} {u : Tok} {vd : Bool} {args : List Value} (hargs : (args = [.bytes b t, Value.bytes #[x, y] u] ∧ vd = false) ∨ (args = [.bytes b t, Value.bytes #[x, y] u, .bool true] ∧ vd = true))
   (hval : ∀ k ∈ (ks.map (trI x.toNat y.toNat 43 47)), k ≠ 61) (hn : A.handled = none ∨ (vd = true → ∀ k ∈ (ks.map (trI x.toNat y.toNat 43 47)), b64v k < 64)) (hq : (vd = true → ∀ k ∈ (ks.map (trI x.toNat y.toNat 43 47)), b64v k < 64) → (((ks.map (trI x.toNat y.toNat 43 47))).foldl a2bG ([], 0, 0, 0)).2.1 = 0) :
   wpAny (model pr w) A (call (.ref 256) args) (Told (vd = true → ∀ k ∈ (ks.map (trI x.toNat y.toNat 43 47)), b64v k < 64) s (RBytes (decF ((ks.map (trI x.toNat y.toNat 43 47)))))) (fun v s' => vd = true ∧ (∃ k ∈ (ks.map (trI x.toNat y.toNat 43 47)), 64 ≤ b64v k) ∧ ERaise base env outer s v s') s := by
  obtain ⟨hd0, dp, fr, gd, un⟩ := A
  have hr0 : dp < recursionLimit := by simp only at hr; lia
  have hsz : b.size ≤ 16777216 := by rw [← KBw.ints_length, hk]; lia
  refine' Mine.enter (binds := [(Str.ofString "s", Value.bytes b t), (Str.ofString "altchars", Value.bytes #[x, y] u), (Str.ofString "validate", Value.bool vd)]) C ?ho ?hcd ?hroom ?hbind ?hloc ?hbody ?c2 ?c3 ?c4 ?c5
  case ho => k_is
  case hcd => k_is
  case hroom => assumption
  case hbind =>
    intro XB
    rcases hargs with ⟨rfl, rfl⟩ | ⟨rfl, rfl⟩
    · first | exact BindsTo.of_eq rfl | exact binds_K XB rfl (by k_is) rfl rfl rfl
    · first | exact BindsTo.of_eq rfl | exact binds_K XB rfl (by k_is) rfl rfl rfl
  case hloc => exact locs rfl
  case c2 => exact rfl
  case c3 => exact rfl
  case c4 => exact rfl
  case c5 => decide
  intro _ _ _ F' _ _ _ _
  simp only [List.length_cons, List.length_nil, List.reverse_cons, List.reverse_nil, List.nil_append, List.cons_append] at F' ⊢
  obtain rfl : fr = some (env :: outer) := by assumption
  clear hargs
  k_fold
  k_steps
  rename Fr _ _ _ _ => F1
  rename News _ _ _ _ => N1
  refine Stop.go (use_both F1 N1 (a2b_both (by exact Mine.can_of) (by k_call_by "m_room" x x) ?hd (tr_ints hk _ _ _ _) (by rw [List.length_map]; exact hlen) hval hn hq) ?_ ?_)
  case hd => exact HdOk.keeps (h := s.heap) hh F1.keep
  · intro hf b2 t2 h2 tk2 hb2 F2 N2
    clear F1 N1
    k_steps
    exact ⟨hf, out_bytes (by assumption) hb2⟩
  · rintro v s' ⟨h1, h2, x⟩
    exact wpAny_mono (leave_next (by assumption) F1 ⟨_, _, rfl⟩ x) (fun _ _ x => ⟨h1, h2, x⟩) fun _ _ e => e
theorem b64decode_tells00 (C : CanB w loose mean mg mb base env outer A s.heap) (hr : A.depth + 30 < recursionLimit) (hh : HdOk A s.heap) {b : Array UInt8} {t : Tok} {ks : List Int} (hk : KBw.bInts b = ks) (hlen : ks.length ≤ 20)
   (hval : ∀ k ∈ ks, k ≠ 61 ∧ (false = true → b64v k < 64)) (hq : (ks.foldl a2bG ([], 0, 0, 0)).2.1 = 0) :
   wpAny (model pr w) A (call (.ref 256) [.bytes b t, Value.none]) (Out s (RBytes (decF ks))) NoE s := by
  refine wpAny_mono (b64decode_both0 (vd := false) C hr hh hk hlen (.inl ⟨rfl, rfl⟩) (fun k h => (hval k h).1) (.inr fun e k h => (hval k h).2 e) fun _ => hq) (fun _ _ x => x.2) fun v s' x => ?_
  obtain ⟨e, ⟨k, h1, h2⟩, _⟩ := x
  exact absurd ((hval k h1).2 e) (by lia)
theorem b64decode_tells01 (C : CanB w loose mean mg mb base env outer A s.heap) (hr : A.depth + 30 < recursionLimit) (hh : HdOk A s.heap) {b : Array UInt8} {t : Tok} {ks : List Int} (hk : KBw.bInts b = ks) (hlen : ks.length ≤ 20)
   (hval : ∀ k ∈ ks, k ≠ 61 ∧ (true = true → b64v k < 64)) (hq : (ks.foldl a2bG ([], 0, 0, 0)).2.1 = 0) :
   wpAny (model pr w) A (call (.ref 256) [.bytes b t, Value.none, .bool true]) (Out s (RBytes (decF ks))) NoE s := by
  refine wpAny_mono (b64decode_both0 (vd := true) C hr hh hk hlen (.inr ⟨rfl, rfl⟩) (fun k h => (hval k h).1) (.inr fun e k h => (hval k h).2 e) fun _ => hq) (fun _ _ x => x.2) fun v s' x => ?_
  obtain ⟨e, ⟨k, h1, h2⟩, _⟩ := x
  exact absurd ((hval k h1).2 e) (by lia)
theorem b64decode_tells10 (C : CanB w loose mean mg mb base env outer A s.heap) (hr : A.depth + 30 < recursionLimit) (hh : HdOk A s.heap) {b : Array UInt8} {t : Tok} {ks : List Int} (hk : KBw.bInts b = ks) (hlen : ks.length ≤ 20) {x y : UInt8} {u : Tok}
   (hval : ∀ k ∈ (ks.map (trI x.toNat y.toNat 43 47)), k ≠ 61 ∧ (false = true → b64v k < 64)) (hq : ((ks.map (trI x.toNat y.toNat 43 47)).foldl a2bG ([], 0, 0, 0)).2.1 = 0) :
   wpAny (model pr w) A (call (.ref 256) [.bytes b t, Value.bytes #[x, y] u]) (Out s (RBytes (decF (ks.map (trI x.toNat y.toNat 43 47))))) NoE s := by
  refine wpAny_mono (b64decode_both1 (vd := false) C hr hh hk hlen (.inl ⟨rfl, rfl⟩) (fun k h => (hval k h).1) (.inr fun e k h => (hval k h).2 e) fun _ => hq) (fun _ _ x => x.2) fun v s' x => ?_
  obtain ⟨e, ⟨k, h1, h2⟩, _⟩ := x
  exact absurd ((hval k h1).2 e) (by lia)
theorem b64decode_tells11 (C : CanB w loose mean mg mb base env outer A s.heap) (hr : A.depth + 30 < recursionLimit) (hh : HdOk A s.heap) {b : Array UInt8} {t : Tok} {ks : List Int} (hk : KBw.bInts b = ks) (hlen : ks.length ≤ 20) {x y : UInt8} {u : Tok}
   (hval : ∀ k ∈ (ks.map (trI x.toNat y.toNat 43 47)), k ≠ 61 ∧ (true = true → b64v k < 64)) (hq : ((ks.map (trI x.toNat y.toNat 43 47)).foldl a2bG ([], 0, 0, 0)).2.1 = 0) :
   wpAny (model pr w) A (call (.ref 256) [.bytes b t, Value.bytes #[x, y] u, .bool true]) (Out s (RBytes (decF (ks.map (trI x.toNat y.toNat 43 47))))) NoE s := by
  refine wpAny_mono (b64decode_both1 (vd := true) C hr hh hk hlen (.inr ⟨rfl, rfl⟩) (fun k h => (hval k h).1) (.inr fun e k h => (hval k h).2 e) fun _ => hq) (fun _ _ x => x.2) fun v s' x => ?_
  obtain ⟨e, ⟨k, h1, h2⟩, _⟩ := x
  exact absurd ((hval k h1).2 e) (by lia)
theorem b64decode_raises0 (C : CanB w loose mean mg mb base env outer A s.heap) (hr : A.depth + 30 < recursionLimit) (hh : A.handled = none) {b : Array UInt8} {t : Tok} {ks : List Int} (hk : KBw.bInts b = ks) (hlen : ks.length ≤ 20)
   (hval : ∀ k ∈ ks, k ≠ 61) (hbad : ∃ k ∈ ks, 64 ≤ b64v k) :
   wpAny (model pr w) A (call (.ref 256) [.bytes b t, Value.none, .bool true]) (fun _ _ => False) (ERaise base env outer s) s := by
  obtain ⟨k, h1, h2⟩ := hbad
  have no : ¬ (true = true → ∀ k ∈ ks, b64v k < 64) := fun h => absurd (h rfl k h1) (by lia)
  exact wpAny_mono (b64decode_both0 (vd := true) C hr (.inl hh) hk hlen (.inr ⟨rfl, rfl⟩) hval (.inl hh) fun h => absurd h no) (fun _ _ x => absurd x.1 no) fun _ _ x => x.2.2
theorem b64decode_raises1 (C : CanB w loose mean mg mb base env outer A s.heap) (hr : A.depth + 30 < recursionLimit) (hh : A.handled = none) {b : Array UInt8} {t : Tok} {ks : List Int} (hk : KBw.bInts b = ks) (hlen : ks.length ≤ 20) {x y : UInt8} {u : Tok}
   (hval : ∀ k ∈ (ks.map (trI x.toNat y.toNat 43 47)), k ≠ 61) (hbad : ∃ k ∈ (ks.map (trI x.toNat y.toNat 43 47)), 64 ≤ b64v k) :
   wpAny (model pr w) A (call (.ref 256) [.bytes b t, Value.bytes #[x, y] u, .bool true]) (fun _ _ => False) (ERaise base env outer s) s := by
  obtain ⟨k, h1, h2⟩ := hbad
  have no : ¬ (true = true → ∀ k ∈ (ks.map (trI x.toNat y.toNat 43 47)), b64v k < 64) := fun h => absurd (h rfl k h1) (by lia)
  exact wpAny_mono (b64decode_both1 (vd := true) C hr (.inl hh) hk hlen (.inr ⟨rfl, rfl⟩) hval (.inl hh) fun h => absurd h no) (fun _ _ x => absurd x.1 no) fun _ _ x => x.2.2
end
end Mine
end
-- Exc2
section
open PySem PySem.W PySem.Calls PyProof.Rows
set_option linter.all false
set_option maxRecDepth 100000
namespace Mine
section
variable {w : World} {g : Heap} {A : Around} {s : Shared} {L : Addr} {m : Str → Option Value} {news : List (Addr × Obj)} {t : Sem Value} {E : Value → Shared → Prop} {Q : Value → Shared → Prop}
theorem use_bytesK {ks : List Int} (F : Fr g L s.heap m) (N : News g L s.heap news) (c : wpAny (model pr w) A t (Out s (RBytes ks)) NoE s)
    (k : ∀ b tk h' tk', Keep s.heap h' → KBw.bInts b = ks → Fr g L h' m → News g L h' news → Q (.bytes b tk) { s with heap := h', toks := tk' }) : wpAny (model pr w) A t Q E s := by
  refine wpAny_mono c (fun v s' o => ?_) fun _ _ e => e.elim
  obtain ⟨h', tk', rfl, hk, b, tk, rfl, hb⟩ := o
  exact k b tk h' tk' hk hb (Fr.keepK F hk) (News.keepK N hk)
end
section
variable {w : World} {A₀ : Around} {E : Value → Shared → Prop} {s s' : Shared} {base g : Heap} {outer : List Env} {L a : Addr} {v : Value} {m : Str → Option Value} {name : Str} {scope : Scope} {cd : Value}
  {b₀ : Stmt} {suite : List Stmt} {pos np : Pos} {rest : List ExceptHandler} {Q : Flow → Shared → Prop} {news : List (Addr × Obj)}
  {loose : List Str} {mean : ExcName → Option Value} {mg mb : Str → Option Value}
/-- the class's exception is caught under its base's name; it still has no context -/
theorem caught_H (x : ERaise base (envOf name scope L a cd) outer s v s') (F : Fr g L s.heap m) (N : News g L s.heap news) (K : Below A₀ base outer g) (XB : (hd.heap_1 w.params).In base) (TB : Top view loose mean mg mb base)
    (D : KtsDicts (outer.filterMap (·.frame)) g)
    (q : ktsIn (hd.heap_1 w.params) 193 "ValueError" = true) (ex : nsIn (hd.heap_1 w.params) mainGlobals (Str.ofString "ValueError") = some none)
    (k : ∀ e h' g' tk', KtsTurn (outer.filterMap (·.frame)) g g' → Fr g' L h' m → News g' L h' news → Below A₀ base outer g' → (hd.heap_1 w.params).In g' → Top view loose mean mg mb g' → KtsDicts (outer.filterMap (·.frame)) g' → NoCtx h' e →
      wpAny (model pr w) ((A₀.deeper (envOf name scope L a cd)).mark (some (.ref e))) (execs (b₀ :: suite) (envOf name scope L a cd)) Q E { s with heap := h', toks := tk' })
    (hk : scope.kind = .function := by rfl) (hx : (envOf name scope L a cd).kindOf (Str.ofString "ValueError") = some .globalImplicit := by rfl)
    (hE : ∀ e, PassesOwnAt (model pr w) ((A₀.deeper (envOf name scope L a cd)).mark (some (.ref e))) (A₀.deeper (envOf name scope L a cd)) (envOf name scope L a cd) E := by intro e; passes_own) :
    wpAny (model pr w) (A₀.deeper (envOf name scope L a cd)) (noteFrame v (envOf name scope L a cd))
      (fun _ s₂ => wpAny (model pr w) (A₀.deeper (envOf name scope L a cd)) (setFlight v none) (fun _ s₃ =>
        wpAny (model pr w) (A₀.deeper (envOf name scope L a cd)) (handleBy v (envOf name scope L a cd) (.ExceptHandler (some (.Name (Str.ofString "ValueError") np)) none (b₀ :: suite) pos :: rest)) Q E s₃) E s₂) E s' := by
  obtain ⟨e, t, vs, h₁, tk₁, rfl, rfl, R, hsm, hn⟩ := x
  obtain ⟨⟨B, hB, hBG, hl, hfl, hnew⟩, htup⟩ := R
  have hL : B.get? L = none := by
    obtain ⟨_, ⟨L', _, hf, hn', _⟩, _⟩ := hfl.2.2.1
    obtain rfl : L = L' := Option.some.inj hf
    exact hn'
  refine wpAny_mono (wpAny_safe (e := e) (safe_note _ _) hn (wpAny_looks_onW (E := E) (Q := fun _ s₂ => ∃ h₄, s₂ = { s with heap := h₄, toks := tk₁ } ∧ Heap.HeldW B (envOf name scope L a cd :: outer) e (.ref 193) (.ref t) L h₄ ∧ h₁.UpToSlots h₄) (Around.frames_deeper K.stack) rfl hfl fun h' a b => ⟨h', rfl, a, b⟩)) ?_ fun _ _ x => x.1
  rintro _ s₂ ⟨⟨h₄, rfl, hheld₄, hsm₄⟩, hn₄⟩
  refine wpAny_mono (wpAny_safe (e := e) (safe_setFlight _ _) hn₄ (wpAny_landsW (E := E) (Q := fun _ s₂ => ∃ h₅, s₂ = { s with heap := h₅, toks := tk₁ } ∧ Heap.FlyingW B (envOf name scope L a cd :: outer) e (.ref 193) (.ref t) h₅ ∧ h₄.UpToSlots h₅) hheld₄ fun h' a b => ⟨h', rfl, a, b⟩)) ?_ fun _ _ x => x.1
  rintro _ s₃ ⟨⟨h₅, rfl, hheld, hsm₅'⟩, hn₅⟩
  have hsm₅ := hsm₄.trans hsm₅'
  obtain ⟨g₅, T₅, F₅, K₅⟩ := kts_ground K F hBG hheld.1 (hsm.trans hsm₅)
  have X₅ : (hd.heap_1 w.params).In g₅ := XB.keeps K₅.stays
  have P₅ : TopRead view loose mg mb g₅ := topRead_of (TB.keeps K₅.stays)
  obtain ⟨ob, hob, hobc⟩ := hheld.there
  obtain ⟨nm, q', N', bs, bm, hdct, sn, sub, ab, col, dd, k0, k1, k2, k3, k5, newId, hC, hbase, hbT⟩ := kts_cls X₅ q
  have hC₅ := F₅.keep _ _ hC
  refine wpAny_handleBy_cons (codeAny_handlers_test (name_B F₅ X₅ P₅ ex PyProof.Rows.Boot.«ValueError» (by decide) ?_ hk hx (by decide))) (by intro q; cases q)
  refine wpAny_excMatches_sub_type hC₅ hob hobc PySem.F.isExc_ValueError PySem.F.notTuple_ValueError ?_
  rw [hbT]
  refine codeAny_handlers_suite ?_
  refine wpAny_mono (wpAny_safe (e := e) (safe_setFlight _ _) hn₅ (lands_againW (Q := fun _ s₂ => ∃ h₆, s₂ = { s with heap := h₆, toks := tk₁ } ∧ Heap.FlyingW B (envOf name scope L a cd :: outer) e (.ref 193) (.ref t) h₆ ∧ h₅.UpToSlots h₆) hheld fun h' a b => ⟨h', rfl, a, b⟩)) ?_ fun _ _ x => x.1
  rintro _ s₄ ⟨⟨h₆, rfl, hfl₆, hsm₆⟩, hn₆⟩
  obtain ⟨g₆, T₆, F₆, K₆⟩ := kts_ground K F hBG hfl₆.1 ((hsm.trans hsm₅).trans hsm₆)
  have X₆ : (hd.heap_1 w.params).In g₆ := XB.keeps K₆.stays
  have P₆ : Top view loose mean mg mb g₆ := TB.keeps K₆.stays
  refine wpAny_passesOwnAt (hE e) (k e h₆ g₆ tk₁ T₆ F₆ (fun p hp => ⟨?_, (N p hp).2.1, T₆.none_ _ (N p hp).2.2⟩) K₆ X₆ P₆ (D.turn T₆) hn₆)
  refine hfl₆.1 _ _ (hBG _ _ (N p hp).1 fun hm => ?_)
  rcases kts_mem hm with z | z
  · exact (N p hp).2.1 z
  · obtain ⟨_, o, ho, _⟩ := K.frames.mem z
    rw [(N p hp).2.2] at ho; cases ho
end
end Mine
end
-- T3
section
open PySem PySem.W PySem.Calls PyProof.Rows
set_option linter.all false
set_option maxRecDepth 100000
namespace Mine
local macro_rules | `(tactic| walk_at "call ref") => `(tactic| with_reducible refine Mine.stop_ref 256 ?_)
theorem ints_inj {b c : Array UInt8} (h : KBw.bInts b = KBw.bInts c) : b.toList = c.toList := by
  have inj : ∀ l r : List UInt8, l.map (fun c => ((c.toNat : Nat) : Int)) = r.map (fun c => ((c.toNat : Nat) : Int)) → l = r := by
    intro l
    induction l with
    | nil => intro r h; cases r with
      | nil => rfl
      | cons a r => cases h
    | cons a l ih => intro r h; cases r with
      | nil => cases h
      | cons b r =>
        simp only [List.map_cons, List.cons.injEq] at h
        rw [UInt8.toNat.inj (Int.ofNat.inj h.1), ih r h.2]
  exact inj _ _ h
theorem dot_stays {x y : UInt8} (hx : x ≠ 46) (hy : y ≠ 46) : 64 ≤ b64v (trI x.toNat y.toNat 43 47 46) ∧ trI x.toNat y.toNat 43 47 46 ≠ 61 := by
  have h : ∀ z : UInt8, z ≠ 46 → ¬ (46 : Int) = z.toNat := by
    intro z hz h
    have h2 : z.toNat = (46 : UInt8).toNat := by show z.toNat = 46; (first | lia | omega)
    exact hz (UInt8.toNat.inj h2)
  have e : trI x.toNat y.toNat 43 47 46 = 46 := by unfold trI; rw [if_neg (h y hy), if_neg (h x hx)]
  rw [e]; decide
set_option maxHeartbeats 8000000
section
variable {w : World} {loose : List Str} {mean : ExcName → Option Value} {mg mb : Str → Option Value} {base : Heap} {env : Env} {outer : List Env} {A : Around} {s : Shared}
theorem strewn_tells0 (C : CanS w loose mean mg mb base env outer A s.heap) (hr : A.depth + 40 < recursionLimit) (hh : A.handled = none) {b : Array UInt8} {t : Tok} {ks : List Int} (hk : KBw.bInts b = ks) (hks : ks.length = 8) {p : Int} {t3 : Tok} (hp : 0 ≤ p)
   (hval : ∀ k ∈ ks.map id, k ≠ 61 ∧ b64v k < 64) :
   wpAny (model pr w) A (call (.ref 320) [.bytes b t, Value.none, .int p t3]) (OutS env outer s (RBool true)) NoE s := by
  obtain ⟨hd0, dp, fr, gd, un⟩ := A
  obtain rfl : hd0 = none := hh
  have hr0 : dp < recursionLimit := by simp only at hr; (first | lia | omega)
  have hsz : b.size ≤ 16777216 := by rw [← KBw.ints_length, hk]; (first | lia | omega)
  k_call_by "m_enterS" C [(Str.ofString "writing", Value.bytes b t), (Str.ofString "two", Value.none), (Str.ofString "p", Value.int p t3)]
  obtain rfl : fr = some (env :: outer) := by assumption
  k_fold
  k_steps
  rename Fr _ _ _ _ => F1
  rename News _ _ _ _ => N1
  rename KBw.bInts (_ ++ _ ++ _) = _ => hS
  obtain ⟨f1, f2, f3, f4, f5, f6⟩ := strewn_facts id (z := 46) (cut_both ks (clipAt ks.length (p.fmod 9))) hks hval (by decide) (by decide)
  simp only [List.map_id] at f2 f3 f4 f5 f6 hval
  refine Stop.go (wpAny_mono (b64decode_raises0 (CanS.toB (canS_of (by assumption) F1 (by assumption) (by assumption) (by assumption) (by assumption) (by assumption))) (by k_call_by "m_room" x x) rfl hS f1 f2 f3) (fun _ _ h => h.elim) fun v s' x => ?_)
  refine caught_H x F1 N1 (by assumption) (by assumption) (by assumption) (by assumption) (by kts_isx) (by k_is) ?_
  intro e h6 g6 tk6 T6 F6 N6 K6 X6 P6 D6 hn6
  clear F1 N1 x
  (rename Below _ _ _ s.heap => o1; clear o1)
  (rename KtsDicts _ s.heap => o1; clear o1)
  (rename Frag.In _ s.heap => o1; clear o1)
  (rename Top _ _ _ _ _ s.heap => o1; clear o1)
  k_steps
  rename Fr _ _ _ _ => F7
  rename News _ _ _ _ => N7
  refine Stop.go (use_bytesK F7 N7 (b64decode_tells00 (by exact Mine.can_of) (by k_call_by "m_room" x x) (.inr ⟨e, rfl, hn6⟩) hS f1 (fun k hk => ⟨f2 k hk, fun h => nomatch h⟩) f4) ?_)
  intro b8 t8 h8 tk8 k8 hb8 F8 N8
  clear F7 N7
  have hn8 : NoCtx h8 e := hn6.at fun o q => k8 e o q
  clear hn6 k8
  k_steps
  rename Fr _ _ _ _ => F9
  rename News _ _ _ _ => N9
  refine Stop.go (use_bytesK F9 N9 (b64decode_tells01 (by exact Mine.can_of) (by k_call_by "m_room" x x) (.inr ⟨e, rfl, hn8⟩) hk (by (first | lia | omega)) (fun k hk => ⟨(hval k hk).1, fun _ => (hval k hk).2⟩) f5) ?_)
  intro b10 t10 h10 tk10 k10 hb10 F10 N10
  clear F9 N9
  k_steps
  have hE : b8.toList = b10.toList := ints_inj (hb8.trans (f6.trans hb10.symm))
  rw [show (b8.toList == b10.toList) = true by rw [hE]; exact beq_self_eq_true _]
  exact outS T6 (by assumption) rfl
theorem strewn_tells1 (C : CanS w loose mean mg mb base env outer A s.heap) (hr : A.depth + 40 < recursionLimit) (hh : A.handled = none) {b : Array UInt8} {t : Tok} {ks : List Int} (hk : KBw.bInts b = ks) (hks : ks.length = 8) {p : Int} {t3 : Tok} {x y : UInt8} {u : Tok} (hp : 0 ≤ p)
   (hx : x ≠ 46) (hy : y ≠ 46) (hval : ∀ k ∈ ks.map (trI x.toNat y.toNat 43 47), k ≠ 61 ∧ b64v k < 64) :
   wpAny (model pr w) A (call (.ref 320) [.bytes b t, Value.bytes #[x, y] u, .int p t3]) (OutS env outer s (RBool true)) NoE s := by
  obtain ⟨hd0, dp, fr, gd, un⟩ := A
  obtain rfl : hd0 = none := hh
  have hr0 : dp < recursionLimit := by simp only at hr; (first | lia | omega)
  have hsz : b.size ≤ 16777216 := by rw [← KBw.ints_length, hk]; (first | lia | omega)
  k_call_by "m_enterS" C [(Str.ofString "writing", Value.bytes b t), (Str.ofString "two", Value.bytes #[x, y] u), (Str.ofString "p", Value.int p t3)]
  obtain rfl : fr = some (env :: outer) := by assumption
  k_fold
  k_steps
  rename Fr _ _ _ _ => F1
  rename News _ _ _ _ => N1
  rename KBw.bInts (_ ++ _ ++ _) = _ => hS
  obtain ⟨f1, f2, f3, f4, f5, f6⟩ := strewn_facts (trI x.toNat y.toNat 43 47) (z := 46) (cut_both ks (clipAt ks.length (p.fmod 9))) hks hval (dot_stays hx hy).1 (dot_stays hx hy).2
  skip
  refine Stop.go (wpAny_mono (b64decode_raises1 (CanS.toB (canS_of (by assumption) F1 (by assumption) (by assumption) (by assumption) (by assumption) (by assumption))) (by k_call_by "m_room" x x) rfl hS f1 f2 f3) (fun _ _ h => h.elim) fun v s' x => ?_)
  refine caught_H x F1 N1 (by assumption) (by assumption) (by assumption) (by assumption) (by kts_isx) (by k_is) ?_
  intro e h6 g6 tk6 T6 F6 N6 K6 X6 P6 D6 hn6
  clear F1 N1 x
  (rename Below _ _ _ s.heap => o1; clear o1)
  (rename KtsDicts _ s.heap => o1; clear o1)
  (rename Frag.In _ s.heap => o1; clear o1)
  (rename Top _ _ _ _ _ s.heap => o1; clear o1)
  k_steps
  rename Fr _ _ _ _ => F7
  rename News _ _ _ _ => N7
  refine Stop.go (use_bytesK F7 N7 (b64decode_tells10 (by exact Mine.can_of) (by k_call_by "m_room" x x) (.inr ⟨e, rfl, hn6⟩) hS f1 (fun k hk => ⟨f2 k hk, fun h => nomatch h⟩) f4) ?_)
  intro b8 t8 h8 tk8 k8 hb8 F8 N8
  clear F7 N7
  have hn8 : NoCtx h8 e := hn6.at fun o q => k8 e o q
  clear hn6 k8
  k_steps
  rename Fr _ _ _ _ => F9
  rename News _ _ _ _ => N9
  refine Stop.go (use_bytesK F9 N9 (b64decode_tells11 (by exact Mine.can_of) (by k_call_by "m_room" x x) (.inr ⟨e, rfl, hn8⟩) hk (by (first | lia | omega)) (fun k hk => ⟨(hval k hk).1, fun _ => (hval k hk).2⟩) f5) ?_)
  intro b10 t10 h10 tk10 k10 hb10 F10 N10
  clear F9 N9
  k_steps
  have hE : b8.toList = b10.toList := ints_inj (hb8.trans (f6.trans hb10.symm))
  rw [show (b8.toList == b10.toList) = true by rw [hE]; exact beq_self_eq_true _]
  exact outS T6 (by assumption) rfl
end
end Mine
end
-- FB
section
open PySem PySem.W PySem.Calls PyProof.Rows PyProof.V PySem.Spec
set_option linter.all false
set_option maxRecDepth 100000
namespace Mine
/-- the signed number of some bytes, highest first -/
noncomputable def sval (ks : List Int) : Int := if 128 ≤ ks.headD 0 then KFB.value ks - 256 ^ ks.length else KFB.value ks
section
variable {prog : Program} {w : World} {M : Model} {A : Around} {E : Value → Shared → Prop} {s : Shared} {h₀ : Heap} {L : Addr} {m : Str → Option Value} {news : List (Addr × Obj)}
theorem callWith_boundKW {pos : Pos} {u : Addr} {first : List Value} {env : Env} {e : Expr} {rest : List Expr} {kws : List Keyword} {Q : Value → Shared → Prop} (hall : (backToKw pos (keywordEach kws env)).all (·.1.isSome) = true := by rfl)
    (h : wpAny M A (spliced (backTo pos (starEach (e :: rest) env))) (fun vs s₁ => wpAny M A (evalAll ((backToKw pos (keywordEach kws env)).map (·.2)))
      (fun ks s₂ => KFB.StandsAt u s₂.heap ∧ wpAny M A (call (.ref u) (first ++ vs) (((backToKw pos (keywordEach kws env)).filterMap (·.1)).zip ks)) Q E s₂) E s₁) E s)
    (hplain : ((backTo pos (starEach (e :: rest) env)).any (·.1) || (backToKw pos (keywordEach kws env)).any (·.1.isNone)) = false := by rfl) (he : starEach (e :: rest) env = (false, eval e env) :: starEach rest env := by rfl) :
    wpAny M A (callWith pos (.ref u) first (backTo pos (starEach (e :: rest) env)) (backToKw pos (keywordEach kws env))) Q E s := by
  unfold callWith
  refine wpAny_bind (wpAny_holding (wpAny_mono (evalArgs_kw2 (Q := fun x s₁ => KFB.StandsAt u s₁.heap ∧ wpAny M A (call (.ref u) (first ++ x.pos) x.kw) Q E s₁) hall h he) (fun x s₁ h₁ => wpAny_bind (wpAny_standAt ?_)) fun _ _ x => x))
  obtain ⟨ho, hcall⟩ := h₁
  simp only [hplain]
  refine wpAny_bind (m := keeperOf (.ref u)) ?_
  unfold keeperOf
  refine wpAny_bind (wpAny_load ho ?_)
  simp only [KFB.bound, show (Value.type "builtin_function_or_method" != Value.type "method") = true by decide, show (Value.type "builtin_function_or_method" == Value.type "builtin_function_or_method" || Value.type "builtin_function_or_method" == Value.type "method-wrapper") = true by decide, if_true]
  refine wpAny_pure ?_
  exact wpAny_bind (wpAny_mono hcall (fun r s₂ hr => wpAny_bind (wpAny_holding (wpAny_point (wpAny_pure hr)))) fun _ _ x => x)
theorem grown_any {z : Int} {Q : Value → Shared → Prop} (hz : z.natAbs < 2 ^ 64) (h : Q (.int z s.toks) { s with toks := s.toks + 1 }) : wpAny M A (mkIntGrown z) Q E s := by
  unfold mkIntGrown
  have hl : ¬ (z.natAbs.log2 ≥ bitsLine) := by
    have hb : bitsLine = 134217728 := by first | rfl | decide
    by_cases h0 : z.natAbs = 0
    · rw [h0, hb]; decide
    · have := (Nat.log2_lt h0).mpr hz
      omega
  rw [if_neg hl]
  exact wpAny_mkInt h
theorem head_ge (b : Array UInt8) : (b.toList.head?.any fun x => decide (x ≥ 128)) = decide (128 ≤ (KBw.bInts b).headD 0) := by
  obtain ⟨l⟩ := b
  cases l with
  | nil => rfl
  | cons c r =>
    show decide (c ≥ 128) = decide ((128 : Int) ≤ ((c.toNat : Nat) : Int))
    have : (c ≥ 128) ↔ (128 : Int) ≤ ((c.toNat : Nat) : Int) := by
      show (128 : UInt8) ≤ c ↔ _
      rw [UInt8.le_iff_toNat_le]
      show 128 ≤ c.toNat ↔ _
      omega
    simp only [this]
theorem sval_abs {b : Array UInt8} (hl : b.size ≤ 6) : (sval (KBw.bInts b)).natAbs < 2 ^ 64 ∧ (KFB.value (KBw.bInts b)).natAbs < 2 ^ 64 := by
  have h1 := KFB.fold_lt b.toList 0
  have h2 := KFB.fold_cast b.toList 0
  rw [Nat.zero_add, Nat.one_mul, Array.length_toList] at h1
  have h3 : 256 ^ b.size ≤ 256 ^ 6 := Nat.pow_le_pow_right (by decide) hl
  have hv : KFB.value (KBw.bInts b) = ((b.toList.foldl (fun (acc : Nat) (b : UInt8) => acc * 256 + b.toNat) 0 : Nat) : Int) := h2.symm
  have hlen : (KBw.bInts b).length = b.size := KBw.ints_length b
  have h4 : ((256 : Int) ^ (KBw.bInts b).length) = ((256 ^ b.size : Nat) : Int) := by rw [hlen]; push_cast; rfl
  unfold sval
  rw [hv, h4]
  constructor
  · split <;> omega
  · omega
theorem tree_signed {b : Array UInt8} {t u : Tok} {P : PySem.Fin → Shared → Prop} (hl : b.size ≤ 6) (h : P (.done (.ret (.int (sval (KBw.bInts b)) s.toks))) { s with toks := s.toks + 1 }) :
    wpAny M A (Builtin.«int.from_bytes» ⟨[.type "int", .bytes b t, .str (Str.ofString "big") u], [(Str.ofString "signed", .bool true)]⟩) P E s := by
  have hv : ((b.toList.foldl (fun (acc : Nat) (b : UInt8) => acc * 256 + b.toNat) 0 : Nat) : Int) = KFB.value (KBw.bInts b) := KFB.fold_cast b.toList 0
  unfold Builtin.«int.from_bytes»
  refine wpAny_bind (wpAny_of_eq (a := true) KFB.type_int (KFB.if_not rfl ?_))
  refine wpAny_bind (wpAny_of_eq (a := true) F.conv_sub_int (KFB.if_not rfl ?_))
  refine wpAny_bind (wpAny_of_eq (a := [some (.bytes b t), some (.str (Str.ofString "big") u), some (.bool true)]) (by kernel_rfl) ?_)
  refine wpAny_bind (wpAny_of_eq (a := Str.ofString "big") (by kernel_rfl) ?_)
  refine wpAny_bind (wpAny_of_eq (a := true) (by first | rfl | kernel_rfl) ?_)
  refine wpAny_bind (wpAny_of_eq (a := false) (by kernel_rfl) ?_)
  refine wpAny_bind (wpAny_of_eq (a := b) rfl ?_)
  show wpAny _ _ (mkIntGrown (if (true && (b.toList.head?.any fun x => decide (x ≥ 128))) = true then b.toList.foldl (fun (acc : Int) (b : UInt8) => acc * 256 + (b.toNat : Int)) ((0 : Nat) : Int) - 256 ^ b.toList.length else b.toList.foldl (fun (acc : Int) (b : UInt8) => acc * 256 + (b.toNat : Int)) ((0 : Nat) : Int)) >>= fun v => _) _ _ _
  rw [KFB.foldI_eq, hv, head_ge, Bool.true_and]
  have e : (if decide (128 ≤ (KBw.bInts b).headD 0) = true then KFB.value (KBw.bInts b) - 256 ^ b.toList.length else KFB.value (KBw.bInts b)) = sval (KBw.bInts b) := by
    unfold sval
    rw [KBw.ints_length, Array.length_toList]
    simp only [decide_eq_true_eq]
  rw [e]
  refine wpAny_bind (grown_any (sval_abs hl).1 (KFB.if_so (by decide +kernel) ?_))
  exact wpAny_bind (wpAny_pure (wpAny_pure h))
theorem check_signed {b : Array UInt8} {t u : Tok} : checkBoundCall "int.from_bytes" ⟨[.type "int", .bytes b t, .str (Str.ofString "big") u], [(Str.ofString "signed", .bool true)]⟩ = pure () := by first | kernel_rfl | rfl
theorem call_signed {x : Addr} {b : Array UInt8} {t u : Tok} {ks : List Int} {Q : Value → Shared → Prop} (ho : KFB.StandsAt x s.heap) (hb : KBw.bInts b = ks) (hl : ks.length ≤ 6)
    (h : ∀ t' k, Q (.int (sval ks) t') { s with toks := k }) : wpAny (model prog w) A (call (.ref x) [.bytes b t, .str (Str.ofString "big") u] [(Str.ofString "signed", .bool true)]) Q E s := by
  subst hb
  refine wpAny_call (codeAny_of_tree ?_)
  show wpAny _ A.in1 (callAny (.ref x) ⟨[.bytes b t, .str (Str.ofString "big") u], [(Str.ofString "signed", .bool true)]⟩) _ _ s
  simp only [callAny]
  refine wpAny_bind (wpAny_load ho ?_)
  simp only [KFB.bound, show (Value.type "builtin_function_or_method" == Value.type "method" || Value.type "builtin_function_or_method" == Value.type "builtin_function_or_method" || Value.type "builtin_function_or_method" == Value.type "method-wrapper") = true by decide, if_true]
  refine KFB.if_so (by decide) ?_
  refine wpAny_bind (wpAny_of_eq (a := ()) check_signed ?_)
  refine wpAny_bind (wpAny_pure (wpAny_pure ?_))
  exact ⟨KFB.quiet_fb, codeAny_builtin KFB.entry_fb (tree_signed (by rw [← KBw.ints_length]; exact hl) (h _ _))⟩
end
end Mine
end
-- T4
section
open PySem PySem.W PySem.Calls PyProof.Rows
set_option linter.all false
set_option maxRecDepth 100000
namespace Mine
local macro_rules | `(tactic| walk_at "call ref") => `(tactic| with_reducible refine Mine.stop_ref 256 ?_)
local macro_rules | `(tactic| walk_at "callWith ref") => `(tactic| ((with_reducible refine Mine.at_kw ?_); refine Mine.callWith_boundKW (h := ?_)))
set_option maxHeartbeats 8000000
section
variable {w : World} {loose : List Str} {mean : ExcName → Option Value} {mg mb : Str → Option Value} {base : Heap} {env : Env} {outer : List Env} {A : Around} {s : Shared}
theorem number_tells0 (C : CanB w loose mean mg mb base env outer A s.heap) (hr : A.depth + 40 < recursionLimit) (hh : A.handled = none) {b : Array UInt8} {t : Tok} {ks : List Int} (hk : KBw.bInts b = ks) (hks : ks.length = 8)
   (hval : ∀ k ∈ ks.map id, k ≠ 61 ∧ b64v k < 64) :
   wpAny (model pr w) A (call (.ref 301) [.bytes b t, Value.none]) (Out s (RInt (sval (decF (ks.map id))))) NoE s := by
  have hl6 : (decF (ks.map id)).length = 6 := a2b_six (by rw [List.length_map, hks]) fun k hk => (hval k hk).2
  have hq : ((ks.map id).foldl a2bG ([], 0, 0, 0)).2.1 = 0 := by
    rw [a2b_quad _ _ (fun k hk => (hval k hk).2) (by decide) (by decide), List.length_map, hks]; decide
  rw [List.map_id] at hval ⊢
  rw [List.map_id] at hl6 hq
  obtain ⟨hd0, dp, fr, gd, un⟩ := A
  obtain rfl : hd0 = none := hh
  have hr0 : dp < recursionLimit := by simp only at hr; (first | lia | omega)
  k_call_by "m_enter" C [(Str.ofString "writing", Value.bytes b t), (Str.ofString "two", Value.none)]
  obtain rfl : fr = some (env :: outer) := by assumption
  k_fold
  k_steps
  rename Fr _ _ _ _ => F1
  rename News _ _ _ _ => N1
  refine Stop.go (use_bytes F1 N1 (b64decode_tells01 (by exact Mine.can_of) (by k_call_by "m_room" x x) (.inl rfl) hk (by (first | lia | omega)) (fun k hk => ⟨(hval k hk).1, fun _ => (hval k hk).2⟩) hq) ?_)
  intro b2 t2 h2 tk2 hb2 F2 N2
  clear F1 N1
  k_steps
  refine call_signed (KFB.at_of (by assumption) (by k_mem)) hb2 (Nat.le_of_eq hl6) fun t' k => ?_
  exact out_int (by assumption)
theorem number_tells1 (C : CanB w loose mean mg mb base env outer A s.heap) (hr : A.depth + 40 < recursionLimit) (hh : A.handled = none) {b : Array UInt8} {t : Tok} {ks : List Int} (hk : KBw.bInts b = ks) (hks : ks.length = 8) {x y : UInt8} {u : Tok}
   (hval : ∀ k ∈ ks.map (trI x.toNat y.toNat 43 47), k ≠ 61 ∧ b64v k < 64) :
   wpAny (model pr w) A (call (.ref 301) [.bytes b t, Value.bytes #[x, y] u]) (Out s (RInt (sval (decF (ks.map (trI x.toNat y.toNat 43 47)))))) NoE s := by
  have hl6 : (decF (ks.map (trI x.toNat y.toNat 43 47))).length = 6 := a2b_six (by rw [List.length_map, hks]) fun k hk => (hval k hk).2
  have hq : ((ks.map (trI x.toNat y.toNat 43 47)).foldl a2bG ([], 0, 0, 0)).2.1 = 0 := by
    rw [a2b_quad _ _ (fun k hk => (hval k hk).2) (by decide) (by decide), List.length_map, hks]; decide
  skip
  obtain ⟨hd0, dp, fr, gd, un⟩ := A
  obtain rfl : hd0 = none := hh
  have hr0 : dp < recursionLimit := by simp only at hr; (first | lia | omega)
  k_call_by "m_enter" C [(Str.ofString "writing", Value.bytes b t), (Str.ofString "two", Value.bytes #[x, y] u)]
  obtain rfl : fr = some (env :: outer) := by assumption
  k_fold
  k_steps
  rename Fr _ _ _ _ => F1
  rename News _ _ _ _ => N1
  refine Stop.go (use_bytes F1 N1 (b64decode_tells11 (by exact Mine.can_of) (by k_call_by "m_room" x x) (.inl rfl) hk (by (first | lia | omega)) (fun k hk => ⟨(hval k hk).1, fun _ => (hval k hk).2⟩) hq) ?_)
  intro b2 t2 h2 tk2 hb2 F2 N2
  clear F1 N1
  k_steps
  refine call_signed (KFB.at_of (by assumption) (by k_mem)) hb2 (Nat.le_of_eq hl6) fun t' k => ?_
  exact out_int (by assumption)
end
end Mine
end
-- LOrd
section
open PySem PySem.W PySem.Calls PyProof.Rows PyProof.V PySem.Spec
open PySem.SeqAt MeetsSeq MeetsSeq2 MeetsSeq3
open AutoSeq1 (wpAny_loadPart')
set_option linter.all false
set_option maxRecDepth 100000
namespace Mine
/-- two lists of ints by order: the first places that differ tell -/
noncomputable def lexB (f : Int → Int → Bool) (d : Bool) : List Int → List Int → Bool
  | x :: xs, y :: ys => if x = y then lexB f d xs ys else f x y
  | _, _ => d
theorem drop_at {ns : List Int} {i : Nat} {a : Int} (h : ns[i]? = some a) : ns.drop i = a :: ns.drop (i + 1) := by
  obtain ⟨hlt, rfl⟩ := List.getElem?_eq_some_iff.mp h
  exact List.drop_eq_getElem_cons hlt
theorem lt_loop (l b : Addr) (xs ys : List Value) (ns ms : List Int) (n n2 : Nat) (dd dd2 : Option Addr) (sl sl2 : Array (Option Value)) (hi1 : IntsAre xs ns) (hi2 : IntsAre ys ms) (hsz : ns.length = ms.length) (k : Nat) :
    ∀ i : Nat, ns.length - i = k → Meets (Builtin.«list.__eq__.loop» ⟨[.ref l, .ref b, rawInt i, rawInt 0], []⟩)
      (fun A R s => s.heap.get? l = some { cls := .type "list", dict := dd, data := .seq xs.toArray n, slots := sl } ∧ s.heap.get? b = some { cls := .type "list", dict := dd2, data := .seq ys.toArray n2, slots := sl2 } ∧
        R (.ok (.ret (.bool (lexB (fun a b => decide (a < b)) false (ns.drop i) (ms.drop i))))) s) := by
  induction k with
  | zero =>
    intro i hk prog w A R s h
    obtain ⟨hp, g, d, tk, os⟩ := s; obtain ⟨hl, hb, h⟩ := h
    have l1 := hi1.length
    have l2 := hi2.length
    wp_walk using wpAny_loadPart' hl, wpAny_loadPart' hb
    have hi1 : xs.toArray[((i : Nat) : Int).toNat]? = none := by simp; omega
    have hi2 : ys.toArray[((i : Nat) : Int).toNat]? = none := by simp; omega
    have hd : ns.drop i = [] := by simp; omega
    rw [hd] at h
    rw [hi1, hi2]
    wp_walk using wpAny_loadPart' hl, wpAny_loadPart' hb
    show R (.ok (.ret (.bool (decide (xs.toArray.size < ys.toArray.size))))) _
    rw [show decide (xs.toArray.size < ys.toArray.size) = false by simp [l1, l2, hsz]]
    exact h
  | succ k ih =>
    intro i hk prog w A R s h
    obtain ⟨hp, g, d, tk, os⟩ := s; obtain ⟨hl, hb, h⟩ := h
    wp_walk using wpAny_loadPart' hl, wpAny_loadPart' hb
    have hlt : i < ns.length := by omega
    have hlt2 : i < ms.length := by omega
    obtain ⟨t, hx⟩ := hi1.get i ns[i] (List.getElem?_eq_getElem hlt)
    obtain ⟨u, hy⟩ := hi2.get i ms[i] (List.getElem?_eq_getElem hlt2)
    have hx' : xs.toArray[((i : Nat) : Int).toNat]? = some (.int ns[i] t) := by simpa using hx
    have hy' : ys.toArray[((i : Nat) : Int).toNat]? = some (.int ms[i] u) := by simpa using hy
    have hc : ((i : Int) + 1) = ((i + 1 : Nat) : Int) := by push_cast; rfl
    rw [drop_at (List.getElem?_eq_getElem hlt), drop_at (List.getElem?_eq_getElem hlt2)] at h
    rw [hx', hy']
    refine wpAny_bind (EqAt.int_int ns[i] t ms[i] u prog w _ _ ?_)
    by_cases hb' : ns[i] = ms[i]
    · rw [show (ns[i] == ms[i]) = true by simp [hb']]
      wp_walk
      rw [hc]
      exact ⟨plainId_quiet plain_eq_loop _, codeAny_builtin entry_eq_loop (by
        rw [Around.under_plainId plain_eq_loop _]
        refine ih (i + 1) (by omega) prog w A R _ ⟨hl, hb, ?_⟩
        simp only [lexB, hb', if_true] at h
        exact h)⟩
    · rw [show (ns[i] == ms[i]) = false by simp [hb']]
      wp_walk using wpAny_loadPart' hl, wpAny_loadPart' hb
      rw [hx', hy']
      simp only [lexB, hb', if_false] at h
      refine wpAny_bind ?_
      show wpAny _ _ (compareOp .Lt (.int ns[i] t) (.int ms[i] u)) _ _ _
      refine PyProof.Rows.lt_int ?_
      wp_walk
      exact h
theorem list_lt {prog : Program} {w : World} {A : Around} {E : Value → Shared → Prop} {s : Shared} {l b : Addr} {xs ys : List Value} {ns ms : List Int} {Q : Value → Shared → Prop} (hl : s.heap.IsList l xs.toArray) (hb : s.heap.IsList b ys.toArray) (hi1 : IntsAre xs ns) (hi2 : IntsAre ys ms) (hsz : ns.length = ms.length) (hu : A.units < cLine)
    (h : Q (.bool (lexB (fun a b => decide (a < b)) false ns ms)) s) : wpAny (model prog w) A (compareOp .Lt (.ref l) (.ref b)) Q E s := by
  obtain ⟨⟨cls, dd, data, sl⟩, ho, hc, n, hd⟩ := id hl
  obtain ⟨⟨cls2, dd2, data2, sl2⟩, ho2, hc2, n2, hd2⟩ := id hb
  simp only at hc hd hc2 hd2
  subst hc hd hc2 hd2
  have m : Meets (Builtin.«list.__lt__» ⟨[.ref l, .ref b], []⟩) (fun A R s => s.heap.get? l = some { cls := .type "list", dict := dd, data := .seq xs.toArray n, slots := sl } ∧ s.heap.get? b = some { cls := .type "list", dict := dd2, data := .seq ys.toArray n2, slots := sl2 } ∧
      R (.ok (.ret (.bool (lexB (fun a b => decide (a < b)) false ns ms)))) s) := by
    intro prog w A R s h
    obtain ⟨hp, g, d, tk, os⟩ := s; obtain ⟨hl, hb, h⟩ := h
    have f3 := AutoSeq1.sub_list_list
    wp_walk using wpAny_loadPart' hl, wpAny_loadPart' hb
    exact ⟨plainId_quiet plain_eq_loop _, codeAny_builtin entry_eq_loop (by
      rw [Around.under_plainId plain_eq_loop _]
      exact lt_loop l b xs ys ns ms n n2 dd dd2 sl sl2 hi1 hi2 hsz _ 0 rfl prog w A R _ ⟨hl, hb, by simpa using h⟩)⟩
  exact richCompare_meets_room (op := .Lt) ⟨_, ho, rfl⟩ ⟨_, ho2, rfl⟩ F.slot_list_lt F.entry_list_lt (F.args_list_lt_2 _ _) m
    ⟨ho, ho2, show Value.bool _ ≠ Value.notImplemented ∧ Q _ s from ⟨(fun x => nomatch x), h⟩⟩ hu
theorem le_loop (l b : Addr) (xs ys : List Value) (ns ms : List Int) (n n2 : Nat) (dd dd2 : Option Addr) (sl sl2 : Array (Option Value)) (hi1 : IntsAre xs ns) (hi2 : IntsAre ys ms) (hsz : ns.length = ms.length) (k : Nat) :
    ∀ i : Nat, ns.length - i = k → Meets (Builtin.«list.__eq__.loop» ⟨[.ref l, .ref b, rawInt i, rawInt 1], []⟩)
      (fun A R s => s.heap.get? l = some { cls := .type "list", dict := dd, data := .seq xs.toArray n, slots := sl } ∧ s.heap.get? b = some { cls := .type "list", dict := dd2, data := .seq ys.toArray n2, slots := sl2 } ∧
        R (.ok (.ret (.bool (lexB (fun a b => decide (a ≤ b)) true (ns.drop i) (ms.drop i))))) s) := by
  induction k with
  | zero =>
    intro i hk prog w A R s h
    obtain ⟨hp, g, d, tk, os⟩ := s; obtain ⟨hl, hb, h⟩ := h
    have l1 := hi1.length
    have l2 := hi2.length
    wp_walk using wpAny_loadPart' hl, wpAny_loadPart' hb
    have hi1 : xs.toArray[((i : Nat) : Int).toNat]? = none := by simp; omega
    have hi2 : ys.toArray[((i : Nat) : Int).toNat]? = none := by simp; omega
    have hd : ns.drop i = [] := by simp; omega
    rw [hd] at h
    rw [hi1, hi2]
    wp_walk using wpAny_loadPart' hl, wpAny_loadPart' hb
    show R (.ok (.ret (.bool (decide (xs.toArray.size ≤ ys.toArray.size))))) _
    rw [show decide (xs.toArray.size ≤ ys.toArray.size) = true by simp [l1, l2, hsz]]
    exact h
  | succ k ih =>
    intro i hk prog w A R s h
    obtain ⟨hp, g, d, tk, os⟩ := s; obtain ⟨hl, hb, h⟩ := h
    wp_walk using wpAny_loadPart' hl, wpAny_loadPart' hb
    have hlt : i < ns.length := by omega
    have hlt2 : i < ms.length := by omega
    obtain ⟨t, hx⟩ := hi1.get i ns[i] (List.getElem?_eq_getElem hlt)
    obtain ⟨u, hy⟩ := hi2.get i ms[i] (List.getElem?_eq_getElem hlt2)
    have hx' : xs.toArray[((i : Nat) : Int).toNat]? = some (.int ns[i] t) := by simpa using hx
    have hy' : ys.toArray[((i : Nat) : Int).toNat]? = some (.int ms[i] u) := by simpa using hy
    have hc : ((i : Int) + 1) = ((i + 1 : Nat) : Int) := by push_cast; rfl
    rw [drop_at (List.getElem?_eq_getElem hlt), drop_at (List.getElem?_eq_getElem hlt2)] at h
    rw [hx', hy']
    refine wpAny_bind (EqAt.int_int ns[i] t ms[i] u prog w _ _ ?_)
    by_cases hb' : ns[i] = ms[i]
    · rw [show (ns[i] == ms[i]) = true by simp [hb']]
      wp_walk
      rw [hc]
      exact ⟨plainId_quiet plain_eq_loop _, codeAny_builtin entry_eq_loop (by
        rw [Around.under_plainId plain_eq_loop _]
        refine ih (i + 1) (by omega) prog w A R _ ⟨hl, hb, ?_⟩
        simp only [lexB, hb', if_true] at h
        exact h)⟩
    · rw [show (ns[i] == ms[i]) = false by simp [hb']]
      wp_walk using wpAny_loadPart' hl, wpAny_loadPart' hb
      rw [hx', hy']
      simp only [lexB, hb', if_false] at h
      refine wpAny_bind ?_
      show wpAny _ _ (compareOp .LtE (.int ns[i] t) (.int ms[i] u)) _ _ _
      refine PyProof.Rows.le_int ?_
      wp_walk
      exact h
theorem list_le {prog : Program} {w : World} {A : Around} {E : Value → Shared → Prop} {s : Shared} {l b : Addr} {xs ys : List Value} {ns ms : List Int} {Q : Value → Shared → Prop} (hl : s.heap.IsList l xs.toArray) (hb : s.heap.IsList b ys.toArray) (hi1 : IntsAre xs ns) (hi2 : IntsAre ys ms) (hsz : ns.length = ms.length) (hu : A.units < cLine)
    (h : Q (.bool (lexB (fun a b => decide (a ≤ b)) true ns ms)) s) : wpAny (model prog w) A (compareOp .LtE (.ref l) (.ref b)) Q E s := by
  obtain ⟨⟨cls, dd, data, sl⟩, ho, hc, n, hd⟩ := id hl
  obtain ⟨⟨cls2, dd2, data2, sl2⟩, ho2, hc2, n2, hd2⟩ := id hb
  simp only at hc hd hc2 hd2
  subst hc hd hc2 hd2
  have m : Meets (Builtin.«list.__le__» ⟨[.ref l, .ref b], []⟩) (fun A R s => s.heap.get? l = some { cls := .type "list", dict := dd, data := .seq xs.toArray n, slots := sl } ∧ s.heap.get? b = some { cls := .type "list", dict := dd2, data := .seq ys.toArray n2, slots := sl2 } ∧
      R (.ok (.ret (.bool (lexB (fun a b => decide (a ≤ b)) true ns ms)))) s) := by
    intro prog w A R s h
    obtain ⟨hp, g, d, tk, os⟩ := s; obtain ⟨hl, hb, h⟩ := h
    have f3 := AutoSeq1.sub_list_list
    wp_walk using wpAny_loadPart' hl, wpAny_loadPart' hb
    exact ⟨plainId_quiet plain_eq_loop _, codeAny_builtin entry_eq_loop (by
      rw [Around.under_plainId plain_eq_loop _]
      exact le_loop l b xs ys ns ms n n2 dd dd2 sl sl2 hi1 hi2 hsz _ 0 rfl prog w A R _ ⟨hl, hb, by simpa using h⟩)⟩
  exact richCompare_meets_room (op := .LtE) ⟨_, ho, rfl⟩ ⟨_, ho2, rfl⟩ F.slot_list_le F.entry_list_le (F.args_list_le_2 _ _) m
    ⟨ho, ho2, show Value.bool _ ≠ Value.notImplemented ∧ Q _ s from ⟨(fun x => nomatch x), h⟩⟩ hu
theorem gt_loop (l b : Addr) (xs ys : List Value) (ns ms : List Int) (n n2 : Nat) (dd dd2 : Option Addr) (sl sl2 : Array (Option Value)) (hi1 : IntsAre xs ns) (hi2 : IntsAre ys ms) (hsz : ns.length = ms.length) (k : Nat) :
    ∀ i : Nat, ns.length - i = k → Meets (Builtin.«list.__eq__.loop» ⟨[.ref l, .ref b, rawInt i, rawInt 4], []⟩)
      (fun A R s => s.heap.get? l = some { cls := .type "list", dict := dd, data := .seq xs.toArray n, slots := sl } ∧ s.heap.get? b = some { cls := .type "list", dict := dd2, data := .seq ys.toArray n2, slots := sl2 } ∧
        R (.ok (.ret (.bool (lexB (fun a b => decide (a > b)) false (ns.drop i) (ms.drop i))))) s) := by
  induction k with
  | zero =>
    intro i hk prog w A R s h
    obtain ⟨hp, g, d, tk, os⟩ := s; obtain ⟨hl, hb, h⟩ := h
    have l1 := hi1.length
    have l2 := hi2.length
    wp_walk using wpAny_loadPart' hl, wpAny_loadPart' hb
    have hi1 : xs.toArray[((i : Nat) : Int).toNat]? = none := by simp; omega
    have hi2 : ys.toArray[((i : Nat) : Int).toNat]? = none := by simp; omega
    have hd : ns.drop i = [] := by simp; omega
    rw [hd] at h
    rw [hi1, hi2]
    wp_walk using wpAny_loadPart' hl, wpAny_loadPart' hb
    show R (.ok (.ret (.bool (decide (xs.toArray.size > ys.toArray.size))))) _
    rw [show decide (xs.toArray.size > ys.toArray.size) = false by simp [l1, l2, hsz]]
    exact h
  | succ k ih =>
    intro i hk prog w A R s h
    obtain ⟨hp, g, d, tk, os⟩ := s; obtain ⟨hl, hb, h⟩ := h
    wp_walk using wpAny_loadPart' hl, wpAny_loadPart' hb
    have hlt : i < ns.length := by omega
    have hlt2 : i < ms.length := by omega
    obtain ⟨t, hx⟩ := hi1.get i ns[i] (List.getElem?_eq_getElem hlt)
    obtain ⟨u, hy⟩ := hi2.get i ms[i] (List.getElem?_eq_getElem hlt2)
    have hx' : xs.toArray[((i : Nat) : Int).toNat]? = some (.int ns[i] t) := by simpa using hx
    have hy' : ys.toArray[((i : Nat) : Int).toNat]? = some (.int ms[i] u) := by simpa using hy
    have hc : ((i : Int) + 1) = ((i + 1 : Nat) : Int) := by push_cast; rfl
    rw [drop_at (List.getElem?_eq_getElem hlt), drop_at (List.getElem?_eq_getElem hlt2)] at h
    rw [hx', hy']
    refine wpAny_bind (EqAt.int_int ns[i] t ms[i] u prog w _ _ ?_)
    by_cases hb' : ns[i] = ms[i]
    · rw [show (ns[i] == ms[i]) = true by simp [hb']]
      wp_walk
      rw [hc]
      exact ⟨plainId_quiet plain_eq_loop _, codeAny_builtin entry_eq_loop (by
        rw [Around.under_plainId plain_eq_loop _]
        refine ih (i + 1) (by omega) prog w A R _ ⟨hl, hb, ?_⟩
        simp only [lexB, hb', if_true] at h
        exact h)⟩
    · rw [show (ns[i] == ms[i]) = false by simp [hb']]
      wp_walk using wpAny_loadPart' hl, wpAny_loadPart' hb
      rw [hx', hy']
      simp only [lexB, hb', if_false] at h
      refine wpAny_bind ?_
      show wpAny _ _ (compareOp .Gt (.int ns[i] t) (.int ms[i] u)) _ _ _
      refine PyProof.Rows.gt_int ?_
      wp_walk
      exact h
theorem list_gt {prog : Program} {w : World} {A : Around} {E : Value → Shared → Prop} {s : Shared} {l b : Addr} {xs ys : List Value} {ns ms : List Int} {Q : Value → Shared → Prop} (hl : s.heap.IsList l xs.toArray) (hb : s.heap.IsList b ys.toArray) (hi1 : IntsAre xs ns) (hi2 : IntsAre ys ms) (hsz : ns.length = ms.length) (hu : A.units < cLine)
    (h : Q (.bool (lexB (fun a b => decide (a > b)) false ns ms)) s) : wpAny (model prog w) A (compareOp .Gt (.ref l) (.ref b)) Q E s := by
  obtain ⟨⟨cls, dd, data, sl⟩, ho, hc, n, hd⟩ := id hl
  obtain ⟨⟨cls2, dd2, data2, sl2⟩, ho2, hc2, n2, hd2⟩ := id hb
  simp only at hc hd hc2 hd2
  subst hc hd hc2 hd2
  have m : Meets (Builtin.«list.__gt__» ⟨[.ref l, .ref b], []⟩) (fun A R s => s.heap.get? l = some { cls := .type "list", dict := dd, data := .seq xs.toArray n, slots := sl } ∧ s.heap.get? b = some { cls := .type "list", dict := dd2, data := .seq ys.toArray n2, slots := sl2 } ∧
      R (.ok (.ret (.bool (lexB (fun a b => decide (a > b)) false ns ms)))) s) := by
    intro prog w A R s h
    obtain ⟨hp, g, d, tk, os⟩ := s; obtain ⟨hl, hb, h⟩ := h
    have f3 := AutoSeq1.sub_list_list
    wp_walk using wpAny_loadPart' hl, wpAny_loadPart' hb
    exact ⟨plainId_quiet plain_eq_loop _, codeAny_builtin entry_eq_loop (by
      rw [Around.under_plainId plain_eq_loop _]
      exact gt_loop l b xs ys ns ms n n2 dd dd2 sl sl2 hi1 hi2 hsz _ 0 rfl prog w A R _ ⟨hl, hb, by simpa using h⟩)⟩
  exact richCompare_meets_room (op := .Gt) ⟨_, ho, rfl⟩ ⟨_, ho2, rfl⟩ F.slot_list_gt F.entry_list_gt (F.args_list_gt_2 _ _) m
    ⟨ho, ho2, show Value.bool _ ≠ Value.notImplemented ∧ Q _ s from ⟨(fun x => nomatch x), h⟩⟩ hu
theorem ge_loop (l b : Addr) (xs ys : List Value) (ns ms : List Int) (n n2 : Nat) (dd dd2 : Option Addr) (sl sl2 : Array (Option Value)) (hi1 : IntsAre xs ns) (hi2 : IntsAre ys ms) (hsz : ns.length = ms.length) (k : Nat) :
    ∀ i : Nat, ns.length - i = k → Meets (Builtin.«list.__eq__.loop» ⟨[.ref l, .ref b, rawInt i, rawInt 5], []⟩)
      (fun A R s => s.heap.get? l = some { cls := .type "list", dict := dd, data := .seq xs.toArray n, slots := sl } ∧ s.heap.get? b = some { cls := .type "list", dict := dd2, data := .seq ys.toArray n2, slots := sl2 } ∧
        R (.ok (.ret (.bool (lexB (fun a b => decide (a ≥ b)) true (ns.drop i) (ms.drop i))))) s) := by
  induction k with
  | zero =>
    intro i hk prog w A R s h
    obtain ⟨hp, g, d, tk, os⟩ := s; obtain ⟨hl, hb, h⟩ := h
    have l1 := hi1.length
    have l2 := hi2.length
    wp_walk using wpAny_loadPart' hl, wpAny_loadPart' hb
    have hi1 : xs.toArray[((i : Nat) : Int).toNat]? = none := by simp; omega
    have hi2 : ys.toArray[((i : Nat) : Int).toNat]? = none := by simp; omega
    have hd : ns.drop i = [] := by simp; omega
    rw [hd] at h
    rw [hi1, hi2]
    wp_walk using wpAny_loadPart' hl, wpAny_loadPart' hb
    show R (.ok (.ret (.bool (decide (xs.toArray.size ≥ ys.toArray.size))))) _
    rw [show decide (xs.toArray.size ≥ ys.toArray.size) = true by simp [l1, l2, hsz]]
    exact h
  | succ k ih =>
    intro i hk prog w A R s h
    obtain ⟨hp, g, d, tk, os⟩ := s; obtain ⟨hl, hb, h⟩ := h
    wp_walk using wpAny_loadPart' hl, wpAny_loadPart' hb
    have hlt : i < ns.length := by omega
    have hlt2 : i < ms.length := by omega
    obtain ⟨t, hx⟩ := hi1.get i ns[i] (List.getElem?_eq_getElem hlt)
    obtain ⟨u, hy⟩ := hi2.get i ms[i] (List.getElem?_eq_getElem hlt2)
    have hx' : xs.toArray[((i : Nat) : Int).toNat]? = some (.int ns[i] t) := by simpa using hx
    have hy' : ys.toArray[((i : Nat) : Int).toNat]? = some (.int ms[i] u) := by simpa using hy
    have hc : ((i : Int) + 1) = ((i + 1 : Nat) : Int) := by push_cast; rfl
    rw [drop_at (List.getElem?_eq_getElem hlt), drop_at (List.getElem?_eq_getElem hlt2)] at h
    rw [hx', hy']
    refine wpAny_bind (EqAt.int_int ns[i] t ms[i] u prog w _ _ ?_)
    by_cases hb' : ns[i] = ms[i]
    · rw [show (ns[i] == ms[i]) = true by simp [hb']]
      wp_walk
      rw [hc]
      exact ⟨plainId_quiet plain_eq_loop _, codeAny_builtin entry_eq_loop (by
        rw [Around.under_plainId plain_eq_loop _]
        refine ih (i + 1) (by omega) prog w A R _ ⟨hl, hb, ?_⟩
        simp only [lexB, hb', if_true] at h
        exact h)⟩
    · rw [show (ns[i] == ms[i]) = false by simp [hb']]
      wp_walk using wpAny_loadPart' hl, wpAny_loadPart' hb
      rw [hx', hy']
      simp only [lexB, hb', if_false] at h
      refine wpAny_bind ?_
      show wpAny _ _ (compareOp .GtE (.int ns[i] t) (.int ms[i] u)) _ _ _
      refine PyProof.Rows.ge_int ?_
      wp_walk
      exact h
theorem list_ge {prog : Program} {w : World} {A : Around} {E : Value → Shared → Prop} {s : Shared} {l b : Addr} {xs ys : List Value} {ns ms : List Int} {Q : Value → Shared → Prop} (hl : s.heap.IsList l xs.toArray) (hb : s.heap.IsList b ys.toArray) (hi1 : IntsAre xs ns) (hi2 : IntsAre ys ms) (hsz : ns.length = ms.length) (hu : A.units < cLine)
    (h : Q (.bool (lexB (fun a b => decide (a ≥ b)) true ns ms)) s) : wpAny (model prog w) A (compareOp .GtE (.ref l) (.ref b)) Q E s := by
  obtain ⟨⟨cls, dd, data, sl⟩, ho, hc, n, hd⟩ := id hl
  obtain ⟨⟨cls2, dd2, data2, sl2⟩, ho2, hc2, n2, hd2⟩ := id hb
  simp only at hc hd hc2 hd2
  subst hc hd hc2 hd2
  have m : Meets (Builtin.«list.__ge__» ⟨[.ref l, .ref b], []⟩) (fun A R s => s.heap.get? l = some { cls := .type "list", dict := dd, data := .seq xs.toArray n, slots := sl } ∧ s.heap.get? b = some { cls := .type "list", dict := dd2, data := .seq ys.toArray n2, slots := sl2 } ∧
      R (.ok (.ret (.bool (lexB (fun a b => decide (a ≥ b)) true ns ms)))) s) := by
    intro prog w A R s h
    obtain ⟨hp, g, d, tk, os⟩ := s; obtain ⟨hl, hb, h⟩ := h
    have f3 := AutoSeq1.sub_list_list
    wp_walk using wpAny_loadPart' hl, wpAny_loadPart' hb
    exact ⟨plainId_quiet plain_eq_loop _, codeAny_builtin entry_eq_loop (by
      rw [Around.under_plainId plain_eq_loop _]
      exact ge_loop l b xs ys ns ms n n2 dd dd2 sl sl2 hi1 hi2 hsz _ 0 rfl prog w A R _ ⟨hl, hb, by simpa using h⟩)⟩
  exact richCompare_meets_room (op := .GtE) ⟨_, ho, rfl⟩ ⟨_, ho2, rfl⟩ F.slot_list_ge F.entry_list_ge (F.args_list_ge_2 _ _) m
    ⟨ho, ho2, show Value.bool _ ≠ Value.notImplemented ∧ Q _ s from ⟨(fun x => nomatch x), h⟩⟩ hu
end Mine
end
-- CompB
section
open PySem PySem.W PySem.Calls PyProof.Rows PyProof.V PySem.Spec
open PySem.SeqAt
set_option linter.all false
set_option maxRecDepth 100000
namespace Mine
noncomputable def kindB : ItemKind Bool := ⟨fun a v => v = .bool a, fun v => match v with | .bool a => some a | _ => none, fun _ _ h => by subst h; rfl⟩
noncomputable def repB (b : Bool) : Str := if b then Str.ofString "True" else Str.ofString "False"
theorem repB_inj : ∀ a b : Bool, repB a = repB b ↔ a = b := by decide
theorem are_bool : ∀ bs : List Bool, AreOf kindB (bs.map Value.bool) bs
  | [] => .nil
  | b :: r => .cons rfl (are_bool r)
section
variable {prog : Program} {w : World} {A : Around} {E : Value → Shared → Prop} {s : Shared} {h₀ : Heap} {L : Addr} {m : Str → Option Value} {env : Env}
noncomputable def BoolRest (prog : Program) (w : World) (A : Around) (E : Value → Shared → Prop) (h₀ : Heap) (L : Addr) (m : Str → Option Value) (env : Env) (elt : Expr) (x : Str) (scope : Scope) (cl : List (Str × Addr)) (bs : List Bool) (Q : Value → Shared → Prop) (xv : Value) (s₁ : Shared) : Prop :=
  ∃ news : List (Addr × Obj), ∃ ax, xv = .ref ax ∧ s₁.heap.IsList ax (List.toArray (bs.map Value.bool)) ∧ Fr h₀ L s₁.heap m ∧ News h₀ L s₁.heap news ∧
    (∀ C b s₂ m₂ E', s₁.heap.objs.size ≤ C → s₂.heap.Ns C m₂ → m₂ x = some (.bool b) → (∀ b o, s₁.heap.get? b = some o → s₂.heap.get? b = some o) →
      wpAny (model prog w) A (eval elt (compEnvC scope cl C env)) (fun y s₃ => (∃ u, y = .str (repB b) u) ∧ Keeps s₂ s₃) E' s₂) ∧
    (∀ D (ys : List Value) z h' tk, Fr h₀ L h' m → News h₀ L h' ((D, PySem.W.listOf (List.toArray ys) z) :: news) → AllNe D news → CarriedAll ys (bs.map fun b => PyData.str (repB b)) → Q (.ref D) { s₁ with heap := h', toks := tk })
theorem comp_boolF {elt iter : Expr} {x : Str} {px : Pos} {scope : Scope} {cl : List (Str × Addr)} {pos : Pos} {Q : Value → Shared → Prop} (F₀ : Fr h₀ L s.heap m) (bs : List Bool) (hz : bs.length ≤ sizeLine)
    (hh : A.handled = none) (hclos : closureFor scope env = pure cl) (hcell : ∀ y ∈ scope.names, y.2 ≠ .cell) (hkind : scope.kind = .function)
    (hnames : ∀ y ∈ scope.names, y.2 = .local → scope.names.lookup y.1 = some .local) (hx : scope.names.lookup x = some .local)
    (h : wpAny (model prog w) A (eval iter env) (fun xv s₁ => BoolRest prog w A E h₀ L m env elt x scope cl bs Q xv s₁) E s)
    (hs : ∀ x, foldedSetIterable iter env x = pure x := by intro _; rfl) :
    wpAny (model prog w) A (eval (.ListComp elt [⟨.Name x px, iter, [], 0⟩] scope pos) env) Q E s := by
  refine ListComp_DCn (K := kindB) (h₀ := h₀) (L := L) (m := m) (pz := fun _ => true) (d := fun b => PyData.str (repB b)) hh hclos hcell hkind hnames hx (wpAny_mono h (fun xv s₁ h₁ => ?_) fun _ _ e => e) hs
  obtain ⟨news, ax, e1, e2, e6, e7, he, hq⟩ := h₁
  refine ⟨news, ax, _, bs, e1, e2, are_bool bs, hz, e6, e7, ?_, ?_, ?_⟩
  · rintro C a v s₂ m₂ E' h1 h2 h3 h4 h5 h6
    exact wpAny_pure ⟨rfl, _, _, rfl, fun _ _ e => e⟩
  · rintro C a v s₂ m₂ E' h1 h2 h3 h4 h5 h6 h7
    have h3' : v = .bool a := h3
    subst h3'
    refine wpAny_mono (he C a s₂ m₂ E' h1 h5 h6 h7) (fun y s₃ hy => ?_) fun _ _ e => e
    obtain ⟨⟨u, rfl⟩, hk⟩ := hy
    exact ⟨.str _ _, hk⟩
  · intro D ys h' tk F N' hD hl hp hc
    obtain ⟨⟨z, hz'⟩, hne⟩ := hp
    rw [show (bs.filter fun _ => true) = bs from List.filter_eq_self.mpr fun _ _ => rfl] at hc
    refine hq D ys z h' tk F (fun p hp => ?_) (allNe_of hne) hc
    rcases List.mem_cons.mp hp with rfl | hp
    · refine ⟨hz', fun e => ?_, hD⟩
      obtain ⟨oL, es, ep, hL, hd, _⟩ := F.ns
      have e' : D = L := e
      rw [e', hL] at hz'
      have hoL := Option.some.inj hz'
      rw [hoL] at hd
      cases hd
    · exact N' p hp
theorem canLay_B : ∀ bs : List Bool, PyData.canLayAll0 (bs.map fun b => PyData.str (repB b)) = true
  | [] => by simp [PyData.canLayAll0]
  | n :: r => by
    have h : PyData.strOk (repB n) = true := by cases n <;> decide +kernel
    simp [PyData.canLayAll0, PyData.canLay0, canLay_B r, h]
theorem depth_B : ∀ bs : List Bool, PyData.depthAll (bs.map fun b => PyData.str (repB b)) ≤ 1
  | [] => by simp [PyData.depthAll]
  | n :: r => by
    have := depth_B r
    simp only [List.map_cons, PyData.depthAll, PyData.depth]
    omega
theorem shaped_B (bs : List Bool) : shaped (.list (bs.map fun b => PyData.str (repB b))) = true := by
  have h1 := depth_B bs
  have h2 : PyData.depth (.list (bs.map fun b => PyData.str (repB b))) ≤ 64 := by simp only [PyData.depth]; omega
  show (PyData.canLay0 _ && decide (PyData.depth _ ≤ 64)) = true
  rw [Bool.and_eq_true]
  exact ⟨by simp only [PyData.canLay0]; exact canLay_B bs, decide_eq_true h2⟩
theorem noMix_B : ∀ bs cs : List Bool, noMixAll (bs.map fun b => PyData.str (repB b)) (cs.map fun b => PyData.str (repB b)) = true
  | [], [] => by simp [noMixAll]
  | [], _ :: _ => by simp [noMixAll]
  | _ :: _, [] => by simp [noMixAll]
  | _ :: r, _ :: q => by simp [noMixAll, noMix, noMix_B r q]
theorem same_B : ∀ bs cs : List Bool, PySem.Spec.sameAll (bs.map fun b => PyData.str (repB b)) (cs.map fun b => PyData.str (repB b)) = decide (bs = cs)
  | [], [] => by simp [PySem.Spec.sameAll]
  | [], _ :: _ => by simp [PySem.Spec.sameAll]
  | _ :: _, [] => by simp [PySem.Spec.sameAll]
  | n :: r, k :: q => by
    simp only [List.map_cons, PySem.Spec.sameAll, PySem.Spec.same, same_B r q]
    have := repB_inj n k
    by_cases e : n = k <;> simp [e]
    · intro h; exact absurd (this.mp h) e
theorem eq_boolF {a b : Addr} {xs ys : List Value} {bs cs : List Bool} {Q : Value → Shared → Prop} (hl : s.heap.IsList a xs.toArray) (hi : CarriedAll xs (bs.map fun b => PyData.str (repB b))) (hl' : s.heap.IsList b ys.toArray) (hi' : CarriedAll ys (cs.map fun b => PyData.str (repB b))) (hu : A.units + 64 < cLine)
    (h : Q (.bool (decide (bs = cs))) s) : wpAny (model prog w) A (compareOp .Eq (.ref a) (.ref b)) Q E s :=
  eq_dataH_same (reads_newData hl hi) (reads_newData hl' hi') (shaped_B bs) (shaped_B cs) hu (by simp only [noMix]; exact noMix_B bs cs) (by simp only [PySem.Spec.same]; rw [same_B]; exact h)
end
end Mine
end
-- T8
section
open PySem PySem.W PySem.Calls PyProof.Rows
set_option linter.all false
set_option maxRecDepth 100000
namespace Mine
noncomputable def heldT (n m : Int) : List Bool := [decide (n < m), decide (n ≤ m), n == m, n != m, decide (m ≤ n), decide (m < n), decide (n ≠ 0)]
noncomputable def heldD (ns ms : List Int) : List Bool := [lexB (fun a b => decide (a < b)) false (signF ns) (signF ms), lexB (fun a b => decide (a ≤ b)) true (signF ns) (signF ms), decide (signF ns = signF ms), !decide (signF ns = signF ms),
  lexB (fun a b => decide (a ≥ b)) true (signF ns) (signF ms), lexB (fun a b => decide (a > b)) false (signF ns) (signF ms), !decide (ns = (List.replicate (Int.toNat 8) [0]).flatten)]
local macro_rules | `(tactic| k_room) => `(tactic| k_call_by "m_room" x x)
local macro_rules | `(tactic| walk_at "eval ListComp") => `(tactic| refine Mine.stop ?_)
local macro_rules | `(tactic| walk_at $k) => if ["compareOp Eq ref ref", "compareOp NotEq ref ref", "compareOp Lt ref ref", "compareOp LtE ref ref", "compareOp Gt ref ref", "compareOp GtE ref ref"].contains k.getString then `(tactic| refine Mine.stop ?_) else Lean.Macro.throwUnsupported
local macro_rules | `(tactic| walk_at "call ref") => `(tactic| with_reducible refine Mine.stop_ref 270 ?_)
set_option maxHeartbeats 3000000 in
theorem truth70_tells {w : World} {loose mean mg mb base env outer} {A : Around} {s : Shared} (C : CanB w loose mean mg mb base env outer A s.heap) (hr : A.depth + 10 < recursionLimit) {n : Int} {t : Tok} :
   wpAny (model pr w) A (call (.ref 70) [.int n t]) (Out s (RBool (decide (n ≠ 0)))) NoE s := by
  obtain ⟨hd0, dp, fr, gd, un⟩ := A
  have hr0 : dp < recursionLimit := by simp only at hr; (first | lia | omega)
  k_call_by "m_enter" C [(Str.ofString "a", Value.int n t)]
  obtain rfl : fr = some (env :: outer) := by assumption
  k_fold
  k_steps
  · exact out_boolE (by assumption) (decide_eq_true (by assumption)).symm
  · exact out_boolE (by assumption) (decide_eq_false (fun h => h (by assumption))).symm
local macro_rules | `(tactic| walk_at "call ref") => `(tactic| with_reducible refine Mine.stop_ref 70 ?_)
set_option maxHeartbeats 3000000 in
theorem held_tells {w : World} {loose mean mg mb base env outer} {A : Around} {s : Shared} (C : CanB w loose mean mg mb base env outer A s.heap) (hr : A.depth + 30 < recursionLimit) (hu : A.units + 200 < cLine) (hh : A.handled = none)
   {l : Addr} {vs : List Value} {ns : List Int} (hl : s.heap.IsList l vs.toArray) (hi : IntsAre vs ns) (hlen : ns.length = 8) {l2 : Addr} {vs2 : List Value} {ns2 : List Int} (hl2 : s.heap.IsList l2 vs2.toArray) (hi2 : IntsAre vs2 ns2) (hlen2 : ns2.length = 8)
   {n m : Int} {t t3 : Tok} :
   wpAny (model pr w) A (call (.ref 306) [.ref l, .ref l2, .int n t, .int m t3] ) (Out s (RBool (decide (heldT n m = heldD ns ns2)))) NoE s := by
  obtain ⟨hd0, dp, fr, gd, un⟩ := A
  obtain rfl : hd0 = none := hh
  have hr0 : dp < recursionLimit := by simp only at hr; (first | lia | omega)
  k_call_by "m_enter" C [(Str.ofString "one", Value.ref l), (Str.ofString "other", Value.ref l2), (Str.ofString "n", Value.int n t), (Str.ofString "m", Value.int m t3)]
  obtain rfl : fr = some (env :: outer) := by assumption
  rename Below _ _ _ _ => B0
  rename Frag.In _ _ => X0
  rename Top _ _ _ _ _ _ => T0
  k_fold
  k_steps
  rename Fr _ _ _ _ => F1
  rename News _ _ _ _ => N1
  refine Stop.go (use_list F1 N1 (signed_tells (by exact Mine.can_of) (by k_call_by "m_room" x x) rfl (hl.at fun o e => F1.keep l o e) hi hlen) ?_)
  intro lo us1 z1 h2 tk2 hu1 F2 N2 hne2
  clear F1 N1
  k_steps
  rename Fr _ _ _ _ => F1
  rename News _ _ _ _ => N1
  refine Stop.go (use_list F1 N1 (signed_tells (by exact Mine.can_of) (by k_call_by "m_room" x x) rfl (hl2.at fun o e => F1.keep l2 o e) hi2 hlen2) ?_)
  intro hi' us2 z2 h3 tk3 hu2 F3 N3 hne3
  clear F1 N1
  k_steps
  rename Fr _ _ _ _ => F1
  rename News _ _ _ _ => N1
  refine Stop.go (use_bool F1 N1 (truth70_tells (by exact can_of B0 F1 X0 T0) (by k_call_by "m_room" x x)) ?_)
  intro h4' tk4' F4' N4'
  clear F1 N1
  k_steps
  all_goals (
    rename Fr _ _ _ _ => F4
    rename News _ _ _ _ => N4
    refine Stop.go (list_lt (News.isList N4 (by k_mem)) (News.isList N4 (by k_mem)) hu1 hu2 (by rw [signF_len hlen, signF_len hlen2]) (by k_call_by "m_room" x x) ?_)
    k_steps)
  all_goals (
    rename Fr _ _ _ _ => F4
    rename News _ _ _ _ => N4
    refine Stop.go (list_le (News.isList N4 (by k_mem)) (News.isList N4 (by k_mem)) hu1 hu2 (by rw [signF_len hlen, signF_len hlen2]) (by k_call_by "m_room" x x) ?_)
    k_steps)
  all_goals (
    rename Fr _ _ _ _ => F4
    rename News _ _ _ _ => N4
    refine Stop.go (eq_intsK (News.isList N4 (by k_mem)) hu1 (News.isList N4 (by k_mem)) hu2 (by k_call_by "m_room" x x) ?_)
    k_steps)
  all_goals (
    rename Fr _ _ _ _ => F4
    rename News _ _ _ _ => N4
    refine Stop.go (ne_intsK (News.isList N4 (by k_mem)) hu1 (News.isList N4 (by k_mem)) hu2 (by k_call_by "m_room" x x) ?_)
    k_steps)
  all_goals (
    rename Fr _ _ _ _ => F4
    rename News _ _ _ _ => N4
    refine Stop.go (list_ge (News.isList N4 (by k_mem)) (News.isList N4 (by k_mem)) hu1 hu2 (by rw [signF_len hlen, signF_len hlen2]) (by k_call_by "m_room" x x) ?_)
    k_steps)
  all_goals (
    rename Fr _ _ _ _ => F4
    rename News _ _ _ _ => N4
    refine Stop.go (list_gt (News.isList N4 (by k_mem)) (News.isList N4 (by k_mem)) hu1 hu2 (by rw [signF_len hlen, signF_len hlen2]) (by k_call_by "m_room" x x) ?_)
    k_steps)
  all_goals (
    rename Fr _ _ _ _ => F4
    rename News _ _ _ _ => N4
    rename IntsAre (List.flatten _) _ => hz
    refine Stop.go (ne_intsK (hl.at fun o e => F4.keep l o e) hi (News.isList N4 (by k_mem)) hz (by k_call_by "m_room" x x) ?_)
    k_steps)
  · (
    rename Fr _ _ _ _ => F4
    rename News _ _ _ _ => N4
    refine Stop.go (comp_boolF F4 (heldT n m) (by show 7 ≤ sizeLine; decide) rfl rfl (by decide) rfl (by decide) rfl ?_)
    k_steps
    rename Fr _ _ _ _ => F5
    rename News _ _ _ _ => N5
    refine ⟨_, _, rfl, ?_, F5, N5, ?_, ?_⟩
    · unfold heldT
      exact News.isList N5 (by k_mem)
    · intro C b s₂ m₂ E' hC hns hmb hkeep
      k_steps
      exact ⟨_, _, rfl, fun _ _ e => e⟩
    · intro D ys z h' tk' F6 N6 hne hys
      k_steps
      rename Fr _ _ _ _ => F7
      rename News _ _ _ _ => N7
      refine Stop.go (comp_boolF F7 (heldD ns ns2) (by show 7 ≤ sizeLine; decide) rfl rfl (by decide) rfl (by decide) rfl ?_)
      k_steps
      rename Fr _ _ _ _ => F8
      rename News _ _ _ _ => N8
      refine ⟨_, _, rfl, ?_, F8, N8, ?_, ?_⟩
      · exact News.isList N8 (by k_mem)
      · intro C b s₂ m₂ E' hC hns hmb hkeep
        k_steps
        exact ⟨_, _, rfl, fun _ _ e => e⟩
      · intro D2 ys2 z2' h8 tk8 F9 N9 hne9 hys2
        k_steps
        rename Fr _ _ _ _ => FA
        rename News _ _ _ _ => NA
        refine Stop.go (eq_boolF (News.isList NA (by k_mem)) hys (News.isList NA (by k_mem)) hys2 (by k_call_by "m_room" x x) ?_)
        k_steps
        exact out_bool (by assumption))
end Mine
end
-- W1
section
open PySem PySem.W PySem.Calls PyProof.Rows
set_option linter.all false
set_option maxRecDepth 100000
namespace Mine
/-- the alphabet's last two signs, as the law hands them on -/
noncomputable def TwoV (two : Value) (x y : Int) : Prop := (two = .none ∧ x = 43 ∧ y = 47) ∨ ∃ (a b : UInt8) (u : Tok), two = .bytes #[a, b] u ∧ x = ((a.toNat : Nat) : Int) ∧ y = ((b.toNat : Nat) : Int)
theorem map_letter {x y : Int} (ns : List Int) : (ns.map b64c).map (trI 43 47 x y) = ns.map (letter x y) := by rw [List.map_map]; rfl
theorem map_letter0 (ns : List Int) : ns.map b64c = ns.map (letter 43 47) := by
  rw [← map_letter]
  conv => lhs; rw [← List.map_id (ns.map b64c)]
  exact List.map_congr_left fun c _ => (id_letters c).symm
section
variable {w : World} {loose : List Str} {mean : ExcName → Option Value} {mg mb : Str → Option Value} {base : Heap} {env : Env} {outer : List Env} {A : Around} {s : Shared} {two : Value} {x y : Int}
theorem enc_row (V : TwoV two x y) (C : CanB w loose mean mg mb base env outer A s.heap) (hr : A.depth + 30 < recursionLimit) (hh : A.handled = none) {b : Array UInt8} {t : Tok} {ks ns : List Int} (hrow : Row ns) (hk : KBw.bInts b = ks) (hlen : ks.length = 6) (hv : kval ks = val ns) :
    wpAny (model pr w) A (call (.ref 248) [.bytes b t, two]) (Out s (RBytes (ns.map (letter x y)))) NoE s := by
  have hin : ∀ k ∈ ks, 0 ≤ k ∧ k < 256 := fun k h => KBw.ints_in (hk ▸ h)
  have e := write_out hlen hin hrow.1 hrow.2 hv
  rcases V with ⟨rfl, rfl, rfl⟩ | ⟨a, b', u, rfl, rfl, rfl⟩
  · rw [← map_letter0, ← e]; exact b64encode_tells0 C hr hh hk hlen
  · rw [← map_letter, ← e]; exact b64encode_tells2 C hr hh hk hlen
theorem num_row (V : TwoV two x y) (tw : Two x y) (C : CanB w loose mean mg mb base env outer A s.heap) (hr : A.depth + 40 < recursionLimit) (hh : A.handled = none) {b : Array UInt8} {t : Tok} {ns : List Int} (hrow : Row ns) (hk : KBw.bInts b = ns.map (letter x y)) :
    wpAny (model pr w) A (call (.ref 301) [.bytes b t, two]) (Out s (RInt (sgn (val ns)))) NoE s := by
  have hl : (ns.map (letter x y)).length = 8 := by rw [List.length_map]; exact hrow.1
  have e : sgn (val ns) = sval (decF ((ns.map (letter x y)).map (trI x y 43 47))) := by rw [row_letters tw hrow]; exact (read_back hrow.1 hrow.2).symm
  have hval := row_valid tw hrow
  rcases V with ⟨rfl, rfl, rfl⟩ | ⟨a, b', u, rfl, rfl, rfl⟩
  · have ei : (ns.map (letter 43 47)).map (trI 43 47 43 47) = (ns.map (letter 43 47)).map id := List.map_congr_left fun c _ => id_letters c
    rw [ei] at e hval
    rw [e]; exact number_tells0 C hr hh hk hl hval
  · rw [e]; exact number_tells1 C hr hh hk hl hval
theorem two_dot {a b : UInt8} (tw : Two ((a.toNat : Nat) : Int) ((b.toNat : Nat) : Int)) : a ≠ 46 ∧ b ≠ 46 := by
  constructor
  · rintro rfl
    rcases tw with ⟨h, _⟩ | ⟨h, _⟩ | ⟨h, _⟩ | ⟨h, _⟩ <;> exact absurd h (by decide)
  · rintro rfl
    rcases tw with ⟨_, h⟩ | ⟨_, h⟩ | ⟨_, h⟩ | ⟨_, h⟩ <;> exact absurd h (by decide)
theorem strewn_row (V : TwoV two x y) (tw : Two x y) (C : CanS w loose mean mg mb base env outer A s.heap) (hr : A.depth + 40 < recursionLimit) (hh : A.handled = none) {b : Array UInt8} {t : Tok} {ns : List Int} (hrow : Row ns) (hk : KBw.bInts b = ns.map (letter x y)) {p : Int} {t3 : Tok} (hp : 0 ≤ p) :
    wpAny (model pr w) A (call (.ref 320) [.bytes b t, two, .int p t3]) (OutS env outer s (RBool true)) NoE s := by
  have hl : (ns.map (letter x y)).length = 8 := by rw [List.length_map]; exact hrow.1
  have hval := row_valid tw hrow
  rcases V with ⟨rfl, rfl, rfl⟩ | ⟨a, b', u, rfl, rfl, rfl⟩
  · have ei : (ns.map (letter 43 47)).map (trI 43 47 43 47) = (ns.map (letter 43 47)).map id := List.map_congr_left fun c _ => id_letters c
    rw [ei] at hval
    exact strewn_tells0 C hr hh hk hl hp hval
  · exact strewn_tells1 C hr hh hk hl hp (two_dot tw).1 (two_dot tw).2 hval
theorem lex_eq (f : Int → Int → Bool) (d : Bool) : ∀ l r, lexB f d l r = lexB' f d l r
  | x :: xs, y :: ys => by rw [lexB, lexB', lex_eq f d xs ys]
  | [], r => by rw [lexB, lexB'] <;> (intros; contradiction)
  | _ :: _, [] => by rw [lexB, lexB'] <;> (intros; contradiction)
theorem held_eq (n m : Int) (ns ms : List Int) (h : heldT' n m = heldD' ns ms) : heldT n m = heldD ns ms := by
  have e : ∀ f d, lexB f d = lexB' f d := fun f d => by funext l r; exact lex_eq f d l r
  unfold heldD
  simp only [e]
  exact h
theorem held_row (C : CanB w loose mean mg mb base env outer A s.heap) (hr : A.depth + 30 < recursionLimit) (hu : A.units + 200 < cLine) (hh : A.handled = none)
    {l : Addr} {vs : List Value} {ns : List Int} (hl : s.heap.IsList l vs.toArray) (hi : IntsAre vs ns) (h1 : Row ns) {l2 : Addr} {vs2 : List Value} {ns2 : List Int} (hl2 : s.heap.IsList l2 vs2.toArray) (hi2 : IntsAre vs2 ns2) (h2 : Row ns2) {t t3 : Tok} :
    wpAny (model pr w) A (call (.ref 306) [.ref l, .ref l2, .int (sgn (val ns)) t, .int (sgn (val ns2)) t3]) (Out s (RBool true)) NoE s := by
  have e : decide (heldT (sgn (val ns)) (sgn (val ns2)) = heldD ns ns2) = true := decide_eq_true (held_eq _ _ _ _ (held_ok h1.1 h2.1 h1.2 h2.2))
  rw [← e]; exact held_tells C hr hu hh hl hi h1.1 hl2 hi2 h2.1
end
end Mine
end
-- BZ
section
open PySem PySem.W PySem.Calls PyProof.Rows PyProof.V PySem.Spec
set_option linter.all false
set_option maxRecDepth 100000
namespace Mine
theorem int_no_bytes : typeLookup (.type "int") "__bytes__" = pure none := by rw [typeLookup_type, builtinLookup_eq_fast]; kernel_rfl
theorem int_index : typeLookup (.type "int") "__index__" = pure (some (.builtin "int.__index__")) := by rw [typeLookup_type, builtinLookup_eq_fast]; kernel_rfl
section
variable {prog : Program} {w : World} {A : Around} {E : Value → Shared → Prop} {s : Shared}
theorem zeros_new {t : Tok} {Q : Value → Shared → Prop} (hQ : ∀ t' k, Q (.bytes (Array.replicate 6 0) t') { s with toks := k }) :
    codeAny (model prog w) A (.call (.builtin "bytes.__new__") ⟨[.type "bytes", .int 6 t], []⟩) (wants Q E) s := by
  refine codeAny_of_tree ?_
  show wpAny _ A.in1 (do checkBuiltinCall "bytes.__new__" ⟨[.type "bytes", .int 6 t], []⟩; again (.builtin "bytes.__new__" ⟨[.type "bytes", .int 6 t], []⟩)) _ _ s
  refine wpAny_bind (wpAny_of_eq (F.bm_newCall _) (wpAny_pure ⟨plainId_quiet F.bm_plain _, codeAny_builtin F.bm_entry ?_⟩))
  rw [Around.under_plainId F.bm_plain _]
  have hT : s.TypeIs (.int 6 t) "int" := typeIs_int _ _ _
  unfold Builtin.«bytes.__new__»
  refine wpAny_bind (wpAny_of_eq (a := true) rfl ?_)
  refine bm_if_false rfl ?_
  refine wpAny_bind (wpAny_of_eq F.bm_sub ?_)
  refine bm_if_false rfl ?_
  refine wpAny_bind (wpAny_of_eq (F.bm_bind _) ?_)
  refine wpAny_bind (wpAny_of_eq (a := ()) rfl ?_)
  refine wpAny_bind (wpAny_of_eq (a := ()) rfl ?_)
  refine bm_if_false rfl ?_
  refine wpAny_bind (wpAny_specialOf hT int_no_bytes ?_)
  refine wpAny_bind (wpAny_bind (wpAny_of_eq (a := none) rfl (wpAny_pure ?_)))
  refine bm_if_false rfl ?_
  refine wpAny_bind (wpAny_specialOf hT int_index ?_)
  refine bm_if_false rfl ?_
  refine wpAny_bind (wpAny_attempt (wpAny_of_eq (a := 6) rfl ?_))
  dsimp only
  rw [if_neg (by decide +kernel), if_neg (by decide), if_neg (by decide), if_neg (by decide +kernel)]
  refine wpAny_bind (wpAny_rule ?_)
  refine wpAny_bind (wpAny_mkBytes ?_ (by rw [Array.size_replicate, sizeLine_eq]; decide))
  show wpAny _ _ (if (Value.type "bytes" == Value.type "bytes") = true then _ else _) _ _ _
  refine bm_if_true (by decide +kernel) ?_
  exact wpAny_pure (hQ _ _)
theorem call_zeros {t : Tok} {Q : Value → Shared → Prop} (hQ : ∀ t' k, Q (.bytes (Array.replicate 6 0) t') { s with toks := k }) : wpAny (model prog w) A (call (.type "bytes") [.int 6 t]) Q E s := by
  refine callType_codes (Q₁ := fun obj s₁ => s₁.TypeIs obj "bytes" ∧ Q obj s₁) F.bm_called (F.bm_typeCall _) F.entry_object_init
    (zeros_new fun t' k => ⟨PySem.W.typeIs_bytes _ _ _, hQ t' k⟩) fun obj s₁ h₁ => ?_
  exact ⟨h₁.1, F.args_object_init_2 obj _, object_init_meets F.bm_called.init.lookup F.bm_called.made (by decide) prog w A.in1 _ s₁ ⟨h₁.1, rfl, h₁.2⟩⟩
end
end Mine
end
-- CompV
section
open PySem PySem.W PySem.Calls PyProof.Rows PyProof.V PySem.Spec
set_option linter.all false
set_option maxRecDepth 100000
namespace Mine
theorem paired_len {α β : Type} {F : α → β → Prop} : ∀ {l : List α} {r : List β}, Paired F l r → l.length = r.length ∧ ∀ y ∈ r, ∃ x, F x y
  | _, _, .nil => ⟨rfl, fun _ h => nomatch h⟩
  | _, _, .cons h t => ⟨by rw [List.length_cons, List.length_cons, (paired_len t).1], fun y hy => by
    rcases List.mem_cons.mp hy with rfl | hy
    · exact ⟨_, h⟩
    · exact (paired_len t).2 y hy⟩
section
variable {prog : Program} {w : World} {A : Around} {E : Value → Shared → Prop} {s : Shared} {h₀ : Heap} {L : Addr} {m : Str → Option Value} {env : Env}
/-- what is left of y = [elt for x in range(n)] once the range stands, each element of one sort -/
noncomputable def SortRest (prog : Program) (w : World) (A : Around) (E : Value → Shared → Prop) (h₀ : Heap) (L : Addr) (m : Str → Option Value) (env : Env) (elt : Expr) (x y : Str) (scope : Scope) (cl : List (Str × Addr)) (N : Int) (n : Nat) (G : Value → Prop) (Q : Flow → Shared → Prop) (xv : Value) (s₁ : Shared) : Prop :=
  ∃ news : List (Addr × Obj), ∃ r t₀ u₀ v₀, xv = .ref r ∧ IsRange s₁.heap r 0 N 1 t₀ u₀ v₀ ∧ Fr h₀ L s₁.heap m ∧ News h₀ L s₁.heap news ∧
    (∀ C a t s₂ m₂ E', s₁.heap.objs.size ≤ C → s₂.heap.Ns C m₂ → m₂ x = some (.int a t) → (∀ b o, s₁.heap.get? b = some o → s₂.heap.get? b = some o) → Fr h₀ L s₂.heap m → News h₀ L s₂.heap news →
      wpAny (model prog w) A (eval elt (compEnvC scope cl C env)) (fun y s₃ => G y ∧ Keeps s₂ s₃) E' s₂) ∧
    (∀ D (ys : List Value) z h' tk, Fr h₀ L h' (fun k => if k = y then some (.ref D) else m k) → News h₀ L h' ((D, PySem.W.listOf (List.toArray ys) z) :: news) → AllNe D news → ys.length = n → (∀ v ∈ ys, G v) → Q .next { s₁ with heap := h', toks := tk })
theorem assign_comp_sort {elt iter : Expr} {x y : Str} {px py : Pos} {scope : Scope} {cl : List (Str × Addr)} {pos spos : Pos} {Q : Flow → Shared → Prop} (F₀ : Fr h₀ L s.heap m) (N : Int) (n : Nat) (G : Value → Prop) (hsm : Builtin.Range.small 0 N 1 = true) (hn : Builtin.Range.rangeSize 0 N 1 = (n : Int)) (hz : n ≤ sizeLine)
    (hsw : swapsWith (.ListComp elt [⟨.Name x px, iter, [], 0⟩] scope pos) (some (.Name y py)) spos.line env = pure true) (hL : env.locals = L)
    (hh : A.handled = none) (hclos : closureFor scope env = pure cl) (hcell : ∀ z ∈ scope.names, z.2 ≠ .cell) (hkind : scope.kind = .function)
    (hnames : ∀ z ∈ scope.names, z.2 = .local → scope.names.lookup z.1 = some .local) (hx : scope.names.lookup x = some .local)
    (hy : env.kindOf y = some .local) (hp : (env.scope.kind == .class || (env.scope.kind == .module && env.locals != env.globals)) = false)
    (h : wpAny (model prog w) A (eval iter env) (fun xv s₁ => SortRest prog w A E h₀ L m env elt x y scope cl N n G Q xv s₁) E s)
    (hs : ∀ x, foldedSetIterable iter env x = pure x := by intro _; rfl) :
    wpAny (model prog w) A (exec (.Assign [.Name y py] (.ListComp elt [⟨.Name x px, iter, [], 0⟩] scope pos) spos) env) Q E s := by
  subst hL
  refine wpAny_Assign_ListComp_free (fun _ => true) (fun _ y => G y) hsw hclos hcell hkind hnames hx hy hp (wpAny_mono h (fun xv s₁ h₁ => ?_) fun _ _ e => e) hs
  obtain ⟨news, r, t₀, u₀, v₀, rfl, hr, F, N', helt, hQ⟩ := h₁
  have up : ∀ (s₃ : Shared), (∀ b o, b ∉ [s₁.heap.objs.size] → (s₁.heap.push { cls := .type "range_iterator", data := .fields #[rawInt 0, rawInt (Builtin.Range.rangeSize 0 N 1), rawInt 1] }).get? b = some o → s₃.heap.get? b = some o) → ∀ b o, s₁.heap.get? b = some o → s₃.heap.get? b = some o :=
    fun s₃ hk b o e => hk b o (fun hm => by rcases List.mem_cons.mp hm with rfl | hm; exact Nat.lt_irrefl _ (Heap.lt_size e); cases hm) (Heap.get?_push_of_some _ e)
  refine wpAny_pyIter_range hr hsm ⟨s₁.heap.objs.size, [s₁.heap.objs.size], [s₁.heap.objs.size], n, _, _, m, rfl, (Walks.range hh _ 0 1 n).bound, hz, (by show IsRangeIter _ _ _ _ _; rw [hn]; simpa using Heap.get?_push_size _ rfl), ?_, ?_, F.ns.push _, ⟨?_, ?_⟩, ?_⟩
  · intro b hb
    rw [List.mem_singleton.mp hb]
    show s₁.heap.objs.size < (s₁.heap.push _).objs.size
    rw [Heap.size_push]; exact Nat.lt_succ_self _
  · intro hm
    exact Nat.lt_irrefl _ ((List.mem_singleton.mp hm) ▸ F.ns.lt)
  · intro C i v s₃ m₃ E' hC hP hn' hm hk _
    exact wpAny_pure ⟨rfl, _, _, rfl, fun _ _ e => e⟩
  · intro C i v s₃ m₃ E' hC hP _ hn' hm hk _
    obtain ⟨t, rfl⟩ := hP.2
    have k3 := up s₃ hk
    exact wpAny_mono (helt C _ t s₃ m₃ E' (Nat.le_of_succ_le (by simpa [Heap.size_push] using hC)) hn' hm k3 (F.keeps k3) (N'.grown k3)) (fun y s₄ h₄ => h₄) fun _ _ e => e
  · intro D h' tk ys vs' hnew hlD hplD hlen hP hF hn'' hk
    have keep : ∀ b o, b ≠ env.locals → s₁.heap.get? b = some o → h'.get? b = some o := fun b o hb e =>
      hk b o hb (fun hm => by rcases List.mem_cons.mp hm with rfl | hm; exact Nat.lt_irrefl _ (Heap.lt_size e); cases hm) (Heap.get?_push_of_some _ e)
    have hne : ∀ p ∈ news, p.1 ≠ D := fun p hp e => by rw [← e, Heap.get?_push_of_some _ (N' p hp).1] at hnew; cases hnew
    have hD0 : h₀.get? D = none := by
      cases e : h₀.get? D with
      | none => rfl
      | some o' => rw [Heap.get?_push_of_some _ (F.keep _ _ e)] at hnew; cases hnew
    have F' : Fr h₀ env.locals h' (fun k => if k = y then some (.ref D) else m k) := ⟨hn'', fun b o e => keep b o (Nat.ne_of_lt (Nat.lt_of_lt_of_le (Heap.lt_size e) F.above)) (F.keep b o e), F.above⟩
    have hl2 := paired_len hF
    rw [show (vs'.filter fun _ => true) = vs' from List.filter_eq_self.mpr fun _ _ => rfl, hlen] at hl2
    obtain ⟨z, hz'⟩ := hplD
    refine hQ D ys.toList z h' tk F' (fun p hp => ?_) (allNe_of hne) hl2.1.symm fun v hv => (hl2.2 v hv).elim fun _ g => g
    rcases List.mem_cons.mp hp with rfl | hp
    · refine ⟨by simpa using hz', fun e => ?_, hD0⟩
      obtain ⟨oL, es, ep, hL, hd, _⟩ := F'.ns
      have e' : D = env.locals := e
      rw [e', hL] at hz'
      have hoL := Option.some.inj hz'
      rw [hoL] at hd
      cases hd
    · exact ⟨keep _ _ (N' p hp).2.1 (N' p hp).1, (N' p hp).2⟩
end
end Mine
end
-- LoopG
section
open PySem PySem.W PySem.Calls PyProof.Rows PyProof.V PySem.Spec
set_option linter.all false
set_option maxRecDepth 100000
namespace Mine
section
variable {prog : Program} {w : World} {A : Around} {E : Value → Shared → Prop} {s : Shared} {env : Env} {x : Str} {body : List Stmt} {Q : Flow → Shared → Prop}
/-- how a turn ends, the ground moved -/
noncomputable def GEnd (L D I : Addr) (oI : Obj) (items : Array Value) (s₁ : Shared) (K : Heap → (Str → Option Value) → List (Addr × Obj) → Prop) (s' : Shared) : Prop :=
  ∃ g' h' tk' m' nl', s' = { s₁ with heap := h', toks := tk' } ∧ Fr g' L h' m' ∧ News g' L h' ((I, oI) :: nl') ∧ (∀ p ∈ nl', p.1 ≠ I) ∧ g'.IsList D items ∧ K g' m' nl'
noncomputable def GPost (L D I : Addr) (oI : Obj) (items : Array Value) (s₁ : Shared) (K : Heap → (Str → Option Value) → List (Addr × Obj) → Prop) (Q : Flow → Shared → Prop) : Flow → Shared → Prop := fun f s' => match f with
  | .next => GEnd L D I oI items s₁ K s'
  | .cont => GEnd L D I oI items s₁ K s'
  | .brk => Q .next s'
  | .ret v => Q (.ret v) s'
/-- what a for-loop over a list that stood before asks, its ground moving -/
noncomputable def GRest (prog : Program) (w : World) (A : Around) (E : Value → Shared → Prop) (env : Env) (x : Str) (body : List Stmt) (Q : Flow → Shared → Prop) (xv : Value) (s₁ : Shared) : Prop :=
  ∃ (K : Nat → Heap → (Str → Option Value) → List (Addr × Obj) → Prop) (D : Addr) (vs : List Value) (xs : List Int) (g : Heap) (m : Str → Option Value) (nl : List (Addr × Obj)), xv = .ref D ∧ A.handled = none ∧ g.IsList D vs.toArray ∧ IntsAre vs xs ∧ Fr g env.locals s₁.heap m ∧ News g env.locals s₁.heap nl ∧ K 0 g m nl ∧
    (∀ (I : Addr) oI i k t g m₁ nl h tk, xs[i]? = some k → Fr g env.locals h (fun y => if y = x then some (.int k t) else m₁ y) → News g env.locals h ((I, oI) :: nl) → (∀ p ∈ nl, p.1 ≠ I) → g.IsList D vs.toArray → K i g m₁ nl →
      wpAny (model prog w) A (execs body env) (GPost env.locals D I oI vs.toArray s₁ (K (i + 1)) Q) E { s₁ with heap := h, toks := tk }) ∧
    (∀ g m₁ nl h tk, Fr g env.locals h m₁ → News g env.locals h nl → K xs.length g m₁ nl → Q .next { s₁ with heap := h, toks := tk })
theorem for_listG {px pos : Pos} {iter : Expr} (hx : env.kindOf x = some .local) (hp : (env.scope.kind == .class || (env.scope.kind == .module && env.locals != env.globals)) = false)
    (h : wpAny (model prog w) A (eval iter env) (fun xv s₁ => GRest prog w A E env x body Q xv s₁) E s) (hs : ∀ x, foldedSetIterable iter env x = pure x := by intro _; rfl) (hE : PassesOwn (model prog w) A env E := by passes_own) :
    wpAny (model prog w) A (exec (.For (.Name x px) iter body [] pos) env) Q E s := by
  refine wpAny_For (wpAny_mono h (fun xv s₁ h₁ => ?_) fun _ _ e => e) hs
  obtain ⟨K, D, vs, xs, g, m, nl, rfl, hh, hD, hi, F, N, hK, turn, done⟩ := h₁
  obtain ⟨oD, hoD, _⟩ := id hD
  have hDs : s₁.heap.IsList D vs.toArray := hD.at fun o e => F.keep D o e
  refine wpAny_pyIter_list hDs ?_
  have hlen := hi.length
  generalize hI : s₁.heap.objs.size = I at *
  have hnl : ∀ p ∈ nl, p.1 ≠ I := fun p hp => by
    have := Heap.lt_size (N p hp).1
    rw [hI] at this; exact Nat.ne_of_lt this
  have hLI : env.locals ≠ I := by have := F.ns.lt; rw [hI] at this; exact Nat.ne_of_lt this
  have hI0 : g.get? I = none := by
    cases e : g.get? I with
    | none => rfl
    | some o => exact absurd (Heap.lt_size (F.keep _ _ e)) (by rw [hI]; exact Nat.lt_irrefl _)
  refine codeAny_forLoop
    (fun k s' => ∃ g' h' tk m' nl' oI i, s' = { s₁ with heap := h', toks := tk } ∧ Fr g' env.locals h' m' ∧ News g' env.locals h' ((I, oI) :: nl') ∧ oI.cls = .type "list_iterator" ∧ oI.data = .fields #[.ref D, .int ((i : Nat) : Int) 0] ∧ (∀ p ∈ nl', p.1 ≠ I) ∧ g'.IsList D vs.toArray ∧ K i g' m' nl' ∧ i ≤ vs.length ∧ k = vs.length + 1 - i) ?_ (vs.length + 1)
    ⟨g, _, s₁.toks, m, nl, { cls := .type "list_iterator", data := .fields #[.ref D, .int 0 0] }, 0, rfl, F.push _, fun p hp => ?_, rfl, rfl, hnl, hD, hK, Nat.zero_le _, rfl⟩
  rotate_left
  · rcases List.mem_cons.mp hp with rfl | hp
    · exact ⟨hI ▸ Heap.get?_push_size _ rfl, Ne.symm hLI, hI0⟩
    · exact ⟨Heap.get?_push_of_some _ (N p hp).1, (N p hp).2⟩
  rintro k s' ⟨g', h', tk, m', nl', oI, i, rfl, F', N', hoc, hod, hne', hD', hK', hile, rfl⟩
  have hNI := N' _ (.head _)
  have hit : h'.IsListIter I D i := ⟨oI, hNI.1, hoc, hod⟩
  have hDh : h'.IsList D vs.toArray := hD'.at fun o e => F'.keep D o e
  have ngI : ∀ b o, g'.get? b = some o → b ≠ I := fun b o e q => by rw [q, hNI.2.2] at e; cases e
  by_cases hlt : i < vs.length
  · have hv : vs.toArray[i]? = some vs[i] := by simp [hlt]
    refine wpAny_pyNext_list_item hit hDh hv fun h₁ hit₁ hs₁ => ?_
    have hs₁' : Heap.SameBut I h' h₁ := hs₁
    obtain ⟨kk, t, hvk, hxk⟩ := IntsAre.at hi i vs[i] (List.getElem?_eq_getElem hlt)
    rw [hvk]
    have F₁ : Fr g' env.locals h₁ m' := ⟨F'.ns.sameBut hs₁' (Ne.symm hNI.2.1), fun b o e => hs₁'.extBut b o (ngI b o e) (F'.keep b o e), F'.above⟩
    refine wpAny_assign_Name (wpAny_storeName_local hx F₁.ns (fun h₂ hn₂ hs₂ => ?_) hp)
    have F₂ := F₁.set hn₂ hs₂
    obtain ⟨oI₁, hoI₁, hIc, hId⟩ := id hit₁
    have N₂ : News g' env.locals h₂ ((I, oI₁) :: nl') := fun p hp => by
      rcases List.mem_cons.mp hp with rfl | hp
      · exact ⟨hs₂.extBut _ _ hNI.2.1 hoI₁, hNI.2⟩
      · exact ⟨hs₂.extBut _ _ (N' p (.tail _ hp)).2.1 (hs₁'.extBut _ _ (hne' p hp) (N' p (.tail _ hp)).1), (N' p (.tail _ hp)).2⟩
    refine wpAny_mono (wpAny_passesOwn hE (turn I oI₁ i kk t g' m' nl' h₂ _ hxk F₂ N₂ hne' hD' hK')) (fun f s₃ h₃ => ?_) fun _ _ e => e
    have fin : GEnd env.locals D I oI₁ vs.toArray s₁ (K (i + 1)) s₃ →
        ∃ mm, mm < vs.length + 1 - i ∧ ∃ g' h' tk m' nl' oI i, s₃ = { s₁ with heap := h', toks := tk } ∧ Fr g' env.locals h' m' ∧ News g' env.locals h' ((I, oI) :: nl') ∧ oI.cls = .type "list_iterator" ∧ oI.data = .fields #[.ref D, .int ((i : Nat) : Int) 0] ∧ (∀ p ∈ nl', p.1 ≠ I) ∧ g'.IsList D vs.toArray ∧ K i g' m' nl' ∧ i ≤ vs.length ∧ mm = vs.length + 1 - i := by
      rintro ⟨g₃, hp₃, tk₃, m₃, nl₃, rfl, F₃, N₃, hne₃, hD₃, hK₃⟩
      exact ⟨vs.length + 1 - (i + 1), by (first | lia | omega), g₃, hp₃, tk₃, m₃, nl₃, oI₁, i + 1, rfl, F₃, N₃, hIc, hId, hne₃, hD₃, hK₃, hlt, rfl⟩
    cases f with
    | ret v => exact h₃
    | brk => exact h₃
    | next => exact fin h₃
    | cont => exact fin h₃
  · obtain rfl : i = vs.length := Nat.le_antisymm hile (Nat.not_lt.mp hlt)
    refine wpAny_pyNext_list_end hh hit hDh (by simp) fun h₁ he₁ => ?_
    refine wpAny_execs_nil ?_
    rw [hlen] at hK'
    exact done g' m' nl' h₁ tk ⟨F'.ns.at' fun o e => he₁ _ o (Ne.symm hNI.2.1) e, fun b o e => he₁ b o (ngI b o e) (F'.keep b o e), F'.above⟩ (fun p hp => ⟨he₁ _ _ (hne' p hp) (N' p (.tail _ hp)).1, (N' p (.tail _ hp)).2⟩) hK'
end
end Mine
end
-- RD
section
open PySem PySem.W PySem.Calls PyProof.Rows
set_option linter.all false
set_option maxRecDepth 100000
namespace Mine
section
variable {prog : Program} {w : World} {A : Around} {E : Value → Shared → Prop} {s : Shared} {g : Heap} {L : Addr} {m : Str → Option Value}
/-- an item of a list of the ledger -/
theorem item_at {D : Addr} {vs : List Value} {z : Nat} {nl : List (Addr × Obj)} {i : Int} {u : Tok} {v : Value} {value slice : Expr} {Q : Value → Shared → Prop} (N : News g L s.heap nl) (hm : (D, PySem.W.listOf vs.toArray z) ∈ nl) (h0 : 0 ≤ i) (h1 : i < 64) (hv : vs[i.toNat]? = some v) (h : Q v s)
    (hs : subscripted slice false (.ref D) (.int i u) = operate [.ref D, .int i u] (getItem (.ref D) (.int i u)) := by with_unfolding_all rfl) : wpAny (model prog w) A (subscriptTail value slice (.ref D) (.int i u)) Q E s := by
  have hl : s.heap.IsList D vs.toArray := News.isList N hm
  exact tail_any hl.typeIs slot_list_getitem.lookup (wpAny_getItem_list hl h0 (by (first | lia | omega)) (by simpa using hv) h) hs
/-- an item stored into a list of the ledger -/
theorem set_at {D : Addr} {vs : List Value} {z : Nat} {pre post : List (Addr × Obj)} {i : Int} {u : Tok} {v : Value} {Q : Unit → Shared → Prop} (F : Fr g L s.heap m) (N : News g L s.heap (pre ++ (D, PySem.W.listOf vs.toArray z) :: post)) (ha : ∀ p ∈ pre, p.1 ≠ D) (hb : ∀ p ∈ post, p.1 ≠ D) (h0 : 0 ≤ i) (h1 : i < (vs.length : Int)) (h64 : vs.length ≤ 64)
    (h : ∀ h', Fr g L h' m → News g L h' (pre ++ (D, PySem.W.listOf (List.toArray (vs.set i.toNat v)) z) :: post) → Q () { s with heap := h' }) : wpAny (model prog w) A (setItem (.ref D) (.int i u) v) Q E s := by
  have hz := N (D, PySem.W.listOf vs.toArray z) (List.mem_append.mpr (.inr (.head _)))
  refine ki_setAt hz.1 h0 (by (first | lia | omega)) (by simpa using h1) (h _ (F.change (Heap.SameBut.update ..) hz.2.1 hz.2.2) (ki_turn _ N ha hb ?_ ?_))
  · apply Array.toList_inj.mp
    rw [Array.toList_setIfInBounds]
  · rw [if_pos (by simp)]
end
theorem allNe_all {l : Addr} : ∀ {nl : List (Addr × Obj)}, AllNe l nl → ∀ p ∈ nl, p.1 ≠ l
  | [], _, _, h => nomatch h
  | _ :: _, h, p, hp => by
    rcases List.mem_cons.mp hp with rfl | hp
    · exact h.1
    · exact allNe_all h.2 p hp
/-- the three registers -/
structure Regs (own : List (Addr × Obj)) (x y : Int) (ra wa : List Value) : Prop where
  lr : ra.length = 3
  lw : wa.length = 3
  get : ∀ k : Nat, k < 3 → ∃ r vs z ns b t, ra[k]? = some (.ref r) ∧ wa[k]? = some (.bytes b t) ∧ (r, PySem.W.listOf (List.toArray vs) z) ∈ own ∧ IntsAre vs ns ∧ Row ns ∧ KBw.bInts b = ns.map (letter x y)
theorem Regs.at {own : List (Addr × Obj)} {x y : Int} {ra wa : List Value} (G : Regs own x y ra wa) {k : Int} (h0 : 0 ≤ k) (h1 : k < 3) : ∃ r vs z ns b t, ra[k.toNat]? = some (.ref r) ∧ wa[k.toNat]? = some (.bytes b t) ∧ (r, PySem.W.listOf (List.toArray vs) z) ∈ own ∧ IntsAre vs ns ∧ Row ns ∧ KBw.bInts b = ns.map (letter x y) :=
  G.get k.toNat (by (first | lia | omega))
theorem Regs.more {own : List (Addr × Obj)} {x y : Int} {ra wa : List Value} (G : Regs own x y ra wa) (q : Addr × Obj) : Regs (q :: own) x y ra wa :=
  ⟨G.lr, G.lw, fun k hk => let ⟨r, vs, z, ns, b, t, a, c, d, e⟩ := G.get k hk; ⟨r, vs, z, ns, b, t, a, c, .tail _ d, e⟩⟩
theorem Regs.set {own : List (Addr × Obj)} {x y : Int} {ra wa : List Value} (G : Regs own x y ra wa) {i : Nat} {d : Addr} {vs : List Value} {z : Nat} {ns : List Int} {b : Array UInt8} {t : Tok} (hm : (d, PySem.W.listOf (List.toArray vs) z) ∈ own) (hi : IntsAre vs ns) (hr : Row ns) (hb : KBw.bInts b = ns.map (letter x y)) : Regs own x y (ra.set i (.ref d)) (wa.set i (.bytes b t)) where
  lr := by rw [List.length_set]; exact G.lr
  lw := by rw [List.length_set]; exact G.lw
  get := fun k hk => by
    by_cases e : i = k
    · subst e
      refine ⟨d, vs, z, ns, b, t, ?_, ?_, hm, hi, hr, hb⟩
      · rw [List.getElem?_set_self (by rw [G.lr]; exact hk)]
      · rw [List.getElem?_set_self (by rw [G.lw]; exact hk)]
    · obtain ⟨r, vs, z, ns, b, t, a, c, d, e'⟩ := G.get k hk
      exact ⟨r, vs, z, ns, b, t, by rw [List.getElem?_set_ne e]; exact a, by rw [List.getElem?_set_ne e]; exact c, d, e'⟩
/-- what stands between the deeds -/
noncomputable def RunK (w : World) (loose : List Str) (mean : ExcName → Option Value) (mg mb : Str → Option Value) (base : Heap) (A₀ : Around) (outer : List Env) (g₀ : Heap) (L : Addr) (two : Value) (x y : Int) (_i : Nat) (g : Heap) (m : Str → Option Value) (nl : List (Addr × Obj)) : Prop :=
  ∃ (R W : Addr) (ra wa : List Value) (zR zW : Nat) (os ot : Obj) (bS : Array UInt8) (tS : Tok) (own : List (Addr × Obj)),
    nl = (R, PySem.W.listOf ra.toArray zR) :: (W, PySem.W.listOf wa.toArray zW) :: (L + 1 + 1, os) :: (L + 1, ot) :: own ∧ AllNe R ((W, PySem.W.listOf wa.toArray zW) :: (L + 1 + 1, os) :: (L + 1, ot) :: own) ∧ AllNe W ((L + 1 + 1, os) :: (L + 1, ot) :: own) ∧ Regs own x y ra wa ∧
    os.data = .cell (some (.bytes bS tS)) ∧ KBw.bInts bS = signL x y ∧ ot.data = .cell (some two) ∧ Sees m [(Str.ofString "rows", .ref R), (Str.ofString "writings", .ref W)] ∧
    KtsTurn (outer.filterMap (·.frame)) g₀ g ∧ Below A₀ base outer g ∧ (hd.heap_1 w.params).In g ∧ Top view loose mean mg mb g ∧ KtsDicts (outer.filterMap (·.frame)) g
theorem zeros_are (t : Tok) : IntsAre (List.replicate (Int.toNat 8) [Value.int 0 t]).flatten [0, 0, 0, 0, 0, 0, 0, 0] := .cons _ _ (.cons _ _ (.cons _ _ (.cons _ _ (.cons _ _ (.cons _ _ (.cons _ _ (.cons _ _ .nil)))))))
theorem runK_start {w : World} {loose : List Str} {mean : ExcName → Option Value} {mg mb : Str → Option Value} {base : Heap} {A₀ : Around} {outer : List Env} {g h : Heap} {L W R a0 a1 a2 q0 q1 q2 : Addr} {two : Value} {x y : Int} {m : Str → Option Value} {b0 b1 b2 bS : Array UInt8} {t0 t1 t2 tS : Tok} {zW zR z0 z1 z2 : Nat} {u0 u1 u2 : Tok} {o0 o1 o2 os ot : Obj}
    (_F : Fr g L h m) (N : News g L h [(W, PySem.W.listOf (List.toArray [.bytes b0 t0, .bytes b1 t1, .bytes b2 t2]) zW), (R, PySem.W.listOf #[.ref a0, .ref a1, .ref a2] zR), (a2, PySem.W.listOf (List.replicate (Int.toNat 8) [Value.int 0 u2]).flatten.toArray z2), (q2, o2), (a1, PySem.W.listOf (List.replicate (Int.toNat 8) [Value.int 0 u1]).flatten.toArray z1), (q1, o1), (a0, PySem.W.listOf (List.replicate (Int.toNat 8) [Value.int 0 u0]).flatten.toArray z0), (q0, o0), (L + 1 + 1, os), (L + 1, ot)])
    (hW : AllNe W [(R, PySem.W.listOf #[.ref a0, .ref a1, .ref a2] zR), (a2, PySem.W.listOf (List.replicate (Int.toNat 8) [Value.int 0 u2]).flatten.toArray z2), (q2, o2), (a1, PySem.W.listOf (List.replicate (Int.toNat 8) [Value.int 0 u1]).flatten.toArray z1), (q1, o1), (a0, PySem.W.listOf (List.replicate (Int.toNat 8) [Value.int 0 u0]).flatten.toArray z0), (q0, o0), (L + 1 + 1, os), (L + 1, ot)])
    (hR : a2 < R ∧ q2 < R ∧ a1 < R ∧ q1 < R ∧ a0 < R ∧ q0 < R ∧ L + 1 + 1 < R ∧ L + 1 < R)
    (h0 : KBw.bInts b0 = [0, 0, 0, 0, 0, 0, 0, 0].map (letter x y)) (h1 : KBw.bInts b1 = [0, 0, 0, 0, 0, 0, 0, 0].map (letter x y)) (h2 : KBw.bInts b2 = [0, 0, 0, 0, 0, 0, 0, 0].map (letter x y))
    (hos : os.data = .cell (some (.bytes bS tS))) (hbS : KBw.bInts bS = signL x y) (hot : ot.data = .cell (some two)) (hs : Sees m [(Str.ofString "rows", .ref R), (Str.ofString "writings", .ref W)])
    (B : Below A₀ base outer g) (X : (hd.heap_1 w.params).In g) (T : Top view loose mean mg mb g) (K : KtsDicts (outer.filterMap (·.frame)) g) : ∃ nl, News g L h nl ∧ RunK w loose mean mg mb base A₀ outer g L two x y 0 g m nl := by
  obtain ⟨v0, v1, v2, v3, v4, v5, v6, v7, v8, _⟩ := hW
  obtain ⟨c1, c2, c3, c4, c5, c6, c7, c8⟩ := hR
  have hG : Row [0, 0, 0, 0, 0, 0, 0, 0] := ⟨rfl, by decide⟩
  refine ⟨_, fun p hp => N p ?_, R, W, [.ref a0, .ref a1, .ref a2], [.bytes b0 t0, .bytes b1 t1, .bytes b2 t2], zR, zW, os, ot, bS, tS,
    [(a2, PySem.W.listOf (List.replicate (Int.toNat 8) [Value.int 0 u2]).flatten.toArray z2), (q2, o2), (a1, PySem.W.listOf (List.replicate (Int.toNat 8) [Value.int 0 u1]).flatten.toArray z1), (q1, o1), (a0, PySem.W.listOf (List.replicate (Int.toNat 8) [Value.int 0 u0]).flatten.toArray z0), (q0, o0)], rfl, ?_, ?_, ?_, hos, hbS, hot, hs, KtsTurn.refl, B, X, T, K⟩
  · rcases List.mem_cons.mp hp with rfl | hp
    · exact .tail _ (.head _)
    rcases List.mem_cons.mp hp with rfl | hp
    · exact .head _
    rcases List.mem_cons.mp hp with rfl | hp
    · exact .tail _ (.tail _ (.tail _ (.tail _ (.tail _ (.tail _ (.tail _ (.tail _ (.head _))))))))
    rcases List.mem_cons.mp hp with rfl | hp
    · exact .tail _ (.tail _ (.tail _ (.tail _ (.tail _ (.tail _ (.tail _ (.tail _ (.tail _ (.head _)))))))))
    exact .tail _ (.tail _ (List.mem_append_left [(L + 1 + 1, os), (L + 1, ot)] hp))
  · exact ⟨Ne.symm v0, Nat.ne_of_lt c7, Nat.ne_of_lt c8, Nat.ne_of_lt c1, Nat.ne_of_lt c2, Nat.ne_of_lt c3, Nat.ne_of_lt c4, Nat.ne_of_lt c5, Nat.ne_of_lt c6, trivial⟩
  · exact ⟨v7, v8, v1, v2, v3, v4, v5, v6, trivial⟩
  · refine ⟨rfl, rfl, fun k hk => ?_⟩
    match k, hk with
    | 0, _ => exact ⟨a0, _, z0, _, b0, t0, rfl, rfl, .tail _ (.tail _ (.tail _ (.tail _ (.head _)))), zeros_are u0, hG, h0⟩
    | 1, _ => exact ⟨a1, _, z1, _, b1, t1, rfl, rfl, .tail _ (.tail _ (.head _)), zeros_are u1, hG, h1⟩
    | 2, _ => exact ⟨a2, _, z2, _, b2, t2, rfl, rfl, .head _, zeros_are u2, hG, h2⟩
/-- the signs stand -/
noncomputable def AtSigns (g : Heap) (L D : Addr) (two : Value) (x y : Int) (s : Shared) (f : Flow) (s' : Shared) : Prop := f = .next ∧ ∃ h tk m os ot b tb, s' = { s with heap := h, toks := tk } ∧ Sees m [(Str.ofString "deeds", .ref D)] ∧ Fr g L h m ∧ News g L h [(L + 1 + 1, os), (L + 1, ot)] ∧ os.data = .cell (some (.bytes b tb)) ∧ KBw.bInts b = signL x y ∧ ot.data = .cell (some two)
theorem signs_first {M : Model} {A : Around} {E : Value → Shared → Prop} {s : Shared} {env : Env} {st : Stmt} {rest : List Stmt} {Q : Flow → Shared → Prop} {g : Heap} {L D : Addr} {two : Value} {x y : Int} {m0 : Str → Option Value} (_F : Fr g L s.heap m0) (h : wpAny M A (exec st env) (fun f s' => AtSigns g L D two x y s f s') E s)
    (k : ∀ h1 tk1 m os ot b tb, Sees m [(Str.ofString "deeds", .ref D)] → Fr g L h1 m → News g L h1 [(L + 1 + 1, os), (L + 1, ot)] → os.data = .cell (some (.bytes b tb)) → KBw.bInts b = signL x y → ot.data = .cell (some two) → wpAny M A (execs rest env) Q E { s with heap := h1, toks := tk1 }) : wpAny M A (execs (st :: rest) env) Q E s :=
  execs_first (n := 0) (Nat.zero_le _) h fun f s' z _ => by
    obtain ⟨rfl, h1, tk1, m, os, ot, b, tb, rfl, a1, a2, a3, a4, a5, a6⟩ := z
    exact ⟨rfl, k h1 tk1 m os ot b tb a1 a2 a3 a4 a5 a6⟩
/-- rows and writings stand -/
noncomputable def AtRegs (w : World) (loose : List Str) (mean : ExcName → Option Value) (mg mb : Str → Option Value) (base : Heap) (A₀ : Around) (outer : List Env) (g : Heap) (L D : Addr) (two : Value) (x y : Int) (s : Shared) (f : Flow) (s' : Shared) : Prop := f = .next ∧ ∃ h tk m nl, s' = { s with heap := h, toks := tk } ∧ Sees m [(Str.ofString "deeds", .ref D)] ∧ Fr g L h m ∧ News g L h nl ∧ RunK w loose mean mg mb base A₀ outer g L two x y 0 g m nl
theorem regs_first {M : Model} {A : Around} {E : Value → Shared → Prop} {s : Shared} {env : Env} {a b : Stmt} {rest : List Stmt} {Q : Flow → Shared → Prop} {w : World} {loose : List Str} {mean : ExcName → Option Value} {mg mb : Str → Option Value} {base : Heap} {A₀ : Around} {outer : List Env} {g : Heap} {L D : Addr} {two : Value} {x y : Int} {m0 : Str → Option Value} (_F : Fr g L s.heap m0)
    (h : wpAny M A (exec a env) (fun f s' => f = .next ∧ wpAny M A (exec b env) (fun f s' => AtRegs w loose mean mg mb base A₀ outer g L D two x y s f s') E s') E s)
    (k : ∀ h1 tk1 m nl, Sees m [(Str.ofString "deeds", .ref D)] → Fr g L h1 m → News g L h1 nl → RunK w loose mean mg mb base A₀ outer g L two x y 0 g m nl → wpAny M A (execs rest env) Q E { s with heap := h1, toks := tk1 }) : wpAny M A (execs (a :: b :: rest) env) Q E s := by
  rw [execs_cons]
  refine wpAny_bind (wpAny_mono h (fun f s' z => ?_) fun _ _ e => e)
  obtain ⟨rfl, z⟩ := z
  show wpAny M A (execs (b :: rest) env) Q E s'
  rw [execs_cons]
  refine wpAny_bind (wpAny_mono z (fun f s' z => ?_) fun _ _ e => e)
  obtain ⟨rfl, h1, tk1, m, nl, rfl, a1, a2, a3, a4⟩ := z
  exact k h1 tk1 m nl a1 a2 a3 a4
/-- a deed's five numbers stand -/
noncomputable def AtInts (g : Heap) (L R W : Addr) (nl : List (Addr × Obj)) (s : Shared) (f : Flow) (s' : Shared) : Prop := f = .next ∧ ∃ h tk m kd iv jv kv pv t0 t1 t2 t3 t4, s' = { s with heap := h, toks := tk } ∧
  Sees m [(Str.ofString "kind", .int kd t0), (Str.ofString "i", .int iv t1), (Str.ofString "j", .int jv t2), (Str.ofString "k", .int kv t3), (Str.ofString "p", .int pv t4), (Str.ofString "rows", .ref R), (Str.ofString "writings", .ref W)] ∧ Fr g L h m ∧ News g L h nl ∧
  0 ≤ kd ∧ kd < 13 ∧ 0 ≤ iv ∧ iv < 3 ∧ 0 ≤ jv ∧ jv < 3 ∧ kv = (iv + 1).fmod 3 ∧ 0 ≤ pv ∧ pv < 10000
theorem ints_first {M : Model} {A : Around} {E : Value → Shared → Prop} {s : Shared} {env : Env} {a b c d e : Stmt} {rest : List Stmt} {Q : Flow → Shared → Prop} {g : Heap} {L R W : Addr} {nl : List (Addr × Obj)} {m0 : Str → Option Value} (_F : Fr g L s.heap m0) (_N : News g L s.heap nl) (hR : m0 (Str.ofString "rows") = some (.ref R)) (hW : m0 (Str.ofString "writings") = some (.ref W))
    (h : wpAny M A (exec a env) (fun f s' => f = .next ∧ wpAny M A (exec b env) (fun f s' => f = .next ∧ wpAny M A (exec c env) (fun f s' => f = .next ∧ wpAny M A (exec d env) (fun f s' => f = .next ∧ wpAny M A (exec e env) (fun f s' => AtInts g L R W nl s f s') E s') E s') E s') E s') E s)
    (k : ∀ h1 tk1 m kd iv jv kv pv t0 t1 t2 t3 t4, Sees m [(Str.ofString "kind", .int kd t0), (Str.ofString "i", .int iv t1), (Str.ofString "j", .int jv t2), (Str.ofString "k", .int kv t3), (Str.ofString "p", .int pv t4), (Str.ofString "rows", .ref R), (Str.ofString "writings", .ref W)] → Fr g L h1 m → News g L h1 nl →
      0 ≤ kd → kd < 13 → 0 ≤ iv → iv < 3 → 0 ≤ jv → jv < 3 → kv = (iv + 1).fmod 3 → 0 ≤ pv → pv < 10000 → wpAny M A (execs rest env) Q E { s with heap := h1, toks := tk1 }) : wpAny M A (execs (a :: b :: c :: d :: e :: rest) env) Q E s := by
  rw [execs_cons]
  refine wpAny_bind (wpAny_mono h (fun f s' z => ?_) fun _ _ e => e)
  obtain ⟨rfl, z⟩ := z
  show wpAny M A (execs (b :: c :: d :: e :: rest) env) Q E s'
  rw [execs_cons]
  refine wpAny_bind (wpAny_mono z (fun f s' z => ?_) fun _ _ e => e)
  obtain ⟨rfl, z⟩ := z
  show wpAny M A (execs (c :: d :: e :: rest) env) Q E s'
  rw [execs_cons]
  refine wpAny_bind (wpAny_mono z (fun f s' z => ?_) fun _ _ e => e)
  obtain ⟨rfl, z⟩ := z
  show wpAny M A (execs (d :: e :: rest) env) Q E s'
  rw [execs_cons]
  refine wpAny_bind (wpAny_mono z (fun f s' z => ?_) fun _ _ e => e)
  obtain ⟨rfl, z⟩ := z
  show wpAny M A (execs (e :: rest) env) Q E s'
  rw [execs_cons]
  refine wpAny_bind (wpAny_mono z (fun f s' z => ?_) fun _ _ e => e)
  obtain ⟨rfl, h1, tk1, m, kd, iv, jv, kv, pv, t0, t1, t2, t3, t4, rfl, a1, a2, a3, a4, a5, a6, a7, a8, a9, a10, a11, a12⟩ := z
  exact k h1 tk1 m kd iv jv kv pv t0 t1 t2 t3 t4 a1 a2 a3 a4 a5 a6 a7 a8 a9 a10 a11 a12
theorem mono_next {M : Model} {A : Around} {E : Value → Shared → Prop} {s : Shared} {env : Env} {t : Sem Flow} {rest : List Stmt} {Q : Flow → Shared → Prop} {P : Flow → Shared → Prop} (h : wpAny M A t P E s) (k : ∀ f s', P f s' → f = .next ∧ wpAny M A (execs rest env) Q E s') :
    wpAny M A t (fun f s' => match f with | .next => wpAny M A (execs rest env) Q E s' | f => Q f s') E s :=
  wpAny_mono h (fun f s' z => by obtain ⟨rfl, y⟩ := k f s' z; exact y) fun _ _ e => e
section
variable {w : World} {g : Heap} {A : Around} {s : Shared} {L : Addr} {m : Str → Option Value} {news : List (Addr × Obj)} {t : Sem Value} {E : Value → Shared → Prop} {Q : Value → Shared → Prop}
theorem use_word {x : Str} {g₀ : Heap} (F : Fr g L s.heap m) (N : News g L s.heap news) (c : wpAny (model pr w) A t (Out s (RDue g₀ (.word x))) NoE s)
    (k : ∀ tk h' tk', Fr g L h' m → News g L h' news → Q (.str x tk) { s with heap := h', toks := tk' }) : wpAny (model pr w) A t Q E s := by
  refine wpAny_mono c (fun v s' o => ?_) fun _ _ e => e.elim
  obtain ⟨h', tk', rfl, hk, tk, rfl⟩ := o
  exact k tk h' tk' (Fr.keepK F hk) (News.keepK N hk)
end
theorem sgn_in {ns : List Int} (h : Row ns) : -140737488355328 ≤ sgn (val ns) ∧ sgn (val ns) < 140737488355328 := by
  have a := val_in h.2
  rw [h.1] at a
  have e : (64 : Int) ^ 8 = 281474976710656 := by decide
  rw [e] at a
  unfold sgn
  split <;> (first | lia | omega)
noncomputable def RStr (x : Str) : Value → Heap → Prop := fun v _ => ∃ t, v = .str x t
section
variable {w : World} {loose : List Str} {mean : ExcName → Option Value} {mg mb : Str → Option Value} {base : Heap} {env : Env} {outer : List Env} {A : Around} {s : Shared}
  {l : Addr} {vs : List Value} {ns : List Int} {l2 : Addr} {vs2 : List Value} {ns2 : List Int} {kd p : Int} {t t1 t2 t3 : Tok}
theorem due_gives_row (C : CanB w loose mean mg mb base env outer A s.heap) (hr : A.depth + 40 < recursionLimit) (hu : A.units + 200 < cLine) (hh : A.handled = none)
   (hl : s.heap.IsList l vs.toArray) (hi : IntsAre vs ns) (hn : Row ns) (hl2 : s.heap.IsList l2 vs2.toArray) (hi2 : IntsAre vs2 ns2) (hn2 : Row ns2) (hk : 0 ≤ kd) (hk2 : kd < 13) (hp : 0 ≤ p) (hp2 : p < 10000) {nr : List Int} (e : dueF kd ns ns2 p = .row nr) :
   wpAny (model pr w) A (call (.ref 287) [.int kd t, .ref l, .ref l2, .int p t3]) (Out s (RList s.heap nr)) NoE s := by
  have z := due_tells (t := t) (t3 := t3) C hr hu hh hl hi hn.1 hl2 hi2 hn2.1 hn.2 hn2.2 hk hk2 hp hp2
  rw [e] at z; exact z
theorem due_gives_word (C : CanB w loose mean mg mb base env outer A s.heap) (hr : A.depth + 40 < recursionLimit) (hu : A.units + 200 < cLine) (hh : A.handled = none)
   (hl : s.heap.IsList l vs.toArray) (hi : IntsAre vs ns) (hn : Row ns) (hl2 : s.heap.IsList l2 vs2.toArray) (hi2 : IntsAre vs2 ns2) (hn2 : Row ns2) (hk : 0 ≤ kd) (hk2 : kd < 13) (hp : 0 ≤ p) (hp2 : p < 10000) {a : Str} (e : dueF kd ns ns2 p = .word a) :
   wpAny (model pr w) A (call (.ref 287) [.int kd t, .ref l, .ref l2, .int p t3]) (Out s (RDue s.heap (.word a))) NoE s := by
  have z := due_tells (t := t) (t3 := t3) C hr hu hh hl hi hn.1 hl2 hi2 hn2.1 hn.2 hn2.2 hk hk2 hp hp2
  rw [e] at z; exact z
theorem told_gives_num (C : CanS w loose mean mg mb base env outer A s.heap) (hr : A.depth + 10 < recursionLimit) (hu : A.units + 100 < cLine) (hh : A.handled = none) (hn : Row ns) (hn2 : Row ns2) (hk : 0 ≤ kd) (hk2 : kd < 13) (hp : 0 ≤ p) (hp2 : p < 10000) {z : Int} (e : toldF kd (sgn (val ns)) (sgn (val ns2)) p = .num z) :
   wpAny (model pr w) A (call (.ref 294) [.int kd t, .int (sgn (val ns)) t1, .int (sgn (val ns2)) t2, .int p t3]) (OutS env outer s (RInt z)) NoE s := by
  have z := told_tells (t := t) (t1 := t1) (t2 := t2) (t3 := t3) C hr hu hh hk hk2 (sgn_in hn).1 (sgn_in hn).2 (sgn_in hn2).1 (sgn_in hn2).2 hp hp2
  rw [e] at z; exact z
theorem told_gives_word (C : CanS w loose mean mg mb base env outer A s.heap) (hr : A.depth + 10 < recursionLimit) (hu : A.units + 100 < cLine) (hh : A.handled = none) (hn : Row ns) (hn2 : Row ns2) (hk : 0 ≤ kd) (hk2 : kd < 13) (hp : 0 ≤ p) (hp2 : p < 10000) {a : Str} (e : toldF kd (sgn (val ns)) (sgn (val ns2)) p = .word a) :
   wpAny (model pr w) A (call (.ref 294) [.int kd t, .int (sgn (val ns)) t1, .int (sgn (val ns2)) t2, .int p t3]) (OutS env outer s (RStr a)) NoE s := by
  have z := told_tells (t := t) (t1 := t1) (t2 := t2) (t3 := t3) C hr hu hh hk hk2 (sgn_in hn).1 (sgn_in hn).2 (sgn_in hn2).1 (sgn_in hn2).2 hp hp2
  rw [e] at z; exact z
end
theorem outS_env {env env' : Env} {outer : List Env} {s : Shared} {R : Value → Heap → Prop} {v : Value} {s' : Shared} (e : env.frame = env'.frame) (o : OutS env outer s R v s') : OutS env' outer s R v s' := by
  have z : (env :: outer).filterMap (·.frame) = (env' :: outer).filterMap (·.frame) := by simp only [List.filterMap_cons, e]
  obtain ⟨h', tk', a, b, c⟩ := o
  rw [z] at b
  exact ⟨h', tk', a, b, c⟩
section
variable {w : World} {loose : List Str} {mean : ExcName → Option Value} {mg mb : Str → Option Value} {base g : Heap} {env : Env} {outer : List Env} {A A₀ : Around} {s : Shared} {L a : Addr} {m : Str → Option Value} {news : List (Addr × Obj)}
  {t : Sem Value} {E : Value → Shared → Prop} {Q : Value → Shared → Prop}
theorem use_SC {R : Value → Heap → Prop} (K : Below A₀ base outer g) (F : Fr g L s.heap m) (N : News g L s.heap news) (XB : (hd.heap_1 w.params).In base) (TB : Top view loose mean mg mb base) (D : KtsDicts (outer.filterMap (·.frame)) g)
    (c : wpAny (model pr w) A t (OutS env outer s R) NoE s)
    (k : ∀ g' v h' tk', KtsTurn (outer.filterMap (·.frame)) g g' → Below A₀ base outer g' → (hd.heap_1 w.params).In g' → Top view loose mean mg mb g' → KtsDicts (outer.filterMap (·.frame)) g' → Fr g' L h' m → News g' L h' news → R v h' → Q v { s with heap := h', toks := tk' }) (hf : env.frame = some L := by rfl) : wpAny (model pr w) A t Q E s :=
  use_S (name := Str.ofString "f") (scope := env.scope) (a := L) (cd := .none) K F N XB TB D (wpAny_mono c (fun _ _ o => outS_env hf o) fun _ _ e => e.elim) k
end
/-- the register is written anew, or stands as it was -/
noncomputable def AtB (w : World) (loose : List Str) (mean : ExcName → Option Value) (mg mb : Str → Option Value) (base : Heap) (A₀ : Around) (outer : List Env) (g₀ : Heap) (L I D : Addr) (oI : Obj) (items : Array Value) (two : Value) (x y iv kv pv : Int) (s : Shared) (f : Flow) (s' : Shared) : Prop := f = .next ∧ ∃ g h tk m nl t1 t3 t4, s' = { s with heap := h, toks := tk } ∧
  Sees m [(Str.ofString "i", .int iv t1), (Str.ofString "k", .int kv t3), (Str.ofString "p", .int pv t4)] ∧ Fr g L h m ∧ News g L h ((I, oI) :: nl) ∧ (∀ p ∈ nl, p.1 ≠ I) ∧ g.IsList D items ∧ RunK w loose mean mg mb base A₀ outer g₀ L two x y 0 g m nl
theorem three_first {M : Model} {A : Around} {E : Value → Shared → Prop} {s : Shared} {env : Env} {a b c : Stmt} {rest : List Stmt} {Q : Flow → Shared → Prop} {P : Flow → Shared → Prop}
    (h : wpAny M A (exec a env) (fun f s' => f = .next ∧ wpAny M A (exec b env) (fun f s' => f = .next ∧ wpAny M A (exec c env) P E s') E s') E s)
    (k : ∀ f s', P f s' → f = .next ∧ wpAny M A (execs rest env) Q E s') : wpAny M A (execs (a :: b :: c :: rest) env) Q E s := by
  rw [execs_cons]
  refine wpAny_bind (wpAny_mono h (fun f s' z => ?_) fun _ _ e => e)
  obtain ⟨rfl, z⟩ := z
  show wpAny M A (execs (b :: c :: rest) env) Q E s'
  rw [execs_cons]
  refine wpAny_bind (wpAny_mono z (fun f s' z => ?_) fun _ _ e => e)
  obtain ⟨rfl, z⟩ := z
  show wpAny M A (execs (c :: rest) env) Q E s'
  rw [execs_cons]
  refine wpAny_bind (wpAny_mono z (fun f s' z => ?_) fun _ _ e => e)
  obtain ⟨rfl, y⟩ := k f s' z
  exact y
theorem regs_three {M : Model} {A : Around} {E : Value → Shared → Prop} {s : Shared} {env : Env} {a b c : Stmt} {rest : List Stmt} {Q : Flow → Shared → Prop} {w : World} {loose : List Str} {mean : ExcName → Option Value} {mg mb : Str → Option Value} {base : Heap} (A₀ : Around) (outer : List Env) (g₀ : Heap) {g1 : Heap} {L : Addr} (I D : Addr) (oI : Obj) (items : Array Value) (two : Value) (x y iv kv pv : Int) {m0 : Str → Option Value} (_F : Fr g1 L s.heap m0) (_P : Top view loose mean mg mb g1) (_X : (hd.heap_1 w.params).In base)
    (h : wpAny M A (exec a env) (fun f s' => f = .next ∧ wpAny M A (exec b env) (fun f s' => f = .next ∧ wpAny M A (exec c env) (fun f s' => AtB w loose mean mg mb base A₀ outer g₀ L I D oI items two x y iv kv pv s f s') E s') E s') E s)
    (k : ∀ g h tk m nl t1 t3 t4, Sees m [(Str.ofString "i", .int iv t1), (Str.ofString "k", .int kv t3), (Str.ofString "p", .int pv t4)] → Fr g L h m → News g L h ((I, oI) :: nl) → (∀ p ∈ nl, p.1 ≠ I) → g.IsList D items → RunK w loose mean mg mb base A₀ outer g₀ L two x y 0 g m nl → wpAny M A (execs rest env) Q E { s with heap := h, toks := tk }) : wpAny M A (execs (a :: b :: c :: rest) env) Q E s := by
  refine three_first h fun f s' z => ?_
  obtain ⟨rfl, g, h, tk, m, nl, t1, t3, t4, rfl, a1, a2, a3, a4, a5, a6⟩ := z
  exact ⟨rfl, k g h tk m nl t1 t3 t4 a1 a2 a3 a4 a5 a6⟩
theorem six_val {z : Int} {nr : List Int} (h : val nr = z % 281474976710656) : kval [z.fmod (2 ^ Int.toNat 48) / 256 / 256 / 256 / 256 / 256 % 256, z.fmod (2 ^ Int.toNat 48) / 256 / 256 / 256 / 256 % 256, z.fmod (2 ^ Int.toNat 48) / 256 / 256 / 256 % 256, z.fmod (2 ^ Int.toNat 48) / 256 / 256 % 256, z.fmod (2 ^ Int.toNat 48) / 256 % 256, z.fmod (2 ^ Int.toNat 48) % 256] = val nr := by
  have e : (2 : Int) ^ Int.toNat 48 = 281474976710656 := by decide
  rw [h, e, Int.fmod_eq_emod_of_nonneg _ (by decide)]
  have h0 := Int.emod_nonneg z (b := 281474976710656) (by decide)
  have h1 := Int.emod_lt_of_pos z (b := 281474976710656) (by decide)
  generalize z % 281474976710656 = v at h0 h1
  simp only [kval, List.foldl_cons, List.foldl_nil]
  (first | lia | omega)
section
variable {w : World} {loose : List Str} {mean : ExcName → Option Value} {mg mb : Str → Option Value} {base g₀ g g7 h : Heap} {A₀ : Around} {outer : List Env} {L I D R W : Addr} {oI oR oW os ot : Obj} {items : Array Value} {two : Value} {x y iv kv pv : Int} {s : Shared} {tk : Nat} {m : Str → Option Value} {own : List (Addr × Obj)} {ra wa : List Value} {zR zW : Nat} {bS : Array UInt8} {tS t1 t3 t4 : Tok}
theorem atB_row {d : Addr} {vd : List Value} {zd : Nat} {nr : List Int} {b : Array UInt8} {t : Tok} (F : Fr g7 L h m) (N : News g7 L h ((d, PySem.W.listOf (List.toArray vd) zd) :: (I, oI) :: (R, PySem.W.listOf (List.toArray (ra.set iv.toNat (.ref d))) zR) :: (W, PySem.W.listOf (List.toArray (wa.set iv.toNat (.bytes b t))) zW) :: (L + 1 + 1, os) :: (L + 1, ot) :: own))
    (hne : AllNe d ((I, oI) :: (R, oR) :: (W, oW) :: (L + 1 + 1, os) :: (L + 1, ot) :: own)) (hI : ∀ p ∈ (R, oR) :: (W, oW) :: (L + 1 + 1, os) :: (L + 1, ot) :: own, p.1 ≠ I) (hR : AllNe R ((W, oW) :: (L + 1 + 1, os) :: (L + 1, ot) :: own)) (hW : AllNe W ((L + 1 + 1, os) :: (L + 1, ot) :: own)) (G : Regs own x y ra wa) (hvd : IntsAre vd nr) (hrow : Row nr) (hb : KBw.bInts b = nr.map (letter x y))
    (hos : os.data = .cell (some (.bytes bS tS))) (hbS : KBw.bInts bS = signL x y) (hot : ot.data = .cell (some two)) (hs : Sees m [(Str.ofString "rows", .ref R), (Str.ofString "writings", .ref W)]) (hs2 : Sees m [(Str.ofString "i", .int iv t1), (Str.ofString "k", .int kv t3), (Str.ofString "p", .int pv t4)])
    (T : KtsTurn (outer.filterMap (·.frame)) g₀ g) (T7 : KtsTurn (outer.filterMap (·.frame)) g g7) (B : Below A₀ base outer g7) (X : (hd.heap_1 w.params).In g7) (P : Top view loose mean mg mb g7) (K : KtsDicts (outer.filterMap (·.frame)) g7) (hD : g.IsList D items) :
    AtB w loose mean mg mb base A₀ outer g₀ L I D oI items two x y iv kv pv s .next { s with heap := h, toks := tk } := by
  refine ⟨rfl, g7, h, tk, m, _, t1, t3, t4, rfl, hs2, F, fun p hp => N p ?_, ?_, turn_list T7 hD, R, W, ra.set iv.toNat (.ref d), wa.set iv.toNat (.bytes b t), zR, zW, os, ot, bS, tS, (d, PySem.W.listOf (List.toArray vd) zd) :: own, rfl, ⟨hR.1, hR.2.1, hR.2.2.1, fun e => hne.2.1 e.symm, hR.2.2.2⟩, ⟨hW.1, hW.2.1, fun e => hne.2.2.1 e.symm, hW.2.2⟩, (G.more _).set (.head _) hvd hrow hb, hos, hbS, hot, hs, T.trans T7, B, X, P, K⟩
  · rcases List.mem_cons.mp hp with rfl | hp
    · exact .tail _ (.head _)
    rcases List.mem_cons.mp hp with rfl | hp
    · exact .tail _ (.tail _ (.head _))
    rcases List.mem_cons.mp hp with rfl | hp
    · exact .tail _ (.tail _ (.tail _ (.head _)))
    rcases List.mem_cons.mp hp with rfl | hp
    · exact .tail _ (.tail _ (.tail _ (.tail _ (.head _))))
    rcases List.mem_cons.mp hp with rfl | hp
    · exact .tail _ (.tail _ (.tail _ (.tail _ (.tail _ (.head _)))))
    rcases List.mem_cons.mp hp with rfl | hp
    · exact .head _
    exact .tail _ (.tail _ (.tail _ (.tail _ (.tail _ (.tail _ hp)))))
  · intro p hp
    rcases List.mem_cons.mp hp with rfl | hp
    · exact hI (R, oR) (.head _)
    rcases List.mem_cons.mp hp with rfl | hp
    · exact hI (W, oW) (.tail _ (.head _))
    rcases List.mem_cons.mp hp with rfl | hp
    · exact hI _ (.tail _ (.tail _ (.head _)))
    rcases List.mem_cons.mp hp with rfl | hp
    · exact hI _ (.tail _ (.tail _ (.tail _ (.head _))))
    rcases List.mem_cons.mp hp with rfl | hp
    · exact fun e => hne.1 e.symm
    · exact hI _ (.tail _ (.tail _ (.tail _ (.tail _ hp))))
theorem atB_word (F : Fr g7 L h m) (N : News g7 L h ((I, oI) :: (R, PySem.W.listOf (List.toArray ra) zR) :: (W, PySem.W.listOf (List.toArray wa) zW) :: (L + 1 + 1, os) :: (L + 1, ot) :: own))
    (hI : ∀ p ∈ (R, PySem.W.listOf (List.toArray ra) zR) :: (W, PySem.W.listOf (List.toArray wa) zW) :: (L + 1 + 1, os) :: (L + 1, ot) :: own, p.1 ≠ I) (hR : AllNe R ((W, PySem.W.listOf (List.toArray wa) zW) :: (L + 1 + 1, os) :: (L + 1, ot) :: own)) (hW : AllNe W ((L + 1 + 1, os) :: (L + 1, ot) :: own)) (G : Regs own x y ra wa)
    (hos : os.data = .cell (some (.bytes bS tS))) (hbS : KBw.bInts bS = signL x y) (hot : ot.data = .cell (some two)) (hs : Sees m [(Str.ofString "rows", .ref R), (Str.ofString "writings", .ref W)]) (hs2 : Sees m [(Str.ofString "i", .int iv t1), (Str.ofString "k", .int kv t3), (Str.ofString "p", .int pv t4)])
    (T : KtsTurn (outer.filterMap (·.frame)) g₀ g) (T7 : KtsTurn (outer.filterMap (·.frame)) g g7) (B : Below A₀ base outer g7) (X : (hd.heap_1 w.params).In g7) (P : Top view loose mean mg mb g7) (K : KtsDicts (outer.filterMap (·.frame)) g7) (hD : g.IsList D items) :
    AtB w loose mean mg mb base A₀ outer g₀ L I D oI items two x y iv kv pv s .next { s with heap := h, toks := tk } :=
  ⟨rfl, g7, h, tk, m, _, t1, t3, t4, rfl, hs2, F, N, hI, turn_list T7 hD, R, W, ra, wa, zR, zW, os, ot, bS, tS, own, rfl, hR, hW, G, hos, hbS, hot, hs, T.trans T7, B, X, P, K⟩
end
theorem envOfC_locals {n : Str} {sc : Scope} {L a : Addr} {cd : Value} : (envOfC n sc L a cd).locals = L := rfl
theorem gend_of {w : World} {loose : List Str} {mean : ExcName → Option Value} {mg mb : Str → Option Value} {base g₀ g g' h : Heap} {A₀ : Around} {outer : List Env} {L I D R W Dl : Addr} {oI oD os ot : Obj} {items : Array Value} {two : Value} {x y : Int} {s : Shared} {tk : Nat} {m : Str → Option Value} {own : List (Addr × Obj)} {ra wa : List Value} {zR zW i : Nat} {bS : Array UInt8} {tS : Tok}
    (F : Fr g' L h m) (N : News g' L h ((Dl, oD) :: (I, oI) :: (R, PySem.W.listOf (List.toArray ra) zR) :: (W, PySem.W.listOf (List.toArray wa) zW) :: (L + 1 + 1, os) :: (L + 1, ot) :: own))
    (hI : ∀ p ∈ (R, PySem.W.listOf (List.toArray ra) zR) :: (W, PySem.W.listOf (List.toArray wa) zW) :: (L + 1 + 1, os) :: (L + 1, ot) :: own, p.1 ≠ I) (hR : AllNe R ((W, PySem.W.listOf (List.toArray wa) zW) :: (L + 1 + 1, os) :: (L + 1, ot) :: own)) (hW : AllNe W ((L + 1 + 1, os) :: (L + 1, ot) :: own)) (G : Regs own x y ra wa)
    (hos : os.data = .cell (some (.bytes bS tS))) (hbS : KBw.bInts bS = signL x y) (hot : ot.data = .cell (some two)) (hs : Sees m [(Str.ofString "rows", .ref R), (Str.ofString "writings", .ref W)])
    (T : KtsTurn (outer.filterMap (·.frame)) g₀ g) (T' : KtsTurn (outer.filterMap (·.frame)) g g') (B : Below A₀ base outer g') (X : (hd.heap_1 w.params).In g') (P : Top view loose mean mg mb g') (K : KtsDicts (outer.filterMap (·.frame)) g') (hD : g.IsList D items) :
    GEnd L D I oI items s (RunK w loose mean mg mb base A₀ outer g₀ L two x y i) { s with heap := h, toks := tk } :=
  ⟨g', h, tk, m, _, rfl, F, fun p hp => N p (.tail _ hp), hI, turn_list T' hD, R, W, ra, wa, zR, zW, os, ot, bS, tS, own, rfl, hR, hW, G, hos, hbS, hot, hs, T.trans T', B, X, P, K⟩
end Mine
end
-- R1
section
open PySem PySem.W PySem.Calls PyProof.Rows
set_option linter.all false
set_option maxRecDepth 100000
namespace Mine
theorem truthy_two {prog : Program} {w : World} {A : Around} {E : Value → Shared → Prop} {s : Shared} {a b : UInt8} {u : Tok} {Q : Bool → Shared → Prop} (h : Q true { s with toks := s.toks + 1 + 1 }) : wpAny (model prog w) A (truthy (.bytes #[a, b] u)) Q E s :=
  truthy_bytes (b := #[a, b]) (by show 2 ≤ _; decide) h
theorem signs_none : KBw.bInts #[65, 66, 67, 68, 69, 70, 71, 72, 73, 74, 75, 76, 77, 78, 79, 80, 81, 82, 83, 84, 85, 86, 87, 88, 89, 90, 97, 98, 99, 100, 101, 102, 103, 104, 105, 106, 107, 108, 109, 110, 111, 112, 113, 114, 115, 116, 117, 118, 119, 120, 121, 122, 48, 49, 50, 51, 52, 53, 54, 55, 56, 57, 43, 47] = signL 43 47 := by decide +kernel
theorem signs_two (a b : UInt8) : KBw.bInts #[65, 66, 67, 68, 69, 70, 71, 72, 73, 74, 75, 76, 77, 78, 79, 80, 81, 82, 83, 84, 85, 86, 87, 88, 89, 90, 97, 98, 99, 100, 101, 102, 103, 104, 105, 106, 107, 108, 109, 110, 111, 112, 113, 114, 115, 116, 117, 118, 119, 120, 121, 122, 48, 49, 50, 51, 52, 53, 54, 55, 56, 57, a, b] = signL a.toNat b.toNat := by rfl
local macro_rules | `(tactic| k_room) => `(tactic| k_call_by "m_room" x x)
local macro_rules | `(tactic| walk_at $k) => if ["eval ListComp", "exec Assign cons ListComp", "exec For", "AtSigns", "SortRest", "GRest", "AtInts", "compareOp NotEq bytes bytes", "GPost", "GEnd", "ListRest", "AtB"].contains k.getString then `(tactic| refine Mine.stop ?_) else Lean.Macro.throwUnsupported
local macro_rules | `(tactic| walk_at "truthy bytes") => `(tactic| refine truthy_two ?_)
local macro_rules | `(tactic| walk_at "call type:bytes") => `(tactic| ((with_reducible refine Mine.at_type_int ?_); refine call_zeros ?_; intro _ _))
local macro_rules | `(tactic| walk_at "call ref") => `(tactic| with_reducible refine Mine.stop_ref 248 ?_)
local macro_rules | `(tactic| walk_at "subscriptTail") => `(tactic| with_reducible refine Mine.stop_sub_ref ?_)
local macro_rules | `(tactic| walk_at "call ref") => `(tactic| with_reducible refine Mine.stop_ref 306 ?_)
local macro_rules | `(tactic| walk_at "call ref") => `(tactic| with_reducible refine Mine.stop_ref 313 ?_)
local macro_rules | `(tactic| walk_at "call ref") => `(tactic| with_reducible refine Mine.stop_ref 320 ?_)
local macro_rules | `(tactic| walk_at "call type:bytes") => `(tactic| with_reducible refine Mine.stop_call_type ?_)
local macro_rules | `(tactic| walk_at "subscriptTail") => `(tactic| with_reducible refine Mine.stop_sub_bytes ?_)
local macro_rules | `(tactic| walk_at "call type:type") => `(tactic| with_reducible refine Mine.type_bytes ?_)
local macro_rules | `(tactic| walk_at "setItem") => `(tactic| with_reducible refine Mine.stop_set ?_)
local macro_rules | `(tactic| walk_at "call ref") => `(tactic| with_reducible refine Mine.stop_ref 287 ?_)
local macro_rules | `(tactic| walk_at "call ref") => `(tactic| with_reducible refine Mine.stop_ref 294 ?_)
local macro_rules | `(tactic| walk_at "call ref") => `(tactic| with_reducible refine Mine.stop_ref 301 ?_)
set_option maxHeartbeats 3000000
section
variable {w : World} {loose : List Str} {mean : ExcName → Option Value} {mg mb : Str → Option Value} {base : Heap} {env : Env} {outer : List Env} {A : Around} {s : Shared} {two : Value} {x y : Int}
theorem three_of {α : Type} : ∀ {l : List α}, l.length = 3 → ∃ a b c, l = [a, b, c]
  | [a, b, c], _ => ⟨a, b, c, rfl⟩
theorem run_tells (V : TwoV two x y) (tw : Two x y) (C : CanS w loose mean mg mb base env outer A s.heap) (hr : A.depth + 60 < recursionLimit) (hu : A.units + 300 < cLine) (hh : A.handled = none) {D : Addr} {ds : List Value} {xs : List Int}
   (hD : s.heap.IsList D ds.toArray) (hDi : IntsAre ds xs) (hlen : xs.length ≤ 40) (hx : ∀ x ∈ xs, 0 ≤ x ∧ x < 1000000) :
   wpAny (model pr w) A (call (.ref 325) [.ref D, two]) (OutS env outer s (RBool true)) NoE s := by
  obtain ⟨hd0, dp, fr, gd, un⟩ := A
  obtain rfl : hd0 = none := hh
  have hr0 : dp < recursionLimit := by simp only at hr; (first | lia | omega)
  k_call_by "m_enterCS" C [(Str.ofString "deeds", Value.ref D), (Str.ofString "two", two)]
  obtain rfl : fr = some (env :: outer) := by assumption
  rename Fr _ _ _ _ => F0
  refine signs_first (D := D) (two := two) (x := x) (y := y) F0 ?_ ?_
  · clear hD hDi hlen hx
    show wpAny _ _ _ _ _ _
    k_fold
    rcases V with ⟨rfl, rfl, rfl⟩ | ⟨a, b, u, rfl, rfl, rfl⟩
    · k_steps
      exact Stop.go ⟨rfl, _, _, _, _, _, _, _, rfl, sees_cons rfl sees_nil, by assumption, by assumption, by assumption, signs_none, by assumption⟩
    · k_steps
      exact Stop.go ⟨rfl, _, _, _, _, _, _, _, rfl, sees_cons rfl sees_nil, by assumption, by assumption, by assumption, signs_two a b, by assumption⟩
  · rename News _ _ _ _ => N0
    intro h1 tk1 m1 os ot bS tS hs F1 N1 hos hbS hot
    clear F0 N0
    rw [← over_eq hs] at F1
    simp only [over] at F1
    clear hs
    refine regs_first (w := w) (loose := loose) (mean := mean) (mg := mg) (mb := mb) (base := base) (A₀ := { handled := none, depth := dp, frames := some (env :: outer), guards := gd, units := un }) (outer := env :: outer) (D := D) (two := two) (x := x) (y := y) F1 ?_ ?_
    · clear hD hDi hlen hx
      show wpAny _ _ _ _ _ _
      k_fold
      k_steps
      rename Fr _ _ _ _ => F2
      have hG : Row [0, 0, 0, 0, 0, 0, 0, 0] := ⟨rfl, by decide⟩
      refine Stop.go (assign_comp_sort F2 3 3 (fun v => ∃ b t, v = Value.bytes b t ∧ KBw.bInts b = [0, 0, 0, 0, 0, 0, 0, 0].map (letter x y)) rfl rfl (by show 3 ≤ sizeLine; decide) rfl rfl rfl rfl (by decide) rfl (by decide) rfl rfl rfl ?_)
      k_steps
      rename Fr _ _ _ _ => F3
      rename News _ _ _ _ => N3
      refine Stop.go ⟨_, _, _, _, _, rfl, by assumption, F3, N3, ?_, ?_⟩
      · intro C a t s₂ m₂ E' hC hns hmk hkeep F4 N4
        k_steps
        rename Fr _ _ _ _ => F5
        rename News _ _ _ _ => N5
        refine Stop.go (wpAny_mono (enc_row V (by exact Mine.can_of) (by k_call_by "m_room" x x) rfl hG rfl rfl rfl) (fun v s' o => ?_) fun _ _ e => e.elim)
        obtain ⟨h6, tk6, rfl, hk6, b6, t6, rfl, hb6⟩ := o
        exact ⟨⟨b6, t6, rfl, hb6⟩, h6, tk6, rfl, hk6⟩
      · intro W ys zW h6 tk6 F6 N6 hne6 hly hall
        clear F3 N3
        obtain ⟨w0, w1, w2, rfl⟩ : ∃ a b c, ys = [a, b, c] := three_of hly
        obtain ⟨b0, t0, rfl, hb0⟩ := hall w0 (by simp)
        obtain ⟨b1, t1, rfl, hb1⟩ := hall w1 (by simp)
        obtain ⟨b2, t2, rfl, hb2⟩ := hall w2 (by simp)
        obtain ⟨nl, N9, K9⟩ := runK_start F6 N6 hne6 (by assumption) hb0 hb1 hb2 hos hbS hot (sees_cons rfl (sees_cons rfl sees_nil)) (by assumption) (by assumption) (by assumption) (by assumption)
        exact ⟨rfl, _, _, _, nl, rfl, sees_cons rfl sees_nil, F6, N9, K9⟩
    · clear F1 N1 hos hbS hot
      intro h1 tk1 m1 nl hs F1 N1 K1
      show wpAny _ _ _ _ _ _
      k_fold
      rw [← over_eq hs] at F1
      simp only [over] at F1
      k_steps
      rename Fr _ _ _ _ => F7
      rename News _ _ _ _ => N7
      refine Stop.go (for_listG rfl rfl ?_)
      k_steps
      rename Fr _ _ _ _ => F8
      rename News _ _ _ _ => N8
      have e8 := over_eq hs
      simp only [over] at e8
      rw [← e8] at K1
      refine Stop.go ⟨RunK w loose mean mg mb base _ (env :: outer) s.heap _ two x y, D, ds, xs, s.heap, _, nl, rfl, rfl, hD, hDi, F8, N8, K1, ?_, ?_⟩
      · clear N8 F8 K1 hs
        rintro I oI i k t g m₁ nl h tk hk F N hI hDg ⟨R, W, ra, wa, zR, zW, os, ot, bS, tS, own, rfl, hR, hW, G, hos, hbS, hot, hs, T, B, X, P, K⟩
        rw [← over_eq hs] at F
        simp only [over] at F
        obtain ⟨hk0, hk1⟩ := hx k (List.mem_of_getElem? hk)
        clear hx hk hDi hD hlen e8
        have hMk := kstMark
        refine ints_first F N rfl rfl ?_ ?_
        · show wpAny _ _ _ _ _ _
          k_fold
          k_steps
          refine Stop.go ⟨rfl, _, _, _, k.fmod 13, (k.fdiv 13).fmod 3, (k.fdiv 39).fmod 3, ((k.fdiv 13).fmod 3 + 1).fmod 3, k.fdiv 117, _, _, _, _, _, rfl, sees_cons rfl (sees_cons rfl (sees_cons rfl (sees_cons rfl (sees_cons rfl (sees_cons rfl (sees_cons rfl sees_nil)))))), by assumption, by assumption, Int.fmod_nonneg_of_pos _ (by decide), Int.fmod_lt_of_pos _ (by decide), Int.fmod_nonneg_of_pos _ (by decide), Int.fmod_lt_of_pos _ (by decide), Int.fmod_nonneg_of_pos _ (by decide), Int.fmod_lt_of_pos _ (by decide), rfl, ?_, ?_⟩
          · rw [Int.fdiv_eq_ediv_of_nonneg _ (by decide)]; (first | lia | omega)
          · rw [Int.fdiv_eq_ediv_of_nonneg _ (by decide)]; (first | lia | omega)
        · intro h1 tk1 m kd iv jv kv pv t0 t1 t2 t3 t4 hs F1 N1 hkd0 hkd1 hi0 hi1 hj0 hj1 hkv hp0 hp1
          clear F N hk0 hk1
          rw [← over_eq hs] at F1
          simp only [over] at F1
          obtain ⟨ri, vi, zi, ni, bi, ui, gri, gwi, gmi, gii, gri', gbi⟩ := G.at hi0 hi1
          obtain ⟨rj, vj, zj, nj, bj, uj, grj, gwj, gmj, gij, grj', gbj⟩ := G.at hj0 hj1
          refine regs_three (w := w) (base := base) { handled := none, depth := dp, frames := some (env :: outer), guards := gd, units := un } (env :: outer) s.heap I D oI ds.toArray two x y iv kv pv F1 P (by assumption) ?_ ?_
          · show wpAny _ _ _ _ _ _
            k_fold
            k_steps
            rename Fr _ _ _ _ => F2
            rename News _ _ _ _ => N2
            refine Stop.go (item_at N2 (.tail _ (.head _)) hi0 (by (first | lia | omega)) gri ?_)
            k_steps
            rename Fr _ _ _ _ => F2
            rename News _ _ _ _ => N2
            refine Stop.go (item_at N2 (.tail _ (.head _)) hj0 (by (first | lia | omega)) grj ?_)
            k_steps
            have hS := due_told (p := pv) hkd0 hkd1 gri' grj'
            rename Fr _ _ _ _ => F2
            rename News _ _ _ _ => N2
            have mi := News.isList N2 (.tail _ (.tail _ (.tail _ (.tail _ (.tail _ gmi)))))
            have mj := News.isList N2 (.tail _ (.tail _ (.tail _ (.tail _ (.tail _ gmj)))))
            cases hd1 : dueF kd ni nj pv with
            | row nr =>
              cases ht1 : toldF kd (sgn (val ni)) (sgn (val nj)) pv with
              | word a => rw [hd1, ht1] at hS; exact hS.elim
              | num z =>
                rw [hd1, ht1] at hS
                refine Stop.go (use_list F2 N2 (due_gives_row (by exact Mine.can_of) (by k_call_by "m_room" x x) (by k_call_by "m_room" x x) rfl mi gii gri' mj gij grj' hkd0 hkd1 hp0 hp1 hd1) ?_)
                intro d vd zd h3 tk3 hvd F3 N3 hne3
                clear F2 N2
                k_steps
                rename Fr _ _ _ _ => F2
                rename News _ _ _ _ => N2
                refine Stop.go (item_at N2 (.tail _ (.tail _ (.tail _ (.head _)))) hi0 (by (first | lia | omega)) gwi ?_)
                k_steps
                rename Fr _ _ _ _ => F2
                rename News _ _ _ _ => N2
                refine Stop.go (use_int F2 N2 (num_row V tw (by exact Mine.can_of) (by k_call_by "m_room" x x) rfl gri' gbi) ?_)
                intro t5 h5 tk5 F5 N5
                clear F2 N2
                k_steps
                rename Fr _ _ _ _ => F2
                rename News _ _ _ _ => N2
                refine Stop.go (item_at N2 (.tail _ (.tail _ (.tail _ (.head _)))) hj0 (by (first | lia | omega)) gwj ?_)
                k_steps
                rename Fr _ _ _ _ => F2
                rename News _ _ _ _ => N2
                refine Stop.go (use_int F2 N2 (num_row V tw (by exact Mine.can_of) (by k_call_by "m_room" x x) rfl grj' gbj) ?_)
                intro t6 h6 tk6 F6 N6
                clear F2 N2
                k_steps
                rename Fr _ _ _ _ => F2
                rename News _ _ _ _ => N2
                refine Stop.go (use_SC B F2 N2 (by assumption) (by assumption) K (told_gives_num (canS_of B F2 X P K (by assumption) (by assumption)) (by k_call_by "m_room" x x) (by k_call_by "m_room" x x) rfl gri' grj' hkd0 hkd1 hp0 hp1 ht1) ?_)
                rintro g7 v7 h7 tk7 T7 B7 X7 P7 K7 F7 N7 ⟨t7, rfl⟩
                clear F2 N2
                k_steps
                all_goals (try trivial)
                rename Fr _ _ _ _ => F8
                rename News _ _ _ _ => N8
                have hdR : d ≠ R := fun e => hne3.2.1 e.symm
                refine Stop.go (set_at (pre := [(d, _), (I, _)]) F8 N8 ?_ (allNe_all hR) hi0 (by rw [G.lr]; (first | lia | omega)) (by rw [G.lr]; decide) ?_)
                · intro p hp
                  rcases List.mem_cons.mp hp with rfl | hp
                  · exact hdR
                  · rw [List.mem_singleton.mp hp]; exact fun e => hI _ (.head _) e.symm
                intro h9 F9 N9
                clear F8 N8
                simp only [List.cons_append, List.nil_append] at N9
                k_steps
                rename Fr _ _ _ _ => F2
                rename News _ _ _ _ => N2
                refine Stop.go (use_bytes F2 N2 (enc_row V (by exact can_of B7 F2 X7 P7) (by k_call_by "m_room" x x) rfl hS.1 ktbIn rfl (six_val hS.2)) ?_)
                intro b10 t10 h10 tk10 hb10 F10 N10
                clear F2 N2 ktbIn ktbLen
                k_steps
                rename Fr _ _ _ _ => F2
                rename News _ _ _ _ => N2
                refine Stop.go (set_at (pre := [(d, _), (I, _), (R, _)]) F2 N2 ?_ (allNe_all hW) hi0 (by rw [G.lw]; (first | lia | omega)) (by rw [G.lw]; decide) ?_)
                · intro p hp
                  rcases List.mem_cons.mp hp with rfl | hp
                  · exact fun e => hne3.2.2.1 e.symm
                  rcases List.mem_cons.mp hp with rfl | hp
                  · exact fun e => hI _ (.tail _ (.head _)) e.symm
                  · rw [List.mem_singleton.mp hp]; exact fun e => hR.1 e.symm
                intro h11 F11 N11
                clear F2 N2
                simp only [List.cons_append, List.nil_append] at N11
                k_steps
                rename Fr _ _ _ _ => F2
                rename News _ _ _ _ => N2
                exact Stop.go (atB_row F2 N2 hne3 hI hR hW G hvd hS.1 hb10 hos hbS hot (sees_cons rfl (sees_cons rfl sees_nil)) (sees_cons rfl (sees_cons rfl (sees_cons rfl sees_nil))) T T7 B7 X7 P7 K7 hDg)
            | word a =>
              cases ht1 : toldF kd (sgn (val ni)) (sgn (val nj)) pv with
              | num z => rw [hd1, ht1] at hS; exact hS.elim
              | word b =>
                rw [hd1, ht1] at hS
                obtain rfl : a = b := hS
                refine Stop.go (use_word F2 N2 (due_gives_word (by exact Mine.can_of) (by k_call_by "m_room" x x) (by k_call_by "m_room" x x) rfl mi gii gri' mj gij grj' hkd0 hkd1 hp0 hp1 hd1) ?_)
                intro t3' h3 tk3 F3 N3
                clear F2 N2
                k_steps
                rename Fr _ _ _ _ => F2
                rename News _ _ _ _ => N2
                refine Stop.go (item_at N2 (.tail _ (.tail _ (.head _))) hi0 (by (first | lia | omega)) gwi ?_)
                k_steps
                rename Fr _ _ _ _ => F2
                rename News _ _ _ _ => N2
                refine Stop.go (use_int F2 N2 (num_row V tw (by exact Mine.can_of) (by k_call_by "m_room" x x) rfl gri' gbi) ?_)
                intro t5 h5 tk5 F5 N5
                clear F2 N2
                k_steps
                rename Fr _ _ _ _ => F2
                rename News _ _ _ _ => N2
                refine Stop.go (item_at N2 (.tail _ (.tail _ (.head _))) hj0 (by (first | lia | omega)) gwj ?_)
                k_steps
                rename Fr _ _ _ _ => F2
                rename News _ _ _ _ => N2
                refine Stop.go (use_int F2 N2 (num_row V tw (by exact Mine.can_of) (by k_call_by "m_room" x x) rfl grj' gbj) ?_)
                intro t6 h6 tk6 F6 N6
                clear F2 N2
                k_steps
                rename Fr _ _ _ _ => F2
                rename News _ _ _ _ => N2
                refine Stop.go (use_SC B F2 N2 (by assumption) (by assumption) K (told_gives_word (canS_of B F2 X P K (by assumption) (by assumption)) (by k_call_by "m_room" x x) (by k_call_by "m_room" x x) rfl gri' grj' hkd0 hkd1 hp0 hp1 ht1) ?_)
                rintro g7 v7 h7 tk7 T7 B7 X7 P7 K7 F7 N7 ⟨t7, rfl⟩
                clear F2 N2
                k_steps
                · trivial
                · exfalso
                  rename _ = true => hq
                  simp at hq
                · rename Fr _ _ _ _ => F2
                  rename News _ _ _ _ => N2
                  exact Stop.go (atB_word F2 N2 hI hR hW G hos hbS hot (sees_cons rfl (sees_cons rfl sees_nil)) (sees_cons rfl (sees_cons rfl (sees_cons rfl sees_nil))) T T7 B7 X7 P7 K7 hDg)
          · clear F1 N1 hs
            intro g2 h2 tk2 m2 nl2 t1' t3' t4' hs2 F2 N2 hI2 hD2 K2
            obtain ⟨R2, W2, ra2, wa2, zR2, zW2, os2, ot2, bS2, tS2, own2, rfl, hR2, hW2, G2, hos2, hbS2, hot2, hs2', T2, B2, X2, P2, Kd2⟩ := K2
            clear hI hR hW G hos hbS hot hs T B X P K gri gwi gmi gii gri' gbi grj gwj gmj gij grj' gbj hkd0 hkd1 hj0 hj1 hDg
            rw [← over_eq (ps := [(Str.ofString "i", Value.int iv t1'), (Str.ofString "k", Value.int kv t3'), (Str.ofString "p", Value.int pv t4'), (Str.ofString "rows", Value.ref R2), (Str.ofString "writings", Value.ref W2)]) (m := m2) (sees_cons (hs2 _ (.head _)) (sees_cons (hs2 _ (.tail _ (.head _))) (sees_cons (hs2 _ (.tail _ (.tail _ (.head _)))) (sees_cons (hs2' _ (.head _)) (sees_cons (hs2' _ (.tail _ (.head _))) sees_nil)))))] at F2
            simp only [over] at F2
            simp only [envOfC_locals] at F2 N2 hI2 hR2 hW2
            obtain ⟨ri, vi, zi, ni, bi, ui, gri, gwi, gmi, gii, gri', gbi⟩ := G2.at hi0 hi1
            have hk0 : 0 ≤ kv := by rw [hkv]; exact Int.fmod_nonneg_of_pos _ (by decide)
            have hk1 : kv < 3 := by rw [hkv]; exact Int.fmod_lt_of_pos _ (by decide)
            obtain ⟨rk, vk, zk, nk, bk, uk, grk, gwk, gmk, gik, grk', gbk⟩ := G2.at hk0 hk1
            show wpAny _ _ _ _ _ _
            k_fold
            k_steps
            rename Fr _ _ _ _ => F3
            rename News _ _ _ _ => N3
            refine Stop.go (item_at N3 (.tail _ (.tail _ (.head _))) hi0 (by (first | lia | omega)) gwi ?_)
            k_steps
            rename Fr _ _ _ _ => F3
            rename News _ _ _ _ => N3
            refine Stop.go (item_at N3 (.tail _ (.tail _ (.head _))) hi0 (by (first | lia | omega)) gwi ?_)
            k_steps
            rename Fr _ _ _ _ => F3
            rename News _ _ _ _ => N3
            refine Stop.go (comp_listF F3 ni (letter x y) (by rw [gri'.1]; show 8 ≤ sizeLine; decide) rfl rfl (by decide) rfl (by decide) rfl ?_)
            k_steps
            rename Fr _ _ _ _ => F3
            rename News _ _ _ _ => N3
            refine Stop.go (item_at N3 (.tail _ (.head _)) hi0 (by (first | lia | omega)) gri ?_)
            k_steps
            rename Fr _ _ _ _ => F3
            rename News _ _ _ _ => N3
            have hlet : ∀ n ∈ ni.map (letter x y), 0 ≤ n ∧ n < 256 := fun n hn => by
              obtain ⟨d, hd, rfl⟩ := List.mem_map.mp hn
              exact letter_in tw (gri'.2 d hd)
            refine Stop.go ⟨_, _, _, rfl, News.isList N3 (.tail _ (.tail _ (.tail _ (.tail _ (.tail _ gmi))))), gii, F3, N3, ?_, ?_⟩
            · intro C a t s₂ m₂ E' hC ha hns hmk hkeep
              have hda := gri'.2 a ha
              k_steps
              refine Stop.go (sign_at hbS2 tw hda.1 hda.2 ?_)
              exact ⟨⟨_, rfl⟩, _, _, rfl, fun _ _ e => e⟩
            · intro Dl ys zl h4 tk4 F4 N4 hne4 hys
              clear F3 N3
              have hyl : ys.length ≤ sizeLine := by rw [hys.length, List.length_map, gri'.1]; show 8 ≤ sizeLine; decide
              k_steps
              rename Fr _ _ _ _ => F5
              rename News _ _ _ _ => N5
              refine Stop.go (call_bytes_ints (News.isList N5 (.head _)) hys hlet hyl rfl ?_)
              intro h6 t6 tk6 hk6
              have F6 := Fr.keepK F5 hk6
              have N6 := News.keepK N5 hk6
              clear F5 N5 hk6
              k_steps
              refine Stop.go (ne_bytes ?_)
              have hE : bi.toList = (byteArr (ni.map (letter x y))).toList := ints_inj (gbi.trans (KBa.ints_make hlet).symm)
              rw [show (bi.toList != (byteArr (ni.map (letter x y))).toList) = false by rw [hE]; simp]
              k_steps
              clear hne4 hys hyl hlet hE
              rename Fr _ _ _ _ => F3
              rename News _ _ _ _ => N3
              refine Stop.go (item_at N3 (.tail _ (.tail _ (.head _))) hi0 (by (first | lia | omega)) gri ?_)
              k_steps
              rename Fr _ _ _ _ => F3
              rename News _ _ _ _ => N3
              refine Stop.go (item_at N3 (.tail _ (.tail _ (.head _))) hk0 (by (first | lia | omega)) grk ?_)
              k_steps
              rename Fr _ _ _ _ => F3
              rename News _ _ _ _ => N3
              refine Stop.go (item_at N3 (.tail _ (.tail _ (.tail _ (.head _)))) hi0 (by (first | lia | omega)) gwi ?_)
              k_steps
              rename Fr _ _ _ _ => F3
              rename News _ _ _ _ => N3
              refine Stop.go (use_int F3 N3 (num_row V tw (by exact can_of B2 F3 X2 P2) (by k_call_by "m_room" x x) rfl gri' gbi) ?_)
              intro t7 h7 tk7 F7 N7
              clear F3 N3
              k_steps
              rename Fr _ _ _ _ => F3
              rename News _ _ _ _ => N3
              refine Stop.go (item_at N3 (.tail _ (.tail _ (.tail _ (.head _)))) hk0 (by (first | lia | omega)) gwk ?_)
              k_steps
              rename Fr _ _ _ _ => F3
              rename News _ _ _ _ => N3
              refine Stop.go (use_int F3 N3 (num_row V tw (by exact can_of B2 F3 X2 P2) (by k_call_by "m_room" x x) rfl grk' gbk) ?_)
              intro t8 h8 tk8 F8 N8
              clear F3 N3
              k_steps
              rename Fr _ _ _ _ => F3
              rename News _ _ _ _ => N3
              refine Stop.go (use_bool F3 N3 (held_row (by exact can_of B2 F3 X2 P2) (by k_call_by "m_room" x x) (by k_call_by "m_room" x x) rfl (News.isList N3 (.tail _ (.tail _ (.tail _ (.tail _ (.tail _ (.tail _ gmi))))))) gii gri' (News.isList N3 (.tail _ (.tail _ (.tail _ (.tail _ (.tail _ (.tail _ gmk))))))) gik grk') ?_)
              intro h9 tk9 F9 N9
              clear F3 N3
              k_steps
              rename Fr _ _ _ _ => F3
              rename News _ _ _ _ => N3
              refine Stop.go (item_at N3 (.tail _ (.tail _ (.tail _ (.head _)))) hi0 (by (first | lia | omega)) gwi ?_)
              k_steps
              rename Fr _ _ _ _ => F3
              rename News _ _ _ _ => N3
              refine Stop.go (item_at N3 (.tail _ (.tail _ (.head _))) hi0 (by (first | lia | omega)) gri ?_)
              k_steps
              rename Fr _ _ _ _ => F3
              rename News _ _ _ _ => N3
              have mri := N3 _ (.tail _ (.tail _ (.tail _ (.tail _ (.tail _ (.tail _ gmi))))))
              refine Stop.go (use_SC B2 F3 N3 (by assumption) (by assumption) Kd2 (signs_tells (canS_of B2 F3 X2 P2 Kd2 (by assumption) (by assumption)) (by k_call_by "m_room" x x) rfl tw gri' gbi (News.isList N3 (.tail _ (.tail _ (.tail _ (.tail _ (.tail _ (.tail _ gmi))))))) ⟨_, mri.1, rfl⟩ gii hbS2 hp0) ?_)
              rintro g10 v10 h10 tk10 T10 B10 X10 P10 K10 F10 N10 rfl
              clear F3 N3 mri
              k_steps
              rename Fr _ _ _ _ => F3
              rename News _ _ _ _ => N3
              refine Stop.go (item_at N3 (.tail _ (.tail _ (.tail _ (.head _)))) hi0 (by (first | lia | omega)) gwi ?_)
              k_steps
              rename Fr _ _ _ _ => F3
              rename News _ _ _ _ => N3
              refine Stop.go (use_SC B10 F3 N3 (by assumption) (by assumption) K10 (strewn_row V tw (canS_of B10 F3 X10 P10 K10 (by assumption) (by assumption)) (by k_call_by "m_room" x x) rfl gri' gbi hp0) ?_)
              rintro g11 v11 h11 tk11 T11 B11 X11 P11 K11 F11 N11 rfl
              clear F3 N3
              k_steps
              rename Fr _ _ _ _ => F3
              rename News _ _ _ _ => N3
              exact Stop.go (gend_of F3 N3 hI2 hR2 hW2 G2 hos2 hbS2 hot2 (sees_cons rfl (sees_cons rfl sees_nil)) T2 (T10.trans T11) B11 X11 P11 K11 hD2)
      · clear N8 F8 K1 hs
        rintro g m₁ nl h tk F N ⟨R, W, ra, wa, zR, zW, os, ot, bS, tS, own, rfl, hR, hW, G, hos, hbS, hot, hs, T, B, X, P, K⟩
        show wpAny _ _ _ _ _ _
        k_steps
        exact outS T (by assumption) rfl
end
end Mine
end
-- law
open PySem PySem.W PySem.Calls PyProof.Rows
set_option linter.all false
set_option maxRecDepth 100000
namespace Mine
theorem own_in {ns : List Int} {x : Int} (h : x ∈ [91, 479712, 466855, 41, 66, 958, 1557, 1311, 83, 19, 5754, 22, 2350, 42, 69, 33] ++ List.map (fun k' : Int => k'.fmod (10 ^ Int.toNat 6)) (List.take 20 ns)) : 0 ≤ x ∧ x < 1000000 := by
  rcases List.mem_append.mp h with h | h
  · have k : ∀ z ∈ [(91 : Int), 479712, 466855, 41, 66, 958, 1557, 1311, 83, 19, 5754, 22, 2350, 42, 69, 33], 0 ≤ z ∧ z < 1000000 := by decide
    exact k x h
  · obtain ⟨d, _, rfl⟩ := List.mem_map.mp h
    have e : (10 : Int) ^ Int.toNat 6 = 1000000 := by decide
    show 0 ≤ d.fmod (10 ^ Int.toNat 6) ∧ d.fmod (10 ^ Int.toNat 6) < 1000000
    rw [e]
    exact ⟨Int.fmod_nonneg_of_pos _ (by decide), Int.fmod_lt_of_pos _ (by decide)⟩
theorem own_len {ns : List Int} : ([91, 479712, 466855, 41, 66, 958, 1557, 1311, 83, 19, 5754, 22, 2350, 42, 69, 33] ++ List.map (fun k' : Int => k'.fmod (10 ^ Int.toNat 6)) (List.take 20 ns)).length ≤ 40 := by
  rw [List.length_append, List.length_map, List.length_take]
  show 16 + min 20 ns.length ≤ 40
  omega
theorem fr_turn {g g' h h' : Heap} {L : Addr} {m m' : Str → Option Value} (F : Fr g L h m) (T : KtsTurn [] g g') (F' : Fr g' L h' m') : Fr g L h' m' := ⟨F'.ns, fun b o e => F'.keep b o (T.other b o e (fun h => nomatch h)), F.above⟩
end Mine
local macro_rules | `(tactic| walk_at "call ref") => `(tactic| with_reducible refine Mine.stop_ref 325 ?_)
local macro_rules | `(tactic| k_room) => `(tactic| k_call_by "m_room" x x)
local macro_rules | `(tactic| k_qdec) => `(tactic| decide +kernel)
set_option maxHeartbeats 8000000 in
theorem PySem.Challenge.cw_aa0013_01_holds : PySem.Challenge.rw_aa0013_01.Holds := by
  refine Mine.hd ?_
  k_go0
  (all_goals try k_fold)
  k_steps
  · rename Fr _ _ _ _ => F1
    rename News _ _ _ _ => N1
    rename Below _ _ _ _ => B1
    rename Frag.In _ _ => X1
    rename Top _ _ _ _ _ _ => T1
    rename IntsAre _ (_ ++ _) => I1
    refine Mine.Stop.go (Mine.use_SC B1 F1 N1 X1 T1 (fun _ h => nomatch h) (Mine.run_tells (two := Value.none) (x := 43) (y := 47) (.inl ⟨rfl, rfl, rfl⟩) (.inl ⟨rfl, rfl⟩) (Mine.canS_of B1 F1 X1 T1 (fun _ h => nomatch h) X1 T1) (by show callerA.depth + 1 + 60 < recursionLimit; decide) (by dsimp only [Around.deeper, callerA]; decide) rfl (News.isList N1 (.head _)) I1 Mine.own_len (fun _ h => Mine.own_in h)) ?_)
    rintro g9 v9 h9 tk9 T9 B9 X9 P9 K9 F9 N9 rfl
    have F10 := Mine.fr_turn F1 T9 F9
    clear F9 N9 F1 N1 B9 X9 P9 K9 T9
    k_steps
  · rename Fr _ _ _ _ => F1
    rename News _ _ _ _ => N1
    rename Below _ _ _ _ => B1
    rename Frag.In _ _ => X1
    rename Top _ _ _ _ _ _ => T1
    rename IntsAre _ (_ ++ _) => I1
    refine Mine.Stop.go (Mine.use_SC B1 F1 N1 X1 T1 (fun _ h => nomatch h) (Mine.run_tells (two := Value.bytes #[45, 95] _) (x := 45) (y := 95) (.inr ⟨45, 95, _, rfl, rfl, rfl⟩) (.inr (.inl ⟨rfl, rfl⟩)) (Mine.canS_of B1 F1 X1 T1 (fun _ h => nomatch h) X1 T1) (by show callerA.depth + 1 + 60 < recursionLimit; decide) (by dsimp only [Around.deeper, callerA]; decide) rfl (News.isList N1 (.head _)) I1 Mine.own_len (fun _ h => Mine.own_in h)) ?_)
    rintro g9 v9 h9 tk9 T9 B9 X9 P9 K9 F9 N9 rfl
    have F10 := Mine.fr_turn F1 T9 F9
    clear F9 N9 F1 N1 B9 X9 P9 K9 T9
    k_steps
  · rename Fr _ _ _ _ => F1
    rename News _ _ _ _ => N1
    rename Below _ _ _ _ => B1
    rename Frag.In _ _ => X1
    rename Top _ _ _ _ _ _ => T1
    rename IntsAre _ (_ ++ _) => I1
    refine Mine.Stop.go (Mine.use_SC B1 F1 N1 X1 T1 (fun _ h => nomatch h) (Mine.run_tells (two := Value.bytes #[33, 126] _) (x := 33) (y := 126) (.inr ⟨33, 126, _, rfl, rfl, rfl⟩) (.inr (.inr (.inl ⟨rfl, rfl⟩))) (Mine.canS_of B1 F1 X1 T1 (fun _ h => nomatch h) X1 T1) (by show callerA.depth + 1 + 60 < recursionLimit; decide) (by dsimp only [Around.deeper, callerA]; decide) rfl (News.isList N1 (.head _)) I1 Mine.own_len (fun _ h => Mine.own_in h)) ?_)
    rintro g9 v9 h9 tk9 T9 B9 X9 P9 K9 F9 N9 rfl
    have F10 := Mine.fr_turn F1 T9 F9
    clear F9 N9 F1 N1 B9 X9 P9 K9 T9
    k_steps
  · rename Fr _ _ _ _ => F1
    rename News _ _ _ _ => N1
    rename Below _ _ _ _ => B1
    rename Frag.In _ _ => X1
    rename Top _ _ _ _ _ _ => T1
    rename IntsAre _ (_ ++ _) => I1
    refine Mine.Stop.go (Mine.use_SC B1 F1 N1 X1 T1 (fun _ h => nomatch h) (Mine.run_tells (two := Value.bytes #[47, 43] _) (x := 47) (y := 43) (.inr ⟨47, 43, _, rfl, rfl, rfl⟩) (.inr (.inr (.inr ⟨rfl, rfl⟩))) (Mine.canS_of B1 F1 X1 T1 (fun _ h => nomatch h) X1 T1) (by show callerA.depth + 1 + 60 < recursionLimit; decide) (by dsimp only [Around.deeper, callerA]; decide) rfl (News.isList N1 (.head _)) I1 Mine.own_len (fun _ h => Mine.own_in h)) ?_)
    rintro g9 v9 h9 tk9 T9 B9 X9 P9 K9 F9 N9 rfl
    have F10 := Mine.fr_turn F1 T9 F9
    clear F9 N9 F1 N1 B9 X9 P9 K9 T9
    k_steps
